import Derived.Test.Qxb6602321aFlR
import Derived.Deep.DeepCutAuto
import Derived.Deep.CutBlock
namespace Go.Proofs.Qxb6602321a.Fl
open Go.ChangeShapes Go.WideShapes Go.ChangeAt Go.RowKit
set_option linter.unusedVariables false

theorem model_zero (ap : Option Addr) (c : Nat) (w : World) : Calls Try.prog 11 #[.slice ap 0 c] w fun e w' => e = .returned (.float .f64 0) ∧ w' = w := by
  go_enter Try.func11, Try.ntmps11
  go_wp2_with fail
  go_ret
  exact ⟨rfl, rfl⟩

def MrRet (p : Nat → Nat) (n : Nat) (e : Ending) : Prop := ∃ z, e = .returned (.float .f64 z) ∧ Fin' z ∧ (pre (fun k => V (p k)) n = 0 → z = p 0) ∧ (pre (fun k => V (p k)) n ≠ 0 → V z = R (pre (fun k => V (p k)) n))

set_option maxRecDepth 20000 in
set_option maxHeartbeats 2000000 in
theorem model_any (p : Nat → Nat) {w : World} {g n c : Nat} (hn : n ≤ 4096) (hn0 : 0 < n) (hr : w.rowIs g 25 n (fun i => .float .f64 (p i))) (hok : OKp p n) :
    Calls Try.prog 11 #[.slice (some ⟨g, 0, none⟩) n c] w fun e w' => MrRet p n e ∧ w.grownBy w' none := by
  have A := hide hr
  have OK := hide hok
  have ML : Hid (∀ k, k < n → mg (rung (p k)) < 2 ^ T) := fun k hk => hok.all_lt (n - 1 - k) k (by omega)
  clear hr hok
  go_enter Try.func11, Try.ntmps11
  go_upto_region 4 with (at_make; (with_reducible refine wpList_mk ?_ (.const (.int .i64 70)) (.const (.int .i64 70)) 35 ?_ 31 (.int .u64 0) 8 Try.underlying35 info31 ?_ .i64 .i64 70 ?_ ?_ ?_ ?_ ?_); rfl; rfl; rfl; rfl; rfl; omega; omega; intro w0 ga hga hra Ga)
  go_wp2_with (at_make; (with_reducible refine wpList_mk ?_ (.const (.int .i64 70)) (.const (.int .i64 70)) 35 ?_ 31 (.int .u64 0) 8 Try.underlying35 info31 ?_ .i64 .i64 70 ?_ ?_ ?_ ?_ ?_); rfl; rfl; rfl; rfl; rfl; omega; omega; intro w1 g1 hg1 hr1 G1)
  have La : Hid (LRow w1 ga (fun _ => 0)) := (LRow.made hra.out).on G1.out
  have Lb : Hid (LRow w1 g1 (fun _ => 0)) := LRow.made hr1.out
  have hg1w : w.heap.size ≤ g1 := by have := Ga.out.size; omega
  have hne : ga ≠ g1 := by have := hra.out.lt; omega
  have hne' : g1 ≠ ga := fun e => hne e.symm
  have GW : Hid (w.grownBy w1 none) := Ga.out.trans G1.out
  clear hra hr1 Ga G1 hg1
  go_loopw [5, 6, 7] (fun u x y wr => ∃ (k : Nat) (a b : Nat → Nat), k ≤ n ∧ u = .int .i64 k ∧ Hid (LRow wr ga a) ∧ Hid (LRow wr g1 b) ∧ Sums p k (LV a 70) (LV b 70) ∧ Hid (w.grownBy wr none)) (fun u _ _ _ => n - (intOf u).toNat)
  case atStart => exact ⟨0, fun _ => 0, fun _ => 0, by omega, rfl, La, Lb, by rw [LV_zero]; exact Sums.start p, GW⟩
  case round =>
    obtain ⟨k, a, b, hk, rfl, LA, LB', S, G⟩ := hrel
    clear La Lb GW
    by_cases hlt : k < n
    · have c1 : wr.cell? ⟨g, k, none⟩ = some (.float .f64 (p k)) := (row_grown A.out G.out).cell hlt
      have F1 := hide (OK.out.fin k hlt)
      by_cases hz : V (p k) = 0
      · have o1 : (FloatKind.f64.format.order (p k) 0 == some .eq) = true := eql_t F1.out fin_zero (by rw [V_zero]; exact hz)
        have HZ := hide hz
        clear hz
        go_wp2_with fail
        go_roundw
        case rel => exact ⟨k + 1, a, b, by omega, by go_num, LA, LB', S.skip HZ.out, G⟩
        case measure => simp [intOf]; omega
      · have o1 : (FloatKind.f64.format.order (p k) 0 == some .eq) = false := eql_f F1.out fin_zero (by rw [V_zero]; exact hz)
        have HZ := hide hz
        have HM := hide (ML.out k hlt)
        go_wp2_with fail
        refine (dec_any (p k) wr F1.out HZ.out).mono ?_
        rintro _ w' ⟨⟨m, ka, rfl, D1⟩, hw⟩
        have hw := hw.symm
        subst hw
        have D1' := hide D1
        have ka1 := D1.kl
        have ka2 := D1.e_le HM.out
        clear D1
        by_cases hp : 0 < V (p k)
        · have o2 : (FloatKind.f64.format.order (p k) 0 == some .gt) = true := gtr_t F1.out fin_zero (by rw [V_zero]; exact hp)
          have HP := hide hp
          clear hp hz
          go_wp2_with fail
          refine (addScaled_any ga a (p k) m ka wr LA.out D1'.out (S.fits (by omega) HM.out).1 ka2).mono ?_
          rintro _ w' ⟨rfl, ⟨a', l1, l2⟩, g2⟩
          have LA2 := hide l1
          have LB2 : Hid (LRow w' g1 b) := LB'.out.beside g2 hne'
          have S2 : Sums p (k + 1) (LV a' 70) (LV b 70) := S.add HP.out HM.out l2
          have G2 : Hid (w.grownBy w' none) := grown_own G.out g2 hga
          clear l1 l2 g2
          go_wp2_with fail
          go_roundw
          case rel => exact ⟨k + 1, a', b, by omega, by go_num, LA2, LB2, S2, G2⟩
          case measure => simp [intOf]; omega
        · have o2 : (FloatKind.f64.format.order (p k) 0 == some .gt) = false := gtr_f F1.out fin_zero (by rw [V_zero]; omega)
          have HP : Hid (V (p k) < 0) := by show _ < _; have := HZ.out; omega
          clear hp hz
          go_wp2_with fail
          refine (addScaled_any g1 b (p k) m ka wr LB'.out D1'.out (S.fits (by omega) HM.out).2 ka2).mono ?_
          rintro _ w' ⟨rfl, ⟨b', l1, l2⟩, g2⟩
          have LB2 := hide l1
          have LA2 : Hid (LRow w' ga a) := LA.out.beside g2 hne
          have S2 : Sums p (k + 1) (LV a 70) (LV b' 70) := S.sub HP.out HM.out l2
          have G2 : Hid (w.grownBy w' none) := grown_own G.out g2 hg1w
          clear l1 l2 g2
          go_wp2_with fail
          go_roundw
          case rel => exact ⟨k + 1, a, b', by omega, by go_num, LA2, LB2, S2, G2⟩
          case measure => simp [intOf]; omega
    · have hkn : n = k := by omega
      subst hkn
      obtain ⟨M, hM⟩ : ∃ M, M = (pre (fun k => V (p k)) n).natAbs := ⟨_, rfl⟩
      obtain ⟨ng, hng⟩ : ∃ ng, ng = decide (pre (fun k => V (p k)) n < 0) := ⟨_, rfl⟩
      have HM := hide hM
      have HNG := hide hng
      have MT : Hid (M ≤ 2 ^ T) := by show M ≤ _; rw [hM]; exact OK.out.tot hn0
      clear hM hng hlt hk
      go_wp2_with fail
      refine (cmpMag_any ga g1 a b wr LA.out LB'.out).mono ?_
      rintro _ w' ⟨hc, kd, rfl⟩
      obtain ⟨cv, rfl, hcv⟩ : ∃ cv : Int, _ = Ending.returned (.int .i64 cv) ∧ ((cv = -1 ∧ LV a 70 < LV b 70) ∨ (cv = 1 ∧ LV b 70 < LV a 70) ∨ (cv = 0 ∧ LV a 70 = LV b 70)) := by
        rcases hc with ⟨h1, h2⟩ | ⟨h1, h2⟩ | ⟨h1, h2⟩
        · exact ⟨-1, h2, .inl ⟨rfl, h1⟩⟩
        · exact ⟨1, h2, .inr (.inl ⟨rfl, h1⟩)⟩
        · exact ⟨0, h2, .inr (.inr ⟨rfl, h1⟩)⟩
      have HCV := hide hcv
      clear hc hcv
      by_cases hz : cv = 0
      · subst hz
        have c0 : wr.cell? ⟨g, 0, none⟩ = some (.float .f64 (p 0)) := (row_grown A.out G.out).cell hn0
        have HE : Hid (pre (fun k => V (p k)) n = 0) := by
          have h1 := S.eq
          have h2 := HCV.out
          show _ = _
          omega
        clear S HCV
        go_wp2_with fail
        go_ret
        exact ⟨⟨p 0, rfl, OK.out.fin 0 hn0, fun _ => rfl, fun h => absurd HE.out h⟩, G.out.trans (grown_drewN _ _ _)⟩
      · have hz1 : (cv == 0) = false := by simp; exact hz
        have HNE : Hid (pre (fun k => V (p k)) n ≠ 0) := by
          have h1 := S.eq
          have h2 := HCV.out
          show ¬ _ = _
          omega
        have HM0 : Hid (0 < M) := by show 0 < M; rw [HM.out]; have := HNE.out; omega
        have HZ := hide hz
        clear hz
        go_upto_if 66 with fail
        go_cut [9, 10] (fun s9 s10 wx => ∃ (gd : Nat) (d : Nat → Nat), s9 = .bool ng ∧ s10 = .slice (some ⟨gd, 0, none⟩) 70 70 ∧ Hid (LRow wx gd d) ∧ Hid (LV d 70 = M) ∧ Hid (w.grownBy wx none))
        case first =>
          have LA3 : Hid (LRow (wr.drewN kd) ga a) := LA.out.on (grown_drewN _ _ _)
          have LB3 : Hid (LRow (wr.drewN kd) g1 b) := LB'.out.on (grown_drewN _ _ _)
          have G3 : Hid (w.grownBy (wr.drewN kd) none) := G.out.trans (grown_drewN _ _ _)
          rcases HCV.out with ⟨rfl, h1⟩ | ⟨rfl, h1⟩ | ⟨rfl, h1⟩
          · have hngt : ng = true := by rw [HNG.out]; have := S.eq; simp; omega
            have HMM : Hid (LV b 70 - LV a 70 = M) := by show _ = _; rw [HM.out]; have := S.eq; omega
            subst hngt
            go_wp2_with fail
            refine (subMag_any g1 ga b a _ LB3.out LA3.out (by omega)).mono ?_
            rintro _ w' ⟨gd, d, rfl, l1, l2, l3⟩
            have L1 := hide l1
            have L2 : Hid (LV d 70 = M) := l2.trans HMM.out
            have L3 : Hid (w.grownBy w' none) := G3.out.trans l3
            clear l1 l2 l3 h1
            go_wp2_with fail
            go_meet
            exact ⟨gd, d, rfl, rfl, L1, L2, L3⟩
          · have hngt : ng = false := by rw [HNG.out]; have := S.eq; simp; omega
            have HMM : Hid (LV a 70 - LV b 70 = M) := by show _ = _; rw [HM.out]; have := S.eq; omega
            subst hngt
            go_wp2_with fail
            refine (subMag_any ga g1 a b _ LA3.out LB3.out (by omega)).mono ?_
            rintro _ w' ⟨gd, d, rfl, l1, l2, l3⟩
            have L1 := hide l1
            have L2 : Hid (LV d 70 = M) := l2.trans HMM.out
            have L3 : Hid (w.grownBy w' none) := G3.out.trans l3
            clear l1 l2 l3 h1
            go_wp2_with fail
            go_meet
            exact ⟨gd, d, rfl, rfl, L1, L2, L3⟩
          · exact absurd rfl HZ.out
        case rest =>
          obtain ⟨gd, d, rfl, rfl, LD, LM, GD⟩ := hcut
          clear S HCV HZ hz1 LA LB' G
          have BT : Hid (∀ j, j < 2240 → bt d j = M / 2 ^ j % 2) := fun j hj => by rw [← LM.out]; exact bt_eq LD.out.lt (by omega)
          have BA : Hid (∀ j : Nat, j < 2240 → Calls Try.prog 24 #[.slice (some ⟨gd, 0, none⟩) 70 70, .int .i64 j] wc fun e w' => e = .returned (.int .u64 (bt d j)) ∧ w' = wc) := fun j hj => bitAt_any gd j d wc LD.out hj
          have MB : Hid (Under M 2239) := under_of (by rw [LB_eq]) (by rw [← LM.out]; exact LD.out.lt_all)
          clear LM LD
          go_upto_block 2 with fail
          go_cut [11] (fun s11 wx => ∃ h : Nat, s11 = .int .i64 h ∧ h ≤ 2239 ∧ Hid (Top M h) ∧ wx = wc)
          case first =>
            go_wp2_with fail
            go_loopw [11] (fun u wx => ∃ h : Nat, h ≤ 2239 ∧ u = .int .i64 h ∧ Hid (Under M h) ∧ wx = wc) (fun u _ => (intOf u).toNat)
            case atStart => exact ⟨2239, by omega, rfl, MB, rfl⟩
            case round =>
              obtain ⟨h, hh, rfl, UM, hw⟩ := hrel
              have hw := hw.symm
              subst hw
              by_cases hz : h = 0
              · subst hz
                have TP : Hid (Top M 0) := by
                  have h1 := UM.out
                  unfold Under at h1
                  exact ⟨HM0.out, h1⟩
                go_wp2_with fail
                go_meet
                exact ⟨0, rfl, by omega, TP, by trivial⟩
              · have hpos : (0 : Int) < h := by omega
                go_wp2_with fail
                refine (BA.out h (by omega)).mono ?_
                rintro _ w' ⟨rfl, hw⟩
                have hw := hw.symm
                subst hw
                have hbt := BT.out h (by omega)
                by_cases hb : bt d h = 0
                · have hb1 : ((bt d h : Int) == 0) = true := by rw [hb]; rfl
                  have UM2 : Hid (Under M (h - 1)) := by
                    show M < _
                    rw [show h - 1 + 1 = h by omega]
                    exact lg_next UM.out (by omega)
                  clear hbt hb
                  go_wp2_with fail
                  go_roundw
                  case rel => exact ⟨h - 1, by omega, by go_num, UM2, by trivial⟩
                  case measure => simp [intOf]; omega
                · have hb1 : ((bt d h : Int) == 0) = false := by simp; omega
                  have TP : Hid (Top M h) := ⟨lg_done (by have := bt_lt d h; omega), UM.out⟩
                  clear hbt hb
                  go_wp2_with fail
                  go_meet
                  exact ⟨h, rfl, by omega, TP, by trivial⟩
          case rest =>
            obtain ⟨h, rfl, hh, TP, hw⟩ := hcut
            subst hw
            obtain ⟨s, hs⟩ : ∃ s, s = h - 52 := ⟨_, rfl⟩
            have hsh : s ≤ h := by omega
            clear MB
            go_upto_if 84 with fail
            go_cut [12] (fun s12 wx => s12 = .int .i64 s ∧ wx = wc)
            case first =>
              by_cases h52 : 52 < h
              · have hsI : (h : Int) - 52 = s := by omega
                clear hs
                go_wp2_with fail
                go_meet
                exact ⟨by go_num, rfl⟩
              · have hs0 : s = 0 := by omega
                subst hs0
                go_wp2_with fail
                go_meet
                exact ⟨rfl, rfl⟩
            case rest =>
              obtain ⟨rfl, hw⟩ := hcut
              subst hw
              have HS := hide hs
              clear hs
              go_wp2_with fail
              go_loopw [13, 14] (fun x u wx => ∃ q j : Nat, s ≤ j ∧ j ≤ h + 1 ∧ x = .int .u64 q ∧ u = .int .i64 ((j : Int) - 1) ∧ q < 9007199254740992 ∧ Hid (q = M / 2 ^ j) ∧ wx = wc) (fun _ u _ => (intOf u + 1).toNat)
              case atStart =>
                refine ⟨0, h + 1, by omega, by omega, rfl, by go_num, by omega, ?_, rfl⟩
                show 0 = _
                rw [Nat.div_eq_of_lt TP.out.hi]
              case round =>
                obtain ⟨q, j, hj1, hj2, rfl, rfl, hq, HQ, hw⟩ := hrel
                have hw := hw.symm
                subst hw
                by_cases hjs : j = s
                · have hjs := hjs.symm
                  subst hjs
                  have hle : (s : Int) - 1 < s := by omega
                  go_upto_if 100 with fail
                  go_cut [12, 13, 14] (fun s12 s13 s14 wx => ∃ s' q' : Nat, s12 = .int .i64 s' ∧ s13 = .int .u64 q' ∧ s' ≤ 2240 ∧ q' ≤ 9007199254740992 ∧ Hid (Mant M s' q') ∧ wx = wc)
                  case first =>
                    by_cases hs0 : s = 0
                    · subst hs0
                      have HMA : Hid (Mant M 0 q) := Mant.plain TP.out (by have := HS.out; omega) q HQ.out
                      go_wp2_with fail
                      go_meet
                      exact ⟨0, q, rfl, rfl, by omega, by omega, HMA, by trivial⟩
                    · obtain ⟨s1, rfl⟩ : ∃ s1, s = s1 + 1 := ⟨s - 1, by omega⟩
                      have hspos : (0 : Int) < ((s1 + 1 : Nat) : Int) := by omega
                      have hs1 : ((s1 + 1 : Nat) : Int) - 1 = s1 := by omega
                      go_wp2_with fail
                      go_loopw [15, 16] (fun x u wx => ∃ j : Nat, j ≤ s1 ∧ x = .bool (stick M j) ∧ u = .int .i64 j ∧ wx = wc) (fun _ u _ => s1 - (intOf u).toNat)
                      case atStart => exact ⟨0, by omega, by rw [stick_zero], rfl, rfl⟩
                      case round =>
                        obtain ⟨j, hj, rfl, rfl, hw⟩ := hrel
                        have hw := hw.symm
                        subst hw
                        by_cases hjs : j < s1
                        · go_wp2_with fail
                          refine (BA.out j (by omega)).mono ?_
                          rintro _ w' ⟨rfl, hw⟩
                          have hw := hw.symm
                          subst hw
                          have hbt := BT.out j (by omega)
                          by_cases hb : bt d j = 1
                          · have hb1 : ((bt d j : Int) == 1) = true := by rw [hb]; rfl
                            have ST : Hid (stick M (j + 1) = true) := stick_one (by omega)
                            clear hbt hb
                            go_wp2_with fail
                            go_roundw
                            case rel => exact ⟨j + 1, by omega, by rw [ST.out], by go_num, by trivial⟩
                            case measure => simp [intOf]; omega
                          · have hb1 : ((bt d j : Int) == 1) = false := by simp; omega
                            have ST : Hid (stick M (j + 1) = stick M j) := stick_nil (by have := bt_lt d j; omega)
                            clear hbt hb
                            go_wp2_with fail
                            go_roundw
                            case rel => exact ⟨j + 1, by omega, by rw [ST.out], by go_num, by trivial⟩
                            case measure => simp [intOf]; omega
                        · have hjs : s1 = j := by omega
                          subst hjs
                          go_upto_region 40 with fail
                          go_cut [15, 123] (fun s15 s123 wx => s15 = .bool (stick M s1) ∧ s123 = .bool (up M s1) ∧ wx = wc)
                          case first =>
                            go_wp2_with fail
                            refine (BA.out s1 (by omega)).mono ?_
                            rintro _ w' ⟨rfl, hw⟩
                            have hw := hw.symm
                            subst hw
                            have hbt := BT.out s1 (by omega)
                            by_cases hb : bt d s1 = 1
                            · have hb1 : ((bt d s1 : Int) == 1) = true := by rw [hb]; rfl
                              have hand := bits_and_u64_nat q 1 (by omega) (by omega)
                              rw [Nat.and_one_is_mod] at hand
                              have hand : bits .and .u64 (q : Int) 1 = ((q % 2 : Nat) : Int) := hand
                              cases hst : stick M s1 with
                              | true =>
                                have UP : Hid (up M s1 = true) := by
                                  show _ = _
                                  unfold up
                                  rw [hst, ← hbt, hb]; rfl
                                clear hbt hb
                                go_wp2_with fail
                                go_meet
                                exact ⟨by first | rfl | rw [hst], by rw [UP.out], by trivial⟩
                              | false =>
                                by_cases hq1 : q % 2 = 1
                                · have UP : Hid (up M s1 = true) := by
                                    show _ = _
                                    unfold up
                                    rw [hst, ← hbt, hb, ← HQ.out, hq1]; rfl
                                  rw [hq1] at hand
                                  clear hbt hb
                                  go_wp2_with fail
                                  go_meet
                                  exact ⟨by first | rfl | rw [hst], by rw [UP.out], by trivial⟩
                                · have hq0 : q % 2 = 0 := by omega
                                  have UP : Hid (up M s1 = false) := by
                                    show _ = _
                                    unfold up
                                    rw [hst, ← hbt, hb, ← HQ.out, hq0]; rfl
                                  rw [hq0] at hand
                                  clear hbt hb hq1
                                  go_wp2_with fail
                                  go_meet
                                  exact ⟨by first | rfl | rw [hst], by rw [UP.out], by trivial⟩
                            · have hb0 : bt d s1 = 0 := by have := bt_lt d s1; omega
                              have hb1 : ((bt d s1 : Int) == 1) = false := by rw [hb0]; rfl
                              have UP : Hid (up M s1 = false) := by
                                show _ = _
                                unfold up
                                rw [← hbt, hb0]; rfl
                              clear hbt hb hb0
                              go_wp2_with fail
                              go_meet
                              exact ⟨by first | rfl | rw [hst], by rw [UP.out], by trivial⟩
                          case rest =>
                            obtain ⟨rfl, rfl, hw⟩ := hcut
                            have hw := hw.symm
                            subst hw
                            cases hup : up M s1 with
                            | true =>
                              have HMA : Hid (Mant M (s1 + 1) (q + 1)) := Mant.round TP.out HS.out (by omega) (by rw [up_t hup, HQ.out])
                              by_cases h53 : q + 1 = 9007199254740992
                              · have h53' : ((q : Int) + 1 == 9007199254740992) = true := by simp; omega
                                have HMC : Hid (Mant M (s1 + 1 + 1) 4503599627370496) := Mant.carry (by rw [h53] at HMA; exact HMA.out) (by omega)
                                have H53 := hide h53
                                clear h53
                                go_wp2_with fail
                                go_meet
                                exact ⟨s1 + 1 + 1, 4503599627370496, by go_num, rfl, by omega, by omega, HMC, by trivial⟩
                              · have h53' : ((q : Int) + 1 == 9007199254740992) = false := by simp; omega
                                have H53 := hide h53
                                clear h53
                                go_wp2_with fail
                                go_meet
                                exact ⟨s1 + 1, q + 1, by go_num, by go_num, by omega, by omega, HMA, by trivial⟩
                            | false =>
                              have HMA : Hid (Mant M (s1 + 1) q) := Mant.round TP.out HS.out (by omega) (by rw [up_f hup, HQ.out])
                              have h53' : ((q : Int) == 9007199254740992) = false := by simp; omega
                              go_wp2_with fail
                              go_meet
                              exact ⟨s1 + 1, q, by go_num, rfl, by omega, by omega, HMA, by trivial⟩
                  case rest =>
                    obtain ⟨s', q', rfl, rfl, hs', hq', MA, hw⟩ := hcut
                    have hw := hw.symm
                    subst hw
                    have HS' := hide hle
                    clear hle
                    go_wp2_with fail
                    go_loopw [17, 18] (fun x u wx => ∃ f m : Nat, x = .float .f64 f ∧ u = .int .i64 ((s' : Int) - m) ∧ m ≤ 1074 ∧ (m = 1074 ∨ s' ≤ m) ∧ Hid (Und q' m f) ∧ wx = wc) (fun _ u _ => (-(intOf u)).toNat)
                    case atStart =>
                      refine ⟨_, 1074, rfl, rfl, by omega, .inl rfl, ?_, rfl⟩
                      have h1 := und_start hq'
                      rw [B_eq] at h1
                      exact h1
                    case round =>
                      obtain ⟨f, m, rfl, rfl, hm1, hm2, UN, hw⟩ := hrel
                      have hw := hw.symm
                      subst hw
                      by_cases hms : s' < m
                      · obtain ⟨m1, rfl⟩ : ∃ m1, m = m1 + 1 := ⟨m - 1, by omega⟩
                        obtain ⟨f', h1, h2⟩ := UN.out.half hq' (by rw [B_eq]; omega)
                        have o1 : ∀ w, (binOp .quo 25 (.float .f64 f) (.float .f64 4611686018427387904)).run Try.prog w = .ok (.float .f64 f') w := run_div h1
                        have U2 := hide h2
                        clear h1 h2
                        have hlt0 : (s' : Int) - ((m1 + 1 : Nat) : Int) < 0 := by omega
                        go_wp2_with fail
                        go_roundw
                        case rel => exact ⟨f', m1, rfl, by congr 1; omega, by omega, .inr (by omega), U2, by trivial⟩
                        case measure => simp [intOf]; omega
                      · have hge0 : (0 : Int) ≤ (s' : Int) - m := by omega
                        go_wp2_with fail
                        go_loopw [17, 19] (fun x u wx => ∃ (f m : Nat) (j : Int), x = .float .f64 f ∧ u = .int .i64 j ∧ m ≤ s' ∧ (j = (s' : Int) - m ∨ (m = s' ∧ j ≤ 0)) ∧ -2000 ≤ j ∧ j ≤ 2240 ∧ Hid (Und q' m f) ∧ wx = wc) (fun _ u _ => (intOf u).toNat)
                        case atStart => exact ⟨f, m, (s' : Int) - 1074, rfl, rfl, by omega, by omega, by omega, by omega, UN, rfl⟩
                        case round =>
                          obtain ⟨f, m, j, rfl, rfl, hm1, hm2, hj1, hj2, UN, hw⟩ := hrel
                          have hw := hw.symm
                          subst hw
                          by_cases hj0 : 0 < j
                          · obtain ⟨f', h1, h2⟩ := UN.out.dbl hq' (by
                              have h3 : q' * 2 ^ (m + 1) ≤ q' * 2 ^ s' := Nat.mul_le_mul_left _ (Nat.pow_le_pow_right (by omega) (by omega))
                              rw [MA.out.eq] at h3
                              exact Nat.le_trans h3 (rd_le MT.out))
                            have o1 : ∀ w, (binOp .mul 25 (.float .f64 f) (.float .f64 4611686018427387904)).run Try.prog w = .ok (.float .f64 f') w := run_mul h1
                            have U2 := hide h2
                            clear h1 h2
                            go_wp2_with fail
                            go_roundw
                            case rel => exact ⟨f', m + 1, j - 1, rfl, rfl, by omega, by omega, by omega, by omega, U2, by trivial⟩
                            case measure => simp [intOf]; omega
                          · have hms' : m = s' := by omega
                            have VF : Hid (Fin' f ∧ V f = (Rd M : Int)) := by
                              refine ⟨UN.out.fin, ?_⟩
                              rw [V_pos UN.out.pos, UN.out.val, hms', MA.out.eq]
                            clear hm1 hm2 hms' UN
                            cases ng with
                            | true =>
                              obtain ⟨f2, hf2⟩ : ∃ f2, f2 = f ^^^ 2 ^ 63 := ⟨_, rfl⟩
                              have o2 : ∀ w, (Op.unary .neg (.float .f64 f)).run Try.prog w = .ok (.float .f64 f2) w := fun w => by rw [hf2]; rfl
                              have VF2 : Hid (Fin' f2 ∧ V f2 = -(Rd M : Int)) := by
                                rw [hf2]
                                exact ⟨neg_fin VF.out.1, by rw [neg_V, VF.out.2]⟩
                              clear hf2
                              go_wp2_with fail
                              go_ret
                              refine ⟨⟨f2, rfl, VF2.out.1, fun h => absurd h HNE.out, fun _ => ?_⟩, GD.out⟩
                              have h1 := of_decide_eq_true HNG.out.symm
                              rw [VF2.out.2, HM.out]
                              unfold R
                              rw [if_pos h1]
                            | false =>
                              go_wp2_with fail
                              go_ret
                              refine ⟨⟨f, rfl, VF.out.1, fun h => absurd h HNE.out, fun _ => ?_⟩, GD.out⟩
                              have h1 := of_decide_eq_false HNG.out.symm
                              rw [VF.out.2, HM.out]
                              unfold R
                              rw [if_neg h1]
                · obtain ⟨i, rfl⟩ : ∃ i, j = i + 1 := ⟨j - 1, by omega⟩
                  have hu : ((i + 1 : Nat) : Int) - 1 = i := by omega
                  rw [hu]
                  have hsi : (s : Int) ≤ i := by omega
                  go_wp2_with fail
                  refine (BA.out i (by omega)).mono ?_
                  rintro _ w' ⟨rfl, hw⟩
                  have hw := hw.symm
                  subst hw
                  have hb2 := bt_lt d i
                  have hor := bits_or_u64_nat (2 * q) (bt d i) (by omega) (by omega)
                  rw [or_bit q (bt d i) hb2] at hor
                  obtain ⟨q2, hq2⟩ : ∃ q2, q2 = 2 * q + bt d i := ⟨_, rfl⟩
                  rw [← hq2] at hor
                  have hor : bits .or .u64 ((q : Int) * 2) (bt d i : Int) = (q2 : Int) := by
                    rw [show (q : Int) * 2 = ((2 * q : Nat) : Int) by omega]; exact hor
                  have Q2 : Hid (q2 = M / 2 ^ i) := by
                    show q2 = _
                    rw [digit M i, ← HQ.out, ← BT.out i (by omega)]
                    exact hq2
                  have hq3 : q2 < 9007199254740992 := by
                    rw [Q2.out]
                    have := HS.out
                    exact TP.out.q_lt (by omega)
                  clear hq2
                  go_wp2_with fail
                  go_roundw
                  case rel => exact ⟨q2, i, by omega, by omega, by rfl, by rfl, hq3, Q2, by trivial⟩
                  case measure => simp [intOf]

end Go.Proofs.Qxb6602321a.Fl
