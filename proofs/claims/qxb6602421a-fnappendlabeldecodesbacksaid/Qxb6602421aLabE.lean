import Derived.Test.Qxb6602421aLabD
namespace Go.Proofs.Qxb6602421a.Lb
open Go.ChangeShapes Go.WideShapes Go.ChangeAt Go.RowKit
set_option linter.unusedVariables false

theorem Own.below {w w' : World} {base Bn : Nat} {v : Value} {xs : List Int} (h : Own w base v xs) (hb : Below Bn w w') (hlt : w.heap.size ≤ Bn) : Own w' base v xs := by
  refine ⟨h.1, ?_⟩
  rcases h.2 with hn | ⟨g, cap, cur, rfl, hbg, hgg, rest⟩
  · exact .inl hn
  · have := (Array.getElem?_eq_some_iff.1 hgg).1
    exact .inr ⟨g, cap, cur, rfl, hbg, by rw [hb.block g (by omega)]; exact hgg, rest⟩

theorem Own.rdOff {w : World} {base : Nat} {v u : Value} {xs : List Int} (h : Own w base u xs) (hne : ∀ k, u.ownBlock = some k → v.ownBlock ≠ some k) : RdOff w v u xs := by
  rcases h.2 with ⟨rfl, hx0⟩ | ⟨g, cap, cur, rfl, hbg, hg, hnc, hcm, hcs, htake⟩
  · exact ⟨none, 0, by rw [hx0], by omega, by unfold maxLen; omega, fun h => by omega⟩
  · refine ⟨some ⟨g, 0, none⟩, cap, rfl, hnc, hcm, fun _ => ⟨g, 0, rfl, (h.lt g rfl).2, fun e => hne g rfl e.symm, fun i hi => ?_⟩⟩
    rw [Nat.zero_add, h.cellAt i (by omega), B_at hi]

set_option maxHeartbeats 2000000 in
theorem law1_in (d l : Value) (xs ys : List Int) (w : World) (hd : Rd w d xs) (hl : Rd w l ys) (hsum : (xs.length : Int) + ys.length ≤ 1048576) (hby : ∀ i, 0 ≤ ys.getD i 0 ∧ ys.getD i 0 ≤ 255) :
    Calls Try.prog 3 #[d, l] w fun e w' => e = .returned (.bool true) ∧ Below w.heap.size w w' := by
  obtain ⟨n0, hn0⟩ : ∃ n, n = xs.length := ⟨_, rfl⟩
  obtain ⟨n1, hn1⟩ : ∃ n, n = ys.length := ⟨_, rfl⟩
  have N0 := hide hn0
  have N1 := hide hn1
  have HDR := hide hd
  have HLR := hide hl
  have HY := hide hby
  obtain ⟨a0, c0, e0, hlc0, hcm0, _⟩ := hd
  obtain ⟨a1, c1, e1, hlc1, hcm1, _⟩ := hl
  rw [← hn0] at e0 hsum
  rw [← hn1] at e1 hsum
  clear hlc0 hlc1 hcm0 hcm1 hn0 hn1 hby
  have s1 : (n0 : Int) ≤ 1048576 := by omega
  have s2 : (n1 : Int) ≤ 1048576 := by omega
  subst e0
  subst e1
  go_enter Try.func3, Try.ntmps3
  go_wp2_with fail
  refine (zz6 _ _ _ _ _ _ _ (by unfold maxLen; omega) (by unfold maxLen; omega)).mono ?_
  rintro e w' ⟨⟨r, rfl, _⟩, hw⟩
  have hw := hw.symm
  subst hw
  cases r
  · go_wp2_with fail
    go_ret
    exact ⟨rfl, Below.refl _ _⟩
  · go_wp2_with fail
    refine (clone_any _ xs w HDR.out (by have := N0.out; omega)).mono ?_
    rintro e w1 ⟨⟨v0, rfl, ho0⟩, hb1⟩
    have HO0 := hide ho0
    have HB1 := hide hb1
    have HL1 : Hid (Rd w1 (.slice a1 n1 c1) ys) := by
      obtain ⟨a, c, e, h1, h2, h3⟩ := HLR.out
      refine ⟨a, c, e, h1, h2, fun h => ?_⟩
      obtain ⟨b, o, e', hb, hc⟩ := h3 h
      exact ⟨b, o, e', Nat.lt_of_lt_of_le hb hb1.size, fun i hi => (hb1.cell (p := ⟨b, o + i, none⟩) hb).trans (hc i hi)⟩
    clear ho0 hb1
    go_wp2_with fail
    refine (clone_any _ ys w1 HL1.out (by have := N1.out; omega)).mono ?_
    rintro e w2 ⟨⟨v1, rfl, ho1⟩, hb2⟩
    have HO1 := hide ho1
    have HB2 : Hid (Below w.heap.size w w2) := HB1.out.trans (hb2.mono HB1.out.size)
    have HO02 : Hid (Own w2 w.heap.size v0 xs) := HO0.out.below hb2 (Nat.le_refl _)
    have HK0 : Hid (∀ k, v0.ownBlock = some k → w.heap.size ≤ k ∧ k < w1.heap.size) := HO0.out.lt
    have HK1 : Hid (∀ k, v1.ownBlock = some k → w1.heap.size ≤ k ∧ k < w2.heap.size) := ho1.lt
    have HSZ : Hid (w.heap.size ≤ w1.heap.size ∧ w1.heap.size ≤ w2.heap.size) := ⟨HB1.out.size, hb2.size⟩
    clear ho1 hb2 HO0 HB1 HL1 HDR HLR
    obtain ⟨p0, q0, e0, _, _, hc0⟩ := HO02.out.rd
    obtain ⟨p1, q1, e1, _, _, hc1⟩ := HO1.out.rd
    rw [← N0.out] at e0 hc0
    rw [← N1.out] at e1 hc1
    have HC0 := hide hc0
    have HC1 := hide hc1
    clear hc0 hc1
    subst e0
    subst e1
    obtain ⟨i, hi, hz0, hz1, hz2⟩ := info_parts info5
    have HI := hide hi
    clear hi
    go_wp2_with (at_make; (with_reducible refine wpList_make_own _ ?_ (.const (.int .i64 0)) (.tmp 38) 22 ?_ w2.heap.size 5 i (.int .u8 0) 1 Try.underlying22 HI.out hz0 hz1 .i64 .i64 ((n0 : Int) + 4 * (n1 : Int)) (n0 + 4 * n1) ?_ ?_ ?_ ?_ ?_ ?_ ?_); rfl; rfl; rfl; rfl; omega; (rw [hz2]; omega); (unfold maxLen; omega); exact Nat.le_refl _; intro w3 ho3 hg3)
    have HO3 : Hid (Own w3 w2.heap.size (.slice (some ⟨w2.heap.size, 0, none⟩) 0 (n0 + 4 * n1)) []) := ho3
    have HB3 : Hid (Below w2.heap.size w2 w3) := (Below.refl _ _).grown hg3 (Nat.le_refl _) (fun k e => by cases e)
    clear ho3 hg3 hz0 hz1 hz2 HI
    go_loopw [5, 6] (fun d u wr => ∃ k : Nat, k ≤ n0 ∧ u = .int .i64 k ∧ Hid (Own wr w2.heap.size d (xs.take k)) ∧ Hid (Below w2.heap.size w2 wr)) (fun _ u _ => n0 - (intOf u).toNat)
    case atStart => exact ⟨0, by omega, rfl, HO3, HB3⟩
    case round =>
      obtain ⟨k, hk, rfl, HW, HB⟩ := hrel
      by_cases hlt : k < n0
      · obtain ⟨g, o, ha, hgl, hcc⟩ := HC0.out (by omega)
        obtain ⟨z, hz⟩ : ∃ z, z = xs.getD k 0 := ⟨_, rfl⟩
        have cz : wr.cell? ⟨g, o + k, none⟩ = some (.int .u8 z) := by
          rw [hz]; exact (HB.out.cell (p := ⟨g, o + k, none⟩) hgl).trans (hcc k hlt)
        have HZ := hide hz
        clear hz hcc
        subst ha
        have HSB : Hid (w2.heap.size ≤ wr.heap.size) := HB.out.size
        have HLN : Hid ((xs.take k).length + 1 ≤ 140737488355328) := by
          show _ ≤ _
          have : (xs.take k).length ≤ k := by simp; omega
          omega
        go_wp2_with (at_builtin; (with_reducible refine wpList_append_mine ?_ (.tmp 46) (.tmp 51) ?_ w2.heap.size u5 (xs.take k) ?_ (own_alloc HW.out _) ⟨wr.heap.size, 0, none⟩ 1 1 ?_ [z] ?_ (lit_cells wr _ _ ?_) ?_ ?_ ?_); rfl; rfl; rfl; rfl; rfl; rfl; exact HLN.out; (simp; exact Nat.le_succ_of_le HSB.out); intro v' w' ho hst)
        go_roundw
        case rel =>
          refine ⟨k + 1, by omega, by go_num, ?_, ?_⟩
          · have h9 := ho.out
            rw [HZ.out, show xs.take k ++ [xs.getD k 0] = xs.take (k + 1) by rw [List.take_succ_eq_append_getElem (by have := N0.out; omega)]; simp [show k < xs.length by have := N0.out; omega]] at h9
            exact h9
          · have h9 := ((Step.alloc wr u5 _).trans hst.out).below (B := w2.heap.size) HSB.out (fun k hk => (HW.out.lt k hk).1)
            exact HB.out.trans h9
        case measure => simp [intOf]; omega
      · have HWA : Hid (Own wr w2.heap.size u5 (xs ++ esc (ys.take 0))) := by
          have h9 := HW.out
          rw [List.take_of_length_le (by have := N0.out; omega)] at h9
          rw [show xs ++ esc (ys.take 0) = xs by simp [esc]]
          exact h9
        clear HW
        go_wp2_with fail
        go_loopw [5, 7] (fun d u wr => ∃ k : Nat, k ≤ n1 ∧ u = .int .i64 k ∧ Hid (Own wr w2.heap.size d (xs ++ esc (ys.take k))) ∧ Hid (Below w2.heap.size w2 wr)) (fun _ u _ => n1 - (intOf u).toNat)
        case atStart => exact ⟨0, by omega, rfl, HWA, HB⟩
        case round =>
          clear HWA HB
          obtain ⟨k, hk, rfl, HW, HB⟩ := hrel
          by_cases hlt : k < n1
          · obtain ⟨g, o, ha, hgl, hcc⟩ := HC1.out (by omega)
            obtain ⟨z, hz⟩ : ∃ z, z = ys.getD k 0 := ⟨_, rfl⟩
            have cz : wr.cell? ⟨g, o + k, none⟩ = some (.int .u8 z) := by
              rw [hz]; exact (HB.out.cell (p := ⟨g, o + k, none⟩) hgl).trans (hcc k hlt)
            have hzb := HY.out k
            rw [← hz] at hzb
            have HZB := hide hzb
            have HZ := hide hz
            clear hz hcc hzb
            subst ha
            have HSB : Hid (w2.heap.size ≤ wr.heap.size) := HB.out.size
            have HLN : Hid ((xs ++ esc (ys.take k)).length ≤ 8388608) := by
              show _ ≤ _
              have h1 := len_bound xs ys k
              have h2 := N0.out
              have h3 := N1.out
              omega
            go_wp2_with fail
            refine (model_any _ _ z w2.heap.size wr HW.out HSB.out HZB.out.1 HZB.out.2 HLN.out).mono ?_
            rintro e w' ⟨v', rfl, ho, hst⟩
            have HO := hide ho
            have HST := hide hst
            clear ho hst
            go_wp2_with fail
            go_roundw
            case rel =>
              refine ⟨k + 1, by omega, by go_num, ?_, ?_⟩
              · have h9 := HO.out
                rw [esc_next (by have := N1.out; omega) HZ.out] at h9
                exact h9
              · exact HB.out.trans (HST.out.below (B := w2.heap.size) HSB.out (fun k hk => (HW.out.lt k hk).1))
            case measure => simp [intOf]; omega
          · have HWA : Hid (Own wr w2.heap.size u5 (xs ++ esc ys)) := by
              have h9 := HW.out
              rw [List.take_of_length_le (by have := N1.out; omega)] at h9
              exact h9
            have HV0 : Hid (Own wr w.heap.size (.slice p0 n0 q0) xs) := HO02.out.below HB.out (Nat.le_refl _)
            have HV1 : Hid (Own wr w1.heap.size (.slice p1 n1 q1) ys) := HO1.out.below HB.out (Nat.le_refl _)
            have HRO : Hid (RdOff wr (.slice p0 n0 q0) (.slice p1 n1 q1) ys) := HV1.out.rdOff (fun k hk e => by
              have h1 := HK1.out k hk
              have h2 := HK0.out k e
              omega)
            have HBE : Hid (Below w.heap.size w wr) := HB2.out.trans (HB.out.mono HB2.out.size)
            have HWK : Hid (∀ k, u5.ownBlock = some k → w2.heap.size ≤ k) := fun k hk => (HWA.out.lt k hk).1
            clear HW
            go_wp2_with fail
            refine (zzappend_any _ _ xs ys w.heap.size wr HV0.out HBE.out.size HRO.out HY.out (by have := N1.out; omega) (by have := N0.out; omega)).mono ?_
            rintro e w4 ⟨v', rfl, ho, hst⟩
            have HG := hide ho
            have HST := hide hst
            have HWB : Hid (Own w4 w2.heap.size u5 (xs ++ esc ys)) := by
              refine hst.kept HWA.out ?_
              cases h9 : u5.ownBlock with
              | none => exact .inl rfl
              | some kk =>
                refine .inr fun e => ?_
                have h1 := HWK.out kk h9
                have h2 := HK0.out kk e.symm
                have h3 := HSZ.out
                omega
            have HBF : Hid (Below w.heap.size w w4) := HBE.out.trans (hst.below HBE.out.size (fun k hk => (HK0.out k hk).1))
            clear ho hst
            go_wp2_with fail
            refine (equal_any _ _ (xs ++ esc ys) w4 HG.out.rd HWB.out.rd).mono ?_
            rintro e w5 ⟨rfl, nn, hw⟩
            have HBG : Hid (Below w.heap.size w w5) := by rw [hw]; exact below_drewN HBF.out _
            clear hw
            go_wp2_with fail
            go_ret
            exact ⟨rfl, HBG.out⟩

theorem law1_big (a0 a1 : Option Addr) (n0 c0 n1 c1 : Nat) (w : World) (h0 : n0 ≤ maxLen) (h1 : n1 ≤ maxLen) (h : (1048576 : Int) < (n0 : Int) + n1) :
    Calls Try.prog 3 #[.slice a0 n0 c0, .slice a1 n1 c1] w fun e w' => e = .returned (.bool true) ∧ Below w.heap.size w w' := by
  have H0 := hide h0
  have H1 := hide h1
  unfold maxLen at h0 h1
  have hd : (1048576 : Int) < n0 ∨ ((n0 : Int) ≤ 1048576 ∧ (1048576 : Int) < n1) ∨ ((n0 : Int) ≤ 1048576 ∧ (n1 : Int) ≤ 1048576) := by omega
  rcases hd with g | ⟨g, g'⟩ | ⟨g, g'⟩
  all_goals
    go_enter Try.func3, Try.ntmps3
    go_wp2_with fail
    refine (zz6 _ _ _ _ _ _ _ H0.out H1.out).mono ?_
    rintro e w' ⟨⟨r, rfl, _⟩, hw⟩
    have hw := hw.symm
    subst hw
    cases r
    all_goals
      go_wp2_with fail
      go_ret
      exact ⟨rfl, Below.refl _ _⟩

end Go.Proofs.Qxb6602421a.Lb
