import Derived.Test.Qxb6602421aLabC
namespace Go.Proofs.Qxb6602421a.Lb
open Go.ChangeShapes Go.WideShapes Go.ChangeAt Go.RowKit
set_option linter.unusedVariables false

theorem hide {p : Prop} (h : p) : Hid p := h

theorem Step.ne {w w' : World} {v v' : Value} {b : Nat} (h : Step w w' v v') (hb : b < w.heap.size) (hne : some b ≠ v.ownBlock) : some b ≠ v'.ownBlock := by
  intro e
  rcases h.block b e.symm with e' | e'
  · exact hne e'.symm
  · omega

/-- The bytes up to place p, then n bare ones. -/
theorem esc_run {ds xs : List Int} {p n : Nat} (hb : ∀ j, j < n → Bare (xs.getD (p + j) 0)) (hn : p + n ≤ xs.length) : (ds ++ esc (xs.take p)) ++ (xs.drop p).take n = ds ++ esc (xs.take (p + n)) := by
  have h1 : xs.take (p + n) = xs.take p ++ (xs.drop p).take n := by rw [List.take_add]
  rw [h1, esc_append, esc_bare ((xs.drop p).take n), List.append_assoc]
  intro c hc
  obtain ⟨j, hj, rfl⟩ := List.getElem_of_mem hc
  have hj' : j < n := by simp at hj; omega
  have := hb j hj'
  simpa [show p + j < xs.length by simp at hj; omega] using this

theorem esc_next {ds xs : List Int} {q : Nat} {z : Int} (hq : q < xs.length) (hz : z = xs.getD q 0) : (ds ++ esc (xs.take q)) ++ escB z = ds ++ esc (xs.take (q + 1)) := by
  have h1 : xs.take (q + 1) = xs.take q ++ [z] := by
    rw [List.take_succ_eq_append_getElem hq, hz]; simp [hq]
  rw [h1, esc_append, esc_one, List.append_assoc]

theorem len_bound (ds xs : List Int) (q : Nat) : (ds ++ esc (xs.take q)).length ≤ ds.length + 4 * xs.length := by
  have h1 := (esc_len (xs.take q)).2
  have h2 : (xs.take q).length ≤ xs.length := by simp; omega
  simp only [List.length_append]
  omega

theorem run_cells {w : World} {b o p n N : Nat} {xs : List Int} (h : ∀ i, i < N → w.cell? ⟨b, o + i, none⟩ = some (.int .u8 (xs.getD i 0))) (hN : N = xs.length) (hn : p + n ≤ N) :
    ∀ j, j < ((xs.drop p).take n).length → w.cell? ((⟨b, o + p, none⟩ : Addr).add j) = some (.int .u8 (((xs.drop p).take n).getD j 0)) := by
  intro j hj
  have hj' : j < n := by simp at hj; omega
  rw [Addr.add_lit, Nat.add_assoc, h (p + j) (by omega)]
  simp [hj', show p + j < xs.length by omega]

set_option maxRecDepth 20000 in
set_option maxHeartbeats 2000000 in
theorem append_pos (v : Value) (ds xs : List Int) (b o N C base : Nat) (w : World) (hown : Own w base v ds) (hbase : base ≤ w.heap.size) (hN : N = xs.length) (h0 : 0 < N) (hNC : N ≤ C) (hC : C ≤ maxLen)
    (hb : b < w.heap.size) (hne : some b ≠ v.ownBlock) (hcell : ∀ i, i < N → w.cell? ⟨b, o + i, none⟩ = some (.int .u8 (xs.getD i 0))) (hby : ∀ i, 0 ≤ xs.getD i 0 ∧ xs.getD i 0 ≤ 255) (hn1 : N ≤ 1048576) (hn2 : ds.length ≤ 1048576) :
    Calls Try.prog 14 #[v, .slice (some ⟨b, o, none⟩) N C] w fun e w' => RetStep w w' base v (ds ++ esc xs) e := by
  unfold maxLen at hC
  have HO : Hid (Own w base v ds) := hown
  have HN : Hid (N = xs.length) := hN
  have HC : Hid (∀ i, i < N → w.cell? ⟨b, o + i, none⟩ = some (.int .u8 (xs.getD i 0))) := hcell
  have HY : Hid (∀ i, 0 ≤ xs.getD i 0 ∧ xs.getD i 0 ≤ 255) := hby
  have HNE : Hid (some b ≠ v.ownBlock) := hne
  clear hown hN hcell hby hne
  go_enter Try.func14, Try.ntmps14
  go_wp2_with fail
  go_loopw [0, 1] (fun d l wr => ∃ p m c ao, p + m ≤ N ∧ N ≤ p + m ∧ l = .slice ao m c ∧ m ≤ c ∧ c ≤ 9223372036854775807 ∧ Hid (0 < m → ao = some ⟨b, o + p, none⟩) ∧ Hid (Own wr base d (ds ++ esc (xs.take p))) ∧ Hid (Step w wr v d)) (fun _ l _ => match l with | .slice _ m _ => m | _ => 0)
  case atStart => exact ⟨0, N, C, _, by omega, by omega, rfl, hNC, hC, fun _ => rfl, by simpa [esc] using HO, Step.refl _ _⟩
  case round =>
    obtain ⟨p, m, c, ao, hp1, hp2, rfl, hmc, hc, HA, HD, HS⟩ := hrel
    by_cases hm : 0 < m
    · have ha := HA.out hm
      subst ha
      clear HA
      have hmi : (0 : Int) < m := by omega
      have HCR : Hid (∀ i, i < N → wr.cell? ⟨b, o + i, none⟩ = some (.int .u8 (xs.getD i 0))) := fun i hi => HS.out.cell (HC.out i hi) HNE.out
      have HW : Hid (w.heap.size ≤ wr.heap.size) := HS.out.grown.size
      have HND : Hid (some b ≠ u0.ownBlock) := HS.out.ne hb HNE.out
      go_wp2_with fail
      go_loop [5] (fun i => ∃ n : Nat, n ≤ m ∧ i = .int .i64 n ∧ Hid (∀ j, j < n → Bare (xs.getD (p + j) 0))) (fun i => m - (intOf i).toNat)
      case atStart => exact ⟨0, by omega, rfl, fun j hj => by omega⟩
      case round =>
        obtain ⟨n, hn, rfl, HB⟩ := hrel
        have HL := len_bound ds xs p
        have HNN := HN.out
        have HL2 : Hid ((ds ++ esc (xs.take p)).length + ((xs.drop p).take n).length ≤ 140737488355328) := by
          have h3 : ((xs.drop p).take n).length ≤ n := by simp; omega
          show _ ≤ _
          omega
        have HL3 : Hid (n = ((xs.drop p).take n).length) := by
          show n = _
          simp; omega
        have HBS : Hid (base ≤ wr.heap.size) := Nat.le_trans hbase HW.out
        clear HL HNN
        by_cases hlt : n < m
        · obtain ⟨z, hz⟩ : ∃ z, z = xs.getD (p + n) 0 := ⟨_, rfl⟩
          have hzb := HY.out (p + n)
          rw [← hz] at hzb
          obtain ⟨z0, z1⟩ := hzb
          have cz : wr.cell? ⟨b, o + p + n, none⟩ = some (.int .u8 z) := by rw [hz, Nat.add_assoc]; exact HCR.out _ (by omega)
          have HZ : Hid (z = xs.getD (p + n) 0) := hz
          clear hz
          by_cases hbare : Bare z
          · obtain ⟨z2, z3, z4, z5⟩ := hbare
            have z6 : (z != 46) = true := by simpa using z4
            have z7 : (z != 92) = true := by simpa using z5
            have HBZ : Hid (Bare z) := ⟨z2, z3, z4, z5⟩
            clear z4 z5
            go_wp2
            go_round
            case rel =>
              refine ⟨n + 1, by omega, by go_num, fun j hj => ?_⟩
              by_cases e : j = n
              · rw [e, ← HZ.out]; exact HBZ.out
              · exact HB.out j (by omega)
            case measure => simp [intOf]; omega
          · have HL4 : Hid ((ds ++ esc (xs.take p) ++ (xs.drop p).take n).length + 2 ≤ 140737488355328) := by
              have h4 := HL2.out
              have h5 := len_bound ds xs p
              have h6 : ((xs.drop p).take n).length ≤ n := by simp; omega
              have h7 := HN.out
              show _ ≤ _
              rw [List.length_append]; omega
            have HL5 : Hid ((ds ++ esc (xs.take p) ++ (xs.drop p).take n).length + 4 ≤ 140737488355328) := by
              have h5 := len_bound ds xs p
              have h6 : ((xs.drop p).take n).length ≤ n := by simp; omega
              have h7 := HN.out
              show _ ≤ _
              rw [List.length_append]; omega
            have hk : z = 46 ∨ z = 92 ∨ z < 33 ∨ 126 < z := by unfold Bare at hbare; omega
            clear hbare
            rcases hk with rfl | rfl | hk | hk
            · go_wp2_with (first | (at_builtin; (with_reducible refine wpList_append_mine ?_ (.tmp 44) (.tmp 47) ?_ base u0 (ds ++ esc (xs.take p)) ?_ HD.out ⟨b, o + p, none⟩ n c ?_ ((xs.drop p).take n) HL3.out (run_cells HCR.out HN.out ?_) HL2.out HBS.out ?_); rfl; rfl; rfl; rfl; omega; intro v1 w1 ho1 hst1; have cz1 := hst1.out.cell cz HND.out; have HW1 : Hid (base ≤ w1.heap.size + 1) := Nat.le_trans HBS.out (Nat.le_trans hst1.out.grown.size (Nat.le_succ _))) | (at_builtin; (with_reducible refine wpList_append_mine ?_ (.tmp 64) (.tmp 66) ?_ base v1 (ds ++ esc (xs.take p) ++ (xs.drop p).take n) ?_ (own_alloc ho1.out _) ⟨w1.heap.size, 0, none⟩ 2 2 ?_ [92, 46] ?_ (lit_cells w1 _ _ ?_) ?_ ?_ ?_); rfl; rfl; rfl; rfl; rfl; rfl; exact HL4.out; (simp; exact HW1.out); intro v2 w2 ho2 hst2))
              all_goals
                go_roundw
                case rel =>
                  refine ⟨p + n + 1, m - (n + 1), c - (n + 1), _, by omega, by omega, rfl, by omega, by omega, ?_, ?_, HS.out.trans (hst1.out.trans ((Step.alloc _ _ _).trans hst2.out))⟩
                  · intro h9
                    rw [if_neg (by omega), show o + p + (n + 1) = o + (p + n + 1) by omega]
                  · have h9 := ho2.out
                    rw [esc_run HB.out (by have := HN.out; omega), ← escB_two (c := 46) (.inl rfl), esc_next (by have := HN.out; omega) HZ.out] at h9
                    exact h9
                case measure => simp; omega
            · go_wp2_with (first | (at_builtin; (with_reducible refine wpList_append_mine ?_ (.tmp 44) (.tmp 47) ?_ base u0 (ds ++ esc (xs.take p)) ?_ HD.out ⟨b, o + p, none⟩ n c ?_ ((xs.drop p).take n) HL3.out (run_cells HCR.out HN.out ?_) HL2.out HBS.out ?_); rfl; rfl; rfl; rfl; omega; intro v1 w1 ho1 hst1; have cz1 := hst1.out.cell cz HND.out; have HW1 : Hid (base ≤ w1.heap.size + 1) := Nat.le_trans HBS.out (Nat.le_trans hst1.out.grown.size (Nat.le_succ _))) | (at_builtin; (with_reducible refine wpList_append_mine ?_ (.tmp 64) (.tmp 66) ?_ base v1 (ds ++ esc (xs.take p) ++ (xs.drop p).take n) ?_ (own_alloc ho1.out _) ⟨w1.heap.size, 0, none⟩ 2 2 ?_ [92, 92] ?_ (lit_cells w1 _ _ ?_) ?_ ?_ ?_); rfl; rfl; rfl; rfl; rfl; rfl; exact HL4.out; (simp; exact HW1.out); intro v2 w2 ho2 hst2))
              all_goals
                go_roundw
                case rel =>
                  refine ⟨p + n + 1, m - (n + 1), c - (n + 1), _, by omega, by omega, rfl, by omega, by omega, ?_, ?_, HS.out.trans (hst1.out.trans ((Step.alloc _ _ _).trans hst2.out))⟩
                  · intro h9
                    rw [if_neg (by omega), show o + p + (n + 1) = o + (p + n + 1) by omega]
                  · have h9 := ho2.out
                    rw [esc_run HB.out (by have := HN.out; omega), ← escB_two (c := 92) (.inr rfl), esc_next (by have := HN.out; omega) HZ.out] at h9
                    exact h9
                case measure => simp; omega
            · have f1 : (z == 46) = false := by simp; omega
              have f2 : (z == 92) = false := by simp; omega
              go_wp2_with (first | (at_builtin; (with_reducible refine wpList_append_mine ?_ (.tmp 44) (.tmp 47) ?_ base u0 (ds ++ esc (xs.take p)) ?_ HD.out ⟨b, o + p, none⟩ n c ?_ ((xs.drop p).take n) HL3.out (run_cells HCR.out HN.out ?_) HL2.out HBS.out ?_); rfl; rfl; rfl; rfl; omega; intro v1 w1 ho1 hst1; have cz1 := hst1.out.cell cz HND.out; have HW1 : Hid (base ≤ w1.heap.size + 1) := Nat.le_trans HBS.out (Nat.le_trans hst1.out.grown.size (Nat.le_succ _))) | (at_builtin; (with_reducible refine wpList_append_mine ?_ (.tmp 68) (.tmp 79) ?_ base v1 (ds ++ esc (xs.take p) ++ (xs.drop p).take n) ?_ (own_alloc ho1.out _) ⟨w1.heap.size, 0, none⟩ 4 4 ?_ [92, 48 + z / 100, 48 + z / 10 % 10, 48 + z % 10] ?_ (lit_cells w1 _ _ ?_) ?_ ?_ ?_); rfl; rfl; rfl; rfl; rfl; rfl; exact HL5.out; (simp; exact HW1.out); intro v2 w2 ho2 hst2))
              all_goals
                go_roundw
                case rel =>
                  refine ⟨p + n + 1, m - (n + 1), c - (n + 1), _, by omega, by omega, rfl, by omega, by omega, ?_, ?_, HS.out.trans (hst1.out.trans ((Step.alloc _ _ _).trans hst2.out))⟩
                  · intro h9
                    rw [if_neg (by omega), show o + p + (n + 1) = o + (p + n + 1) by omega]
                  · have h9 := ho2.out
                    rw [esc_run HB.out (by have := HN.out; omega), ← escB_four (c := z) (by omega) (by omega), esc_next (by have := HN.out; omega) HZ.out] at h9
                    exact h9
                case measure => simp; omega
            · have f1 : (z == 46) = false := by simp; omega
              have f2 : (z == 92) = false := by simp; omega
              go_wp2_with (first | (at_builtin; (with_reducible refine wpList_append_mine ?_ (.tmp 44) (.tmp 47) ?_ base u0 (ds ++ esc (xs.take p)) ?_ HD.out ⟨b, o + p, none⟩ n c ?_ ((xs.drop p).take n) HL3.out (run_cells HCR.out HN.out ?_) HL2.out HBS.out ?_); rfl; rfl; rfl; rfl; omega; intro v1 w1 ho1 hst1; have cz1 := hst1.out.cell cz HND.out; have HW1 : Hid (base ≤ w1.heap.size + 1) := Nat.le_trans HBS.out (Nat.le_trans hst1.out.grown.size (Nat.le_succ _))) | (at_builtin; (with_reducible refine wpList_append_mine ?_ (.tmp 68) (.tmp 79) ?_ base v1 (ds ++ esc (xs.take p) ++ (xs.drop p).take n) ?_ (own_alloc ho1.out _) ⟨w1.heap.size, 0, none⟩ 4 4 ?_ [92, 48 + z / 100, 48 + z / 10 % 10, 48 + z % 10] ?_ (lit_cells w1 _ _ ?_) ?_ ?_ ?_); rfl; rfl; rfl; rfl; rfl; rfl; exact HL5.out; (simp; exact HW1.out); intro v2 w2 ho2 hst2))
              all_goals
                go_roundw
                case rel =>
                  refine ⟨p + n + 1, m - (n + 1), c - (n + 1), _, by omega, by omega, rfl, by omega, by omega, ?_, ?_, HS.out.trans (hst1.out.trans ((Step.alloc _ _ _).trans hst2.out))⟩
                  · intro h9
                    rw [if_neg (by omega), show o + p + (n + 1) = o + (p + n + 1) by omega]
                  · have h9 := ho2.out
                    rw [esc_run HB.out (by have := HN.out; omega), ← escB_four (c := z) (by omega) (by omega), esc_next (by have := HN.out; omega) HZ.out] at h9
                    exact h9
                case measure => simp; omega
        · go_wp2_with (at_builtin; (with_reducible refine wpList_append_mine ?_ (.tmp 44) (.tmp 47) ?_ base u0 (ds ++ esc (xs.take p)) ?_ HD.out ⟨b, o + p, none⟩ n c ?_ ((xs.drop p).take n) HL3.out (run_cells HCR.out HN.out ?_) HL2.out HBS.out ?_); rfl; rfl; rfl; rfl; omega; intro v1 w1 ho1 hst1)
          go_ret
          refine ⟨_, rfl, ?_, HS.out.trans hst1.out⟩
          have := ho1.out
          rw [esc_run HB.out (by have := HN.out; omega), List.take_of_length_le (by have := HN.out; omega)] at this
          exact this
    · go_wp2_with fail
      go_ret
      refine ⟨_, rfl, ?_, HS.out⟩
      have := HD.out
      rwa [List.take_of_length_le (by have := HN.out; omega)] at this

theorem append_zero (v : Value) (ao : Option Addr) (C : Nat) (w : World) : Calls Try.prog 14 #[v, .slice ao 0 C] w fun e w' => e = .returned v ∧ w' = w := by
  go_enter Try.func14, Try.ntmps14
  go_wp2_with fail
  go_loop [0, 1] (fun d l => d = v ∧ l = .slice ao 0 C) (fun _ _ => 0)
  case atStart => exact ⟨rfl, rfl⟩
  case round =>
    obtain ⟨rfl, rfl⟩ := hrel
    go_wp2_with fail
    go_ret
    exact ⟨rfl, rfl⟩

/-- Rd, apart from what v owns. -/
def RdOff (w : World) (v lv : Value) (xs : List Int) : Prop :=
  ∃ ao c, lv = .slice ao xs.length c ∧ xs.length ≤ c ∧ c ≤ maxLen ∧ (0 < xs.length → ∃ b o, ao = some ⟨b, o, none⟩ ∧ b < w.heap.size ∧ some b ≠ v.ownBlock ∧ ∀ i, i < xs.length → w.cell? ⟨b, o + i, none⟩ = some (.int .u8 (xs.getD i 0)))

theorem append_any (v lv : Value) (ds xs : List Int) (base : Nat) (w : World) (hown : Own w base v ds) (hbase : base ≤ w.heap.size) (hl : RdOff w v lv xs) (hby : ∀ i, 0 ≤ xs.getD i 0 ∧ xs.getD i 0 ≤ 255) (hn1 : xs.length ≤ 1048576) (hn2 : ds.length ≤ 1048576) :
    Calls Try.prog 14 #[v, lv] w fun e w' => RetStep w w' base v (ds ++ esc xs) e := by
  obtain ⟨ao, c, rfl, hlc, hcm, hcell⟩ := hl
  by_cases h0 : 0 < xs.length
  · obtain ⟨b, o, rfl, hb, hne, hc⟩ := hcell h0
    exact append_pos v ds xs b o xs.length c base w hown hbase rfl h0 hlc hcm hb hne hc hby hn1 hn2
  · have hx : xs = [] := List.eq_nil_of_length_eq_zero (by omega)
    subst hx
    refine (append_zero v ao c w).mono ?_
    rintro e w' ⟨rfl, rfl⟩
    exact ⟨v, rfl, by simpa [esc] using hown, Step.refl _ _⟩

theorem zzappend_any (v lv : Value) (ds xs : List Int) (base : Nat) (w : World) (hown : Own w base v ds) (hbase : base ≤ w.heap.size) (hl : RdOff w v lv xs) (hby : ∀ i, 0 ≤ xs.getD i 0 ∧ xs.getD i 0 ≤ 255) (hn1 : xs.length ≤ 1048576) (hn2 : ds.length ≤ 1048576) :
    Calls Try.prog 9 #[v, lv] w fun e w' => RetStep w w' base v (ds ++ esc xs) e := by
  have H := append_any v lv ds xs base w hown hbase hl hby hn1 hn2
  have HH : Hid (Calls Try.prog 14 #[v, lv] w fun e w' => RetStep w w' base v (ds ++ esc xs) e) := H
  clear H hown hbase hl hby hn1 hn2
  go_enter Try.func9, Try.ntmps9
  go_wp2_with fail
  refine HH.out.mono ?_
  rintro e w' ⟨v', rfl, ho, hs⟩
  have HO := hide ho
  have HS := hide hs
  clear ho hs
  go_wp2_with fail
  go_ret
  exact ⟨_, rfl, HO.out, HS.out⟩

end Go.Proofs.Qxb6602421a.Lb
