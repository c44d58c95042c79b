import Derived.Test.Qxb6602421aLabE
namespace Go.Proofs.Qxb6602421a.Lb
open Go.ChangeShapes Go.WideShapes Go.ChangeAt Go.RowKit
set_option linter.unusedVariables false

theorem esc_split {ys : List Int} {j : Nat} (h : j < ys.length) : esc ys = esc (ys.take j) ++ (escB (ys.getD j 0) ++ esc (ys.drop (j + 1))) := by
  have h1 : ys = ys.take j ++ (ys[j] :: ys.drop (j + 1)) := by simp
  have h2 : ys.getD j 0 = ys[j] := by simp [h]
  rw [h2]
  conv => lhs; rw [h1]
  rw [esc_append]
  rfl

theorem esc_at {ys : List Int} {j t : Nat} {z : Int} (h : j < ys.length) (hz : z = ys.getD j 0) (ht : t < (escB z).length) : (esc ys).getD ((esc (ys.take j)).length + t) 0 = (escB z).getD t 0 := by
  rw [esc_split h, ← hz]
  simp only [List.getD_eq_getElem?_getD]
  rw [List.getElem?_append_right (by omega), Nat.add_sub_cancel_left, List.getElem?_append_left ht]

theorem esc_room {ys : List Int} {j : Nat} {z : Int} (h : j < ys.length) (hz : z = ys.getD j 0) : (esc (ys.take j)).length + (escB z).length ≤ (esc ys).length := by
  rw [esc_split h, ← hz]
  simp only [List.length_append]
  omega

theorem esc_take_succ {ys : List Int} {j : Nat} {z : Int} (h : j < ys.length) (hz : z = ys.getD j 0) : (esc (ys.take (j + 1))).length = (esc (ys.take j)).length + (escB z).length := by
  have h1 := esc_next (ds := []) h hz
  simp only [List.nil_append] at h1
  rw [← h1, List.length_append]

/-- It hands back a slice of its own and true. -/
def RetPair (w w' : World) (ys : List Int) (e : Ending) : Prop := ∃ v, e = .returned (.tuple #[v, .bool true]) ∧ Own w' w.heap.size v ys

theorem take_own {ys : List Int} {j : Nat} {z : Int} (h : j < ys.length) (hz : z = ys.getD j 0) : ys.take j ++ [z] = ys.take (j + 1) := by
  rw [List.take_succ_eq_append_getElem h, hz]; simp [h]

set_option maxRecDepth 20000 in
set_option maxHeartbeats 2000000 in
theorem decode_pos (ys : List Int) (b o M C : Nat) (w : World) (hM : M = (esc ys).length) (h0 : 0 < M) (hMC : M ≤ C) (hb : b < w.heap.size)
    (hcell : ∀ i, i < M → w.cell? ⟨b, o + i, none⟩ = some (.int .u8 ((esc ys).getD i 0))) (hby : ∀ i, 0 ≤ ys.getD i 0 ∧ ys.getD i 0 ≤ 255) (hn : ys.length ≤ 1048576) :
    Calls Try.prog 12 #[.slice (some ⟨b, o, none⟩) M C] w fun e w' => RetPair w w' ys e ∧ Below w.heap.size w w' := by
  have hM2 : (M : Int) ≤ 4194304 := by have := (esc_len ys).2; omega
  have HM := hide hM
  have HC := hide hcell
  have HY := hide hby
  obtain ⟨L, hL⟩ : ∃ L, L = ys.length := ⟨_, rfl⟩
  have HL := hide hL
  have hL2 : L ≤ 1048576 := by omega
  clear hM hcell hby hL hn
  obtain ⟨i, hi, hz0, hz1, hz2⟩ := info_parts info5
  have HI := hide hi
  clear hi
  go_enter Try.func12, Try.ntmps12
  go_wp2_with (at_make; (with_reducible refine wpList_make_own _ ?_ (.const (.int .i64 0)) (.tmp 12) 22 ?_ w.heap.size 5 i (.int .u8 0) 1 Try.underlying22 HI.out hz0 hz1 .i64 .i64 (M : Int) M ?_ ?_ ?_ ?_ ?_ ?_ ?_); rfl; rfl; rfl; rfl; rfl; (rw [hz2]; omega); (unfold maxLen; omega); exact Nat.le_refl _; intro w1 ho1 hg1)
  have HO1 : Hid (Own w1 w.heap.size (.slice (some ⟨w.heap.size, 0, none⟩) 0 M) []) := ho1
  have HB1 : Hid (Below w.heap.size w w1) := (Below.refl _ _).grown hg1 (Nat.le_refl _) (fun k e => by cases e)
  clear ho1 hg1 hz0 hz1 hz2 HI
  go_loopw [4, 5] (fun d u wr => ∃ j q : Nat, j ≤ L ∧ q ≤ M ∧ u = .int .i64 q ∧ Hid (q = (esc (ys.take j)).length) ∧ Hid (Own wr w.heap.size d (ys.take j)) ∧ Hid (Below w.heap.size w wr)) (fun _ u _ => M - (intOf u).toNat)
  case atStart => exact ⟨0, 0, by omega, by omega, rfl, rfl, HO1, HB1⟩
  case round =>
    obtain ⟨j, q, hj, hq, rfl, HQ, HD, HB⟩ := hrel
    by_cases hlt : j < L
    · obtain ⟨z, hz⟩ : ∃ z, z = ys.getD j 0 := ⟨_, rfl⟩
      have hjl : j < ys.length := by have := HL.out; omega
      have hzb := HY.out j
      rw [← hz] at hzb
      obtain ⟨z0, z1⟩ := hzb
      have HZ := hide hz
      have HJ := hide hjl
      have HCT : Hid (∀ t, t < (escB z).length → wr.cell? ⟨b, o + (q + t), none⟩ = some (.int .u8 ((escB z).getD t 0))) := by
        intro t ht
        have h1 := esc_room hjl hz
        have h2 := HQ.out
        have h3 := HM.out
        rw [(HB.out.cell (p := ⟨b, o + (q + t), none⟩) hb), HC.out (q + t) (by omega), ← esc_at hjl hz ht, ← h2]
      have HR : Hid (q + (escB z).length ≤ M) := by
        have h1 := esc_room hjl hz
        have h2 := HQ.out
        have h3 := HM.out
        show _ ≤ _
        omega
      have HQ2 : Hid (q + (escB z).length = (esc (ys.take (j + 1))).length) := by
        show _ = _
        rw [esc_take_succ hjl hz, HQ.out]
      have HSB : Hid (w.heap.size ≤ wr.heap.size) := HB.out.size
      have HLN : Hid ((ys.take j).length + 1 ≤ 140737488355328) := by
        show _ ≤ _
        have : (ys.take j).length ≤ j := by simp; omega
        omega
      clear hz hjl
      by_cases e1 : z = 46 ∨ z = 92
      · rcases e1 with rfl | rfl
        · have hB := escB_two (c := 46) (by omega)
          have c0 := HCT.out 0 (by rw [hB]; simp)
          have c1 := HCT.out 1 (by rw [hB]; simp)
          rw [hB] at c0 c1
          simp only [Nat.add_zero, List.getD_cons_zero, List.getD_cons_succ] at c0 c1
          have hq1 : q + 2 ≤ M := by have := HR.out; rw [hB] at this; simpa using this
          have HQ3 : Hid (q + 2 = (esc (ys.take (j + 1))).length) := by have := HQ2.out; rw [hB] at this; exact this
          clear hB
          go_wp2_with (at_builtin; (with_reducible refine wpList_append_mine ?_ (.tmp 56) (.tmp 58) ?_ w.heap.size u4 (ys.take j) ?_ (own_alloc HD.out _) ⟨wr.heap.size, 0, none⟩ 1 1 ?_ [46] ?_ (lit_cells wr _ _ ?_) ?_ ?_ ?_); rfl; rfl; rfl; rfl; rfl; rfl; exact HLN.out; (simp; exact Nat.le_succ_of_le HSB.out); intro v' w' ho hst)
          go_roundw
          case rel =>
            refine ⟨j + 1, q + 2, by omega, by omega, by go_num, HQ3, ?_, ?_⟩
            · have h9 := ho.out
              rw [take_own HJ.out HZ.out] at h9
              exact h9
            · exact HB.out.trans (((Step.alloc wr u4 _).trans hst.out).below (B := w.heap.size) HSB.out (fun k hk => (HD.out.lt k hk).1))
          case measure => simp [intOf]; omega
        · have hB := escB_two (c := 92) (by omega)
          have c0 := HCT.out 0 (by rw [hB]; simp)
          have c1 := HCT.out 1 (by rw [hB]; simp)
          rw [hB] at c0 c1
          simp only [Nat.add_zero, List.getD_cons_zero, List.getD_cons_succ] at c0 c1
          have hq1 : q + 2 ≤ M := by have := HR.out; rw [hB] at this; simpa using this
          have HQ3 : Hid (q + 2 = (esc (ys.take (j + 1))).length) := by have := HQ2.out; rw [hB] at this; exact this
          clear hB
          go_wp2_with (at_builtin; (with_reducible refine wpList_append_mine ?_ (.tmp 56) (.tmp 58) ?_ w.heap.size u4 (ys.take j) ?_ (own_alloc HD.out _) ⟨wr.heap.size, 0, none⟩ 1 1 ?_ [92] ?_ (lit_cells wr _ _ ?_) ?_ ?_ ?_); rfl; rfl; rfl; rfl; rfl; rfl; exact HLN.out; (simp; exact Nat.le_succ_of_le HSB.out); intro v' w' ho hst)
          go_roundw
          case rel =>
            refine ⟨j + 1, q + 2, by omega, by omega, by go_num, HQ3, ?_, ?_⟩
            · have h9 := ho.out
              rw [take_own HJ.out HZ.out] at h9
              exact h9
            · exact HB.out.trans (((Step.alloc wr u4 _).trans hst.out).below (B := w.heap.size) HSB.out (fun k hk => (HD.out.lt k hk).1))
          case measure => simp [intOf]; omega
      · by_cases e2 : 33 ≤ z ∧ z ≤ 126
        · have hB := escB_bare (c := z) ⟨e2.1, e2.2, by omega, by omega⟩
          have c0 := HCT.out 0 (by rw [hB]; simp)
          rw [hB] at c0
          simp only [Nat.add_zero, List.getD_cons_zero] at c0
          have hq1 : q + 1 ≤ M := by have := HR.out; rw [hB] at this; simpa using this
          have HQ3 : Hid (q + 1 = (esc (ys.take (j + 1))).length) := by have := HQ2.out; rw [hB] at this; exact this
          have n1 : (z != 92) = true := by simp; omega
          have n2 : (z == 46) = false := by simp; omega
          obtain ⟨e3, e4⟩ := e2
          clear hB e1
          go_wp2_with (at_builtin; (with_reducible refine wpList_append_mine ?_ (.tmp 34) (.tmp 36) ?_ w.heap.size u4 (ys.take j) ?_ (own_alloc HD.out _) ⟨wr.heap.size, 0, none⟩ 1 1 ?_ [z] ?_ (lit_cells wr _ _ ?_) ?_ ?_ ?_); rfl; rfl; rfl; rfl; rfl; rfl; exact HLN.out; (simp; exact Nat.le_succ_of_le HSB.out); intro v' w' ho hst)
          go_roundw
          case rel =>
            refine ⟨j + 1, q + 1, by omega, by omega, by go_num, HQ3, ?_, ?_⟩
            · have h9 := ho.out
              rw [take_own HJ.out HZ.out] at h9
              exact h9
            · exact HB.out.trans (((Step.alloc wr u4 _).trans hst.out).below (B := w.heap.size) HSB.out (fun k hk => (HD.out.lt k hk).1))
          case measure => simp [intOf]; omega
        · have hB := escB_four e1 e2
          have c0 := HCT.out 0 (by rw [hB]; simp)
          have c1 := HCT.out 1 (by rw [hB]; simp)
          have c2 := HCT.out 2 (by rw [hB]; simp)
          have c3 := HCT.out 3 (by rw [hB]; simp)
          rw [hB] at c0 c1 c2 c3
          simp only [Nat.add_zero, List.getD_cons_zero, List.getD_cons_succ] at c0 c1 c2 c3
          obtain ⟨D, hD⟩ : ∃ D : Int, D = 48 + z / 100 := ⟨_, rfl⟩
          obtain ⟨E, hE⟩ : ∃ E : Int, E = 48 + z / 10 % 10 := ⟨_, rfl⟩
          obtain ⟨F, hF⟩ : ∃ F : Int, F = 48 + z % 10 := ⟨_, rfl⟩
          rw [← hD] at c1
          rw [← hE] at c2
          rw [← hF] at c3
          have b1 : 48 ≤ D := by omega
          have b2 : D ≤ 50 := by omega
          have b3 : 48 ≤ E := by omega
          have b4 : E ≤ 57 := by omega
          have b5 : 48 ≤ F := by omega
          have b6 : F ≤ 57 := by omega
          have b7 : (D - 48) * 100 + (E - 48) * 10 + (F - 48) ≤ z := by omega
          have b8 : z ≤ (D - 48) * 100 + (E - 48) * 10 + (F - 48) := by omega
          have n1 : (D == 46) = false := by simp; omega
          have n2 : (D == 92) = false := by simp; omega
          have hq1 : q + 4 ≤ M := by have := HR.out; rw [hB] at this; simpa using this
          have HQ3 : Hid (q + 4 = (esc (ys.take (j + 1))).length) := by have := HQ2.out; rw [hB] at this; exact this
          have e6 : z < 33 ∨ 126 < z := by omega
          clear hB hD hE hF e1 e2
          have HX : Hid ((D - 48) * 100 + (E - 48) * 10 + (F - 48) = z) := by
            show _ = _
            omega
          rcases e6 with e6 | e6
          all_goals
            go_wp2_with (at_builtin; (with_reducible refine wpList_append_mine ?_ (.tmp 120) (.tmp 123) ?_ w.heap.size u4 (ys.take j) ?_ (own_alloc HD.out _) ⟨wr.heap.size, 0, none⟩ 1 1 ?_ [(D - 48) * 100 + (E - 48) * 10 + (F - 48)] ?_ (lit_cells wr _ _ ?_) ?_ ?_ ?_); rfl; rfl; rfl; rfl; rfl; rfl; exact HLN.out; (simp; exact Nat.le_succ_of_le HSB.out); intro v' w' ho hst)
            go_roundw
            case rel =>
              refine ⟨j + 1, q + 4, by omega, by omega, by go_num, HQ3, ?_, ?_⟩
              · have h9 := ho.out
                rw [HX.out, take_own HJ.out HZ.out] at h9
                exact h9
              · exact HB.out.trans (((Step.alloc wr u4 _).trans hst.out).below (B := w.heap.size) HSB.out (fun k hk => (HD.out.lt k hk).1))
            case measure => simp [intOf]; omega
    · have eq : M ≤ q := by
        have h1 := HQ.out
        rw [List.take_of_length_le (by have := HL.out; omega)] at h1
        have h2 := HM.out
        omega
      have HDD : Hid (Own wr w.heap.size u4 ys) := by
        have h9 := HD.out
        rw [List.take_of_length_le (by have := HL.out; omega)] at h9
        exact h9
      go_wp2_with fail
      go_ret2
      exact ⟨⟨_, rfl, HDD.out⟩, HB.out⟩

set_option maxRecDepth 20000 in
theorem decode_zero (ao : Option Addr) (C : Nat) (w : World) :
    Calls Try.prog 12 #[.slice ao 0 C] w fun e w' => RetPair w w' [] e ∧ Below w.heap.size w w' := by
  obtain ⟨i, hi, hz0, hz1, hz2⟩ := info_parts info5
  have HI := hide hi
  clear hi
  go_enter Try.func12, Try.ntmps12
  go_wp2_with (at_make; (with_reducible refine wpList_make_own _ ?_ (.const (.int .i64 0)) (.tmp 12) 22 ?_ w.heap.size 5 i (.int .u8 0) 1 Try.underlying22 HI.out hz0 hz1 .i64 .i64 0 0 ?_ ?_ ?_ ?_ ?_ ?_ ?_); rfl; rfl; rfl; rfl; rfl; exact Nat.zero_le _; exact Nat.zero_le _; exact Nat.le_refl _; intro w1 ho1 hg1)
  have HO1 : Hid (Own w1 w.heap.size (.slice (some ⟨w.heap.size, 0, none⟩) 0 0) []) := ho1
  have HB1 : Hid (Below w.heap.size w w1) := (Below.refl _ _).grown hg1 (Nat.le_refl _) (fun k e => by cases e)
  clear ho1 hg1 hz0 hz1 hz2 HI
  go_loop [4, 5] (fun d u => d = .slice (some ⟨w.heap.size, 0, none⟩) 0 0 ∧ u = .int .i64 0) (fun _ _ => 0)
  case atStart => exact ⟨rfl, rfl⟩
  case round =>
    obtain ⟨rfl, rfl⟩ := hrel
    go_wp2_with fail
    go_ret2
    exact ⟨⟨_, rfl, HO1.out⟩, HB1.out⟩

theorem decode_any (tv : Value) (ys : List Int) (w : World) (h : Rd w tv (esc ys)) (hby : ∀ i, 0 ≤ ys.getD i 0 ∧ ys.getD i 0 ≤ 255) (hn : ys.length ≤ 1048576) :
    Calls Try.prog 12 #[tv] w fun e w' => RetPair w w' ys e ∧ Below w.heap.size w w' := by
  obtain ⟨ao, c, rfl, hlc, hcm, hcell⟩ := h
  by_cases h0 : 0 < (esc ys).length
  · obtain ⟨b, o, rfl, hb, hc⟩ := hcell h0
    exact decode_pos ys b o _ c w rfl h0 hlc hb hc hby hn
  · have h1 := (esc_len ys).1
    have hx : ys = [] := List.eq_nil_of_length_eq_zero (by omega)
    subst hx
    exact decode_zero ao c w

end Go.Proofs.Qxb6602421a.Lb
