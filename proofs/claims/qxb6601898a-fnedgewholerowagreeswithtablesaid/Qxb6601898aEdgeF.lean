import Derived.Test.Qxb6601898aEdgeE
namespace Go.Proofs.Qxb6601898a.Ed
open Go.ChangeShapes Go.WideShapes Go.ChangeAt Go.RowKit
set_option linter.unusedVariables false

/-- Too long: true. -/
theorem law2_big (a0 a1 a2 : Option Addr) (n0 c0 n1 c1 n2 c2 : Nat) (s : Int) (w : World) (h0 : n0 ≤ maxLen) (h1 : n1 ≤ maxLen) (h2 : n2 ≤ maxLen) (h : 65536 < n0 ∨ 262144 < n1 ∨ 65536 < n2) :
    Calls Try.prog 4 #[.slice a0 n0 c0, .slice a1 n1 c1, .slice a2 n2 c2, .int .i32 s] w fun e w' => e = .returned (.bool true) ∧ Below w.heap.size w w' := by
  have h0' := h0
  have h1' := h1
  have h2' := h2
  unfold maxLen at h0' h1' h2'
  have hd : (65536 : Int) < n0 ∨ ((n0 : Int) ≤ 65536 ∧ (262144 : Int) < n1) ∨ ((n0 : Int) ≤ 65536 ∧ (n1 : Int) ≤ 262144 ∧ (65536 : Int) < n2) := by omega
  clear h
  rcases hd with g | ⟨g, g'⟩ | ⟨g, g', g''⟩
  all_goals
    go_enter Try.func4, Try.ntmps4
    go_wp2_with fail
    refine (zz10 _ _ _ _ _ _ _ _ _ _ _ h0 h1 h2).mono ?_
    rintro e w' ⟨⟨r, rfl, _⟩, hw⟩
    have hw := hw.symm
    subst hw
    cases r
    all_goals
      go_wp2_with fail
      go_ret
      exact ⟨rfl, Below.refl _ _⟩

/-- Outside the domain: true. -/
theorem law2_no (a0 a1 a2 : Option Addr) (n0 c0 n1 c1 n2 c2 : Nat) (s : Int) (w : World) (h0 : (n0 : Int) ≤ 65536) (h1 : (n1 : Int) ≤ 262144) (h2 : (n2 : Int) ≤ 65536)
    (h8 : Calls Try.prog 8 #[.slice a0 n0 c0, .slice a1 n1 c1, .slice a2 n2 c2, .int .i32 s] w fun e w' => e = .returned (.bool false) ∧ w' = w) :
    Calls Try.prog 4 #[.slice a0 n0 c0, .slice a1 n1 c1, .slice a2 n2 c2, .int .i32 s] w fun e w' => e = .returned (.bool true) ∧ Below w.heap.size w w' := by
  have H8 : Hid (Calls Try.prog 8 #[.slice a0 n0 c0, .slice a1 n1 c1, .slice a2 n2 c2, .int .i32 s] w fun e w' => e = .returned (.bool false) ∧ w' = w) := h8
  clear h8
  go_enter Try.func4, Try.ntmps4
  go_wp2_with fail
  refine (zz10 _ _ _ _ _ _ _ _ _ _ _ (by unfold maxLen; omega) (by unfold maxLen; omega) (by unfold maxLen; omega)).mono ?_
  rintro e w' ⟨⟨r, rfl, _⟩, hw⟩
  have hw := hw.symm
  subst hw
  cases r
  · go_wp2_with fail
    go_ret
    exact ⟨rfl, Below.refl _ _⟩
  · go_wp2_with fail
    refine H8.out.mono ?_
    rintro e w' ⟨rfl, hw⟩
    have hw := hw.symm
    subst hw
    go_wp2_with fail
    go_ret
    exact ⟨rfl, Below.refl _ _⟩

set_option maxRecDepth 4000 in
set_option maxHeartbeats 4000000 in
theorem law2_empty (a1 a2 : Option Addr) (b0 o0 n0 c0 n1 c1 n2 c2 k : Nat) (lo hi : Int) (x y t : Nat → Int) (w : World) (h0 : (n0 : Int) ≤ 65536) (h1 : (n1 : Int) ≤ 262144) (h2 : (n2 : Int) ≤ 65536) (hk : k + 1 < n0)
    (hb0 : b0 < w.heap.size)
    (hx : ∀ i, i < n0 → w.cell? ⟨b0, o0 + i, none⟩ = some (.int .i32 (x i))) (hlo : Hid (x k = lo)) (hhi : Hid (x (k + 1) = hi)) (blo : -2147483648 ≤ lo ∧ lo ≤ 2147483647) (bhi : -2147483648 ≤ hi ∧ hi ≤ 2147483647) (h : hi ≤ lo)
    (hy : Src w a1 n1 c1 (fun i => .int .u8 (y i))) (ht : Src w a2 n2 c2 (fun i => .int .i32 (t i))) :
    Calls Try.prog 4 #[.slice (some ⟨b0, o0, none⟩) n0 c0, .slice a1 n1 c1, .slice a2 n2 c2, .int .i32 k] w fun e w' => e = .returned (.bool true) ∧ Below w.heap.size w w' := by
  have HX : Hid (∀ i, i < n0 → w.cell? ⟨b0, o0 + i, none⟩ = some (.int .i32 (x i))) := hx
  clear hx
  have H8 : Hid (Calls Try.prog 8 #[.slice (some ⟨b0, o0, none⟩) n0 c0, .slice a1 n1 c1, .slice a2 n2 c2, .int .i32 k] w fun e w' => e = .returned (.bool true) ∧ w' = w) :=
    dom_empty a1 a2 b0 o0 n0 c0 n1 c1 n2 c2 k lo hi w (by unfold maxLen; omega) hk (by omega) (by rw [HX.out k (by omega), hlo.out]) (by rw [HX.out (k + 1) (by omega), hhi.out]) blo bhi h
  obtain ⟨blo1, blo2⟩ := blo
  obtain ⟨bhi1, bhi2⟩ := bhi
  rcases hy with ⟨rfl, rfl, rfl⟩ | ⟨x1, rfl, hy⟩ <;> rcases ht with ⟨rfl, rfl, rfl⟩ | ⟨x2, rfl, ht⟩
  all_goals
    try (have HY : Hid (∀ i, i < n1 → (x1.add i).block < w.heap.size ∧ w.cell? (x1.add i) = some (.int .u8 (y i))) := hy; clear hy)
    try (have HT : Hid (∀ i, i < n2 → (x2.add i).block < w.heap.size ∧ w.cell? (x2.add i) = some (.int .i32 (t i))) := ht; clear ht)
    go_enter Try.func4, Try.ntmps4
    go_wp2_with fail
    refine (zz10 _ _ _ _ _ _ _ _ _ _ _ (by unfold maxLen; omega) (by unfold maxLen; omega) (by unfold maxLen; omega)).mono ?_
    rintro e w' ⟨⟨r, rfl, _⟩, hw⟩
    have hw := hw.symm
    subst hw
    cases r
    · go_wp2_with fail
      go_ret
      exact ⟨rfl, Below.refl _ _⟩
    · go_wp2_with fail
      refine H8.out.mono ?_
      rintro e w' ⟨rfl, hw⟩
      have hw := hw.symm
      subst hw
      clear H8
      go_wp2_with (first
        | ((with_reducible refine wpList_make_any ?_ (.tmp 42) (.tmp 42) 22 ?_ 21 (.int .i32 0) 4 Try.underlying22 info21 ?_ .i64 .i64 n0 ?_ ?_ ?_ ?_ w (Below.refl _ _) ?_); rfl; rfl; rfl; rfl; rfl; omega; omega; intro w1 q0 hq0 hp0 hr0 hbl1 hbm1)
        | ((with_reducible refine wpList_copy_any ?_ (.tmp 44) (.tmp 45) 22 22 ?_ 21 Try.underlying22 size21 q0 n0 b0 o0 c0 ?_ ?_ 21 (fun _ => .int .i32 0) (fun i => .int .i32 (x i)) hr0.out (fun j hj => (hbl1.out.cell (p := ⟨b0, o0 + j, none⟩) hb0).trans (HX.out j hj)) (fun _ => rfl) w hbl1.out hq0 ?_); rfl; rfl; rfl; rfl; intro w2 hr0' hbl2 hbm2; have lt2 : q0 < w2.heap.size := hr0'.out.lt; have cL2 : w2.cell? ⟨q0, k, none⟩ = some (.int .i32 lo) := by {rw [hr0'.out.cell (by omega), hlo.out]}; have cH2 : w2.cell? ⟨q0, k + 1, none⟩ = some (.int .i32 hi) := by {rw [hr0'.out.cell (by omega), hhi.out]}; clear hr0 hr0' hbm1 hbm2 hbl1)
        | ((with_reducible refine wpList_make_any ?_ (.tmp 51) (.tmp 51) 23 ?_ 5 (.int .u8 0) 1 Try.underlying23 info5 ?_ .i64 .i64 n1 ?_ ?_ ?_ ?_ w hbl2.out ?_); rfl; rfl; rfl; rfl; rfl; omega; omega; intro w3 q1 hq1 hp1 hr1 hbl3 hbm3; have lt3 : q0 < w3.heap.size := Nat.lt_of_lt_of_le lt2 hbm3.out.size; have cL3 := cell_on hbm3.out cL2 lt2; have cH3 := cell_on hbm3.out cH2 lt2; clear hbm3)
        | ((with_reducible refine wpList_copy_addr ?_ (.tmp 53) (.tmp 54) 23 23 ?_ 5 Try.underlying23 size5 q1 n1 x1 c1 ?_ ?_ 5 (fun _ => .int .u8 0) (fun i => .int .u8 (y i)) hr1.out (fun j hj => (hbl3.out.cell (HY.out j hj).1).trans (HY.out j hj).2) (fun _ => rfl) w hbl3.out hq1 ?_); rfl; rfl; rfl; rfl; intro w4 hr1' hbl4 hbm4; have lt4 : q0 < w4.heap.size := Nat.lt_of_lt_of_le lt3 hbm4.out.size; have cL4 := cell_on hbm4.out cL3 (by omega); have cH4 := cell_on hbm4.out cH3 (by omega); clear hr1 hr1' hbm4 hbl3)
        | ((with_reducible refine wpList_make_any ?_ (.tmp 60) (.tmp 60) 22 ?_ 21 (.int .i32 0) 4 Try.underlying22 info21 ?_ .i64 .i64 n2 ?_ ?_ ?_ ?_ w hbl4.out ?_); rfl; rfl; rfl; rfl; rfl; omega; omega; intro w5 q2 hq2 hp2 hr2 hbl5 hbm5; have lt5 : q0 < w5.heap.size := Nat.lt_of_lt_of_le lt4 hbm5.out.size; have cL5 := cell_on hbm5.out cL4 lt4; have cH5 := cell_on hbm5.out cH4 lt4; clear hbm5)
        | ((with_reducible refine wpList_make_any ?_ (.tmp 60) (.tmp 60) 22 ?_ 21 (.int .i32 0) 4 Try.underlying22 info21 ?_ .i64 .i64 n2 ?_ ?_ ?_ ?_ w hbl2.out ?_); rfl; rfl; rfl; rfl; rfl; omega; omega; intro w5 q2 hq2 hp2 hr2 hbl5 hbm5; have lt5 : q0 < w5.heap.size := Nat.lt_of_lt_of_le lt2 hbm5.out.size; have cL5 := cell_on hbm5.out cL2 lt2; have cH5 := cell_on hbm5.out cH2 lt2; clear hbm5)
        | ((with_reducible refine wpList_copy_addr ?_ (.tmp 62) (.tmp 63) 22 22 ?_ 21 Try.underlying22 size21 q2 n2 x2 c2 ?_ ?_ 21 (fun _ => .int .i32 0) (fun i => .int .i32 (t i)) hr2.out (fun j hj => (hbl5.out.cell (HT.out j hj).1).trans (HT.out j hj).2) (fun _ => rfl) w hbl5.out hq2 ?_); rfl; rfl; rfl; rfl; intro w6 hr2' hbl6 hbm6; have lt6 : q0 < w6.heap.size := Nat.lt_of_lt_of_le lt5 hbm6.out.size; have cL6 := cell_on hbm6.out cL5 (by omega); have cH6 := cell_on hbm6.out cH5 (by omega); clear hr2 hr2' hbm6 hbl5)
        | ((with_reducible refine wpList_alloc_any ?_ 27 ?_ 256 (.int .i32 0) info27 w hbl6.out ?_); rfl; rfl; intro w7 T hT0 hT hrT hbl7 hbm7; have RT : Hid (q0 < T ∧ w7.cell? ⟨q0, k, none⟩ = some (.int .i32 lo) ∧ w7.cell? ⟨q0, k + 1, none⟩ = some (.int .i32 hi)) := ⟨Nat.lt_of_lt_of_le lt6 hT, cell_on hbm7.out cL6 lt6, cell_on hbm7.out cH6 lt6⟩)
        | ((with_reducible refine wpList_alloc_any ?_ 27 ?_ 256 (.int .i32 0) info27 w hbl4.out ?_); rfl; rfl; intro w7 T hT0 hT hrT hbl7 hbm7; have RT : Hid (q0 < T ∧ w7.cell? ⟨q0, k, none⟩ = some (.int .i32 lo) ∧ w7.cell? ⟨q0, k + 1, none⟩ = some (.int .i32 hi)) := ⟨Nat.lt_of_lt_of_le lt4 hT, cell_on hbm7.out cL4 lt4, cell_on hbm7.out cH4 lt4⟩)
        | ((with_reducible refine wpList_alloc_any ?_ 27 ?_ 256 (.int .i32 0) info27 w hbl2.out ?_); rfl; rfl; intro w7 T hT0 hT hrT hbl7 hbm7; have RT : Hid (q0 < T ∧ w7.cell? ⟨q0, k, none⟩ = some (.int .i32 lo) ∧ w7.cell? ⟨q0, k + 1, none⟩ = some (.int .i32 hi)) := ⟨Nat.lt_of_lt_of_le lt2 hT, cell_on hbm7.out cL2 lt2, cell_on hbm7.out cH2 lt2⟩))
      try clear cL6 cH6
      try clear cL5 cH5
      try clear cL4 cH4
      try clear cL3 cH3
      try clear cL2 cH2
      clear HX hbm7
      have hz : hi ≤ lo := h
      go_loopw [15] (fun c wr => ∃ j : Nat, j ≤ 256 ∧ c = .int .i64 j ∧ Hid (wr.rowIs T 27 256 (fun i => .int .i32 (if i < j then -1 else 0))) ∧ Hid (Below T w7 wr)) (fun c _ => 256 - (intOf c).toNat)
      case atStart => exact ⟨0, by omega, rfl, hrT.out.congr (fun i hi => by simp), Below.refl _ _⟩
      case round =>
        obtain ⟨j, hj, rfl, HR, HB⟩ := hrel
        by_cases hlt2 : j < 256
        · obtain ⟨v0, cT⟩ : ∃ v0, wr.cell? ⟨T, j, none⟩ = some v0 := ⟨_, HR.out.cell hlt2⟩
          have fT := HR.out.frozen j
          go_wp2
          go_roundw
          case rel =>
            refine ⟨j + 1, by omega, by go_num, (HR.out.set j _).congr (fun i hi => ?_), HB.out.setCell (Nat.le_refl _) _⟩
            by_cases e : i = j
            · subst e; simp
            · rw [if_neg e]
              by_cases e2 : i < j
              · rw [if_pos e2, if_pos (by omega)]
              · rw [if_neg e2, if_neg (by omega)]
          case measure => simp [intOf]; omega
        · have hj9 : (256 : Int) ≤ j := by omega
          have HR2 : Hid (wr.rowIs T 27 256 (fun i => .int .i32 (-1))) := HR.out.congr (fun i hi => by rw [if_pos (by omega)])
          clear HR hlt2
          obtain ⟨wb, hwb⟩ : ∃ wb, wb = wr := ⟨_, rfl⟩
          subst hwb
          have hT3 : T + 1 ≤ wb.heap.size := HR2.out.lt
          go_wp2_with fail
          go_loopw [16] (fun u wr2 => u = .int .i64 (hi - 1) ∧ wr2 = wb) (fun u _ => 0)
          case atStart => exact ⟨rfl, rfl⟩
          case round =>
            obtain ⟨rfl, hwr⟩ := hrel
            rw [hwr]
            clear hwr
            have EDG : Hid (∀ W', Below (T + 1) wb W' → ∀ (b : Int) (a1 a2 : Option Addr) (n1 c1 n2 c2 : Nat), Calls Try.prog 9 #[.slice (some ⟨q0, 0, none⟩) n0 n0, .slice a1 n1 c1, .slice a2 n2 c2, .int .i32 k, .int .u8 b] W' fun e w' => e = .returned (.int .i32 (-1)) ∧ Below W'.heap.size W' w') := by
              intro W' hW' b a1 a2 n1 c1 n2 c2
              obtain ⟨lt0, e1, e2⟩ := RT.out
              have f1 := cell_on hW' (cell_on HB.out e1 lt0) (by omega)
              have f2 := cell_on hW' (cell_on HB.out e2 lt0) (by omega)
              have s1 := hW'.size
              exact zzedge_empty a1 a2 q0 0 n0 n0 n1 c1 n2 c2 k b lo hi W' (by unfold maxLen; omega) hk (by omega) (by omega) (by rw [Nat.zero_add]; exact f1) (by rw [Nat.zero_add]; exact f2) hz
            have HBE : Hid (Below w.heap.size w wb) := hbl7.out.trans (HB.out.mono hT0)
            clear RT hlo hhi hrT hbl7
            have hz2 : hi - 1 < lo := by omega
            go_wp2_with fail
            go_loopw [17] (fun u wr => ∃ j : Nat, j ≤ 256 ∧ u = .int .i64 j ∧ Hid (Below (T + 1) wb wr)) (fun u _ => 256 - (intOf u).toNat)
            case atStart => exact ⟨0, by omega, rfl, Below.refl _ _⟩
            case round =>
              obtain ⟨j, hj, rfl, HB3⟩ := hrel
              by_cases hj2 : j < 256
              · have cV := cell_on HB3.out (HR2.out.cell hj2) (by omega)
                have hj3 : (j : Int) < 256 := by omega
                have HT4 : T < wr.heap.size := by have := HB3.out.size; omega
                go_wp2_with fail
                go_region_with (go_at_call 9; refine (EDG.out _ HB3.out.drew _ _ _ _ _ _ _).mono ?_; rintro e w8 ⟨rfl, hb8⟩; have cV8 := cell_on hb8 cV (by simpa using HT4))
                all_goals
                  have HB9 : Hid (Below (T + 1) wb w8) := HB3.out.drew.trans (by rename_i hb8 _; exact hb8.mono (by simp; omega))
                  go_wp2_with fail
                  go_roundw
                  case rel => exact ⟨j + 1, by omega, by go_num, HB9⟩
                  case measure => simp [intOf]; omega
              · go_wp2_with fail
                go_ret
                exact ⟨rfl, HBE.out.trans (HB3.out.mono (by omega))⟩

end Go.Proofs.Qxb6601898a.Ed
