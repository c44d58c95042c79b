import Derived.Test.Qxb6601898aEdgeC
namespace Go.Proofs.Qxb6601898a.Ed
open Go.ChangeShapes Go.WideShapes Go.ChangeAt Go.RowKit
set_option linter.unusedVariables false

/-- Too long: true. -/
theorem law_big (a0 a1 a2 : Option Addr) (n0 c0 n1 c1 n2 c2 : Nat) (s b : Int) (w : World) (h0 : n0 ≤ maxLen) (h1 : n1 ≤ maxLen) (h2 : n2 ≤ maxLen) (h : 65536 < n0 ∨ 262144 < n1 ∨ 65536 < n2) :
    Calls Try.prog 3 #[.slice a0 n0 c0, .slice a1 n1 c1, .slice a2 n2 c2, .int .i32 s, .int .u8 b] w fun e w' => e = .returned (.bool true) ∧ Below w.heap.size w w' := by
  have h0' := h0
  have h1' := h1
  have h2' := h2
  unfold maxLen at h0' h1' h2'
  have hd : (65536 : Int) < n0 ∨ ((n0 : Int) ≤ 65536 ∧ (262144 : Int) < n1) ∨ ((n0 : Int) ≤ 65536 ∧ (n1 : Int) ≤ 262144 ∧ (65536 : Int) < n2) := by omega
  clear h
  rcases hd with g | ⟨g, g'⟩ | ⟨g, g', g''⟩
  all_goals
    go_enter Try.func3, Try.ntmps3
    go_wp2_with fail
    refine (zz7 _ _ _ _ _ _ _ _ _ _ _ _ h0 h1 h2).mono ?_
    rintro e w' ⟨⟨r, rfl, _⟩, hw⟩
    have hw := hw.symm
    subst hw
    cases r
    all_goals
      go_wp2_with fail
      go_ret
      exact ⟨rfl, Below.refl _ _⟩

/-- Outside the domain: true. -/
theorem law_no (a0 a1 a2 : Option Addr) (n0 c0 n1 c1 n2 c2 : Nat) (s b : Int) (w : World) (h0 : (n0 : Int) ≤ 65536) (h1 : (n1 : Int) ≤ 262144) (h2 : (n2 : Int) ≤ 65536)
    (h8 : Calls Try.prog 8 #[.slice a0 n0 c0, .slice a1 n1 c1, .slice a2 n2 c2, .int .i32 s] w fun e w' => e = .returned (.bool false) ∧ w' = w) :
    Calls Try.prog 3 #[.slice a0 n0 c0, .slice a1 n1 c1, .slice a2 n2 c2, .int .i32 s, .int .u8 b] w fun e w' => e = .returned (.bool true) ∧ Below w.heap.size w w' := by
  have H8 : Hid (Calls Try.prog 8 #[.slice a0 n0 c0, .slice a1 n1 c1, .slice a2 n2 c2, .int .i32 s] w fun e w' => e = .returned (.bool false) ∧ w' = w) := h8
  clear h8
  go_enter Try.func3, Try.ntmps3
  go_wp2_with fail
  refine (zz7 _ _ _ _ _ _ _ _ _ _ _ _ (by unfold maxLen; omega) (by unfold maxLen; omega) (by unfold maxLen; omega)).mono ?_
  rintro e w' ⟨⟨r, rfl, _⟩, hw⟩
  have hw := hw.symm
  subst hw
  cases r
  · go_wp2_with fail
    go_ret
    exact ⟨rfl, Below.refl _ _⟩
  · go_wp2_with fail
    refine H8.out.mono ?_
    rintro e w' ⟨rfl, hw⟩
    have hw := hw.symm
    subst hw
    go_wp2_with fail
    go_ret
    exact ⟨rfl, Below.refl _ _⟩

/-- nil, or a row. -/
def Src (w : World) (a : Option Addr) (n c : Nat) (f : Nat → Value) : Prop :=
  (a = none ∧ n = 0 ∧ c = 0) ∨ ∃ x, a = some x ∧ ∀ i, i < n → (x.add i).block < w.heap.size ∧ w.cell? (x.add i) = some (f i)

theorem wpList_copy_addr {P : Program} {w : World} {ops : Array Oper} {rest : List Oper} {o : Oper} {a : Act} {Q : Exit → Act → World → Prop} (hgd : o.guard = none) (d s : Operand) (dT sT : TypeId)
    (ho : o.op = .call { callee := .builtin .copy, args := #[d, s], argTypes := #[dT, sT] }) (elem : TypeId) (hu : P.underlying dT = some (.slice elem)) (hsz : (P.info? elem).map (·.size) = some 1)
    (g n : Nat) (x : Addr) (sCap : Nat) (hd : a.eval d = .slice (some ⟨g, 0, none⟩) n n) (hs : a.eval s = .slice (some x) n sCap)
    (t : TypeId) (f0 f : Nat → Value) (hrow : w.rowIs g t n f0) (hsrc : ∀ j, j < n → w.cell? (x.add j) = some (f j)) (h1 : ∀ j, (f j).oneCell' = true) (w0 : World) (hb : Below w0.heap.size w0 w) (hg0 : w0.heap.size ≤ g)
    (h : ∀ w', Hid (w'.rowIs g t n f) → Hid (Below w0.heap.size w0 w') → Hid (Below g w w') → wpList P ops Q rest (a.put o.dst (.int .i64 n)) w') : wpList P ops Q (o :: rest) a w := by
  obtain ⟨cur, hblk, hsize, hcur⟩ := hrow
  have hlen : ((List.range n).map f).length = Nat.min n n := by simp
  have hcs : ∀ (j : Nat) (v : Value), ((List.range n).map f)[j]? = some v → w.cell? (x.add j) = some v := by
    intro j v hj
    obtain ⟨hlt, rfl⟩ := List.getElem?_eq_some_iff.1 hj
    simp at hlt
    simp only [List.getElem_map, List.getElem_range]
    exact hsrc j hlt
  refine wpList_copy_own hgd d s dT sT ho elem hu hsz g 0 n n x n sCap hd hs cur t hblk ((List.range n).map f) hlen hcs (by simp [hsize]) ?_ ?_
  · intro v hv
    simp only [List.mem_map, List.mem_range] at hv
    obtain ⟨j, hj, rfl⟩ := hv
    exact h1 j
  · simp only [List.length_map, List.length_range, goInt]
    refine h _ ⟨_, setRow_heap w g _ _ t _ hblk, ?_, ?_⟩ (below_setRow hb hg0 _) (below_setRow (Below.refl _ _) (Nat.le_refl _) _)
    · simp [hsize]
    · intro i hi
      simp only [List.take_zero, List.nil_append]
      rw [List.getElem?_toArray, List.getElem?_append_left (by simpa using hi)]
      simp [hi]

theorem cell_on {w w' : World} {B b i : Nat} {v : Value} (hb : Below B w w') (h : w.cell? ⟨b, i, none⟩ = some v) (hlt : b < B) : w'.cell? ⟨b, i, none⟩ = some v := (hb.cell (p := ⟨b, i, none⟩) hlt).trans h

set_option maxHeartbeats 2000000 in
theorem law_empty (a1 a2 : Option Addr) (b0 o0 n0 c0 n1 c1 n2 c2 k : Nat) (b lo hi : Int) (x y t : Nat → Int) (w : World) (h0 : (n0 : Int) ≤ 65536) (h1 : (n1 : Int) ≤ 262144) (h2 : (n2 : Int) ≤ 65536) (hk : k + 1 < n0)
    (hb0 : b0 < w.heap.size)
    (hx : ∀ i, i < n0 → w.cell? ⟨b0, o0 + i, none⟩ = some (.int .i32 (x i))) (hlo : Hid (x k = lo)) (hhi : Hid (x (k + 1) = hi)) (blo : -2147483648 ≤ lo ∧ lo ≤ 2147483647) (bhi : -2147483648 ≤ hi ∧ hi ≤ 2147483647) (h : hi ≤ lo)
    (hy : Src w a1 n1 c1 (fun i => .int .u8 (y i))) (ht : Src w a2 n2 c2 (fun i => .int .i32 (t i))) :
    Calls Try.prog 3 #[.slice (some ⟨b0, o0, none⟩) n0 c0, .slice a1 n1 c1, .slice a2 n2 c2, .int .i32 k, .int .u8 b] w fun e w' => e = .returned (.bool true) ∧ Below w.heap.size w w' := by
  have HX : Hid (∀ i, i < n0 → w.cell? ⟨b0, o0 + i, none⟩ = some (.int .i32 (x i))) := hx
  clear hx
  have H8 : Hid (Calls Try.prog 8 #[.slice (some ⟨b0, o0, none⟩) n0 c0, .slice a1 n1 c1, .slice a2 n2 c2, .int .i32 k] w fun e w' => e = .returned (.bool true) ∧ w' = w) :=
    dom_empty a1 a2 b0 o0 n0 c0 n1 c1 n2 c2 k lo hi w (by unfold maxLen; omega) hk (by omega) (by rw [HX.out k (by omega), hlo.out]) (by rw [HX.out (k + 1) (by omega), hhi.out]) blo bhi h
  obtain ⟨blo1, blo2⟩ := blo
  obtain ⟨bhi1, bhi2⟩ := bhi
  rcases hy with ⟨rfl, rfl, rfl⟩ | ⟨x1, rfl, hy⟩ <;> rcases ht with ⟨rfl, rfl, rfl⟩ | ⟨x2, rfl, ht⟩
  all_goals
    try (have HY : Hid (∀ i, i < n1 → (x1.add i).block < w.heap.size ∧ w.cell? (x1.add i) = some (.int .u8 (y i))) := hy; clear hy)
    try (have HT : Hid (∀ i, i < n2 → (x2.add i).block < w.heap.size ∧ w.cell? (x2.add i) = some (.int .i32 (t i))) := ht; clear ht)
    go_enter Try.func3, Try.ntmps3
    go_wp2_with fail
    refine (zz7 _ _ _ _ _ _ _ _ _ _ _ _ (by unfold maxLen; omega) (by unfold maxLen; omega) (by unfold maxLen; omega)).mono ?_
    rintro e w' ⟨⟨r, rfl, _⟩, hw⟩
    have hw := hw.symm
    subst hw
    cases r
    · go_wp2_with fail
      go_ret
      exact ⟨rfl, Below.refl _ _⟩
    · go_wp2_with fail
      refine H8.out.mono ?_
      rintro e w' ⟨rfl, hw⟩
      have hw := hw.symm
      subst hw
      clear H8
      go_wp2_with (first
        | ((with_reducible refine wpList_make_any ?_ (.tmp 45) (.tmp 45) 22 ?_ 21 (.int .i32 0) 4 Try.underlying22 info21 ?_ .i64 .i64 n0 ?_ ?_ ?_ ?_ w (Below.refl _ _) ?_); rfl; rfl; rfl; rfl; rfl; omega; omega; intro w1 q0 hq0 hp0 hr0 hbl1 hbm1)
        | ((with_reducible refine wpList_copy_any ?_ (.tmp 47) (.tmp 48) 22 22 ?_ 21 Try.underlying22 size21 q0 n0 b0 o0 c0 ?_ ?_ 21 (fun _ => .int .i32 0) (fun i => .int .i32 (x i)) hr0.out (fun j hj => (hbl1.out.cell (p := ⟨b0, o0 + j, none⟩) hb0).trans (HX.out j hj)) (fun _ => rfl) w hbl1.out hq0 ?_); rfl; rfl; rfl; rfl; intro w2 hr0' hbl2 hbm2; have lt2 : q0 < w2.heap.size := hr0'.out.lt; have cL2 : w2.cell? ⟨q0, k, none⟩ = some (.int .i32 lo) := by {rw [hr0'.out.cell (by omega), hlo.out]}; have cH2 : w2.cell? ⟨q0, k + 1, none⟩ = some (.int .i32 hi) := by {rw [hr0'.out.cell (by omega), hhi.out]}; clear hr0 hr0' hbm1 hbm2 hbl1)
        | ((with_reducible refine wpList_make_any ?_ (.tmp 54) (.tmp 54) 23 ?_ 5 (.int .u8 0) 1 Try.underlying23 info5 ?_ .i64 .i64 n1 ?_ ?_ ?_ ?_ w hbl2.out ?_); rfl; rfl; rfl; rfl; rfl; omega; omega; intro w3 q1 hq1 hp1 hr1 hbl3 hbm3; have lt3 : q0 < w3.heap.size := Nat.lt_of_lt_of_le lt2 hbm3.out.size; have cL3 := cell_on hbm3.out cL2 lt2; have cH3 := cell_on hbm3.out cH2 lt2; clear hbm3)
        | ((with_reducible refine wpList_copy_addr ?_ (.tmp 56) (.tmp 57) 23 23 ?_ 5 Try.underlying23 size5 q1 n1 x1 c1 ?_ ?_ 5 (fun _ => .int .u8 0) (fun i => .int .u8 (y i)) hr1.out (fun j hj => (hbl3.out.cell (HY.out j hj).1).trans (HY.out j hj).2) (fun _ => rfl) w hbl3.out hq1 ?_); rfl; rfl; rfl; rfl; intro w4 hr1' hbl4 hbm4; have lt4 : q0 < w4.heap.size := Nat.lt_of_lt_of_le lt3 hbm4.out.size; have cL4 := cell_on hbm4.out cL3 (by omega); have cH4 := cell_on hbm4.out cH3 (by omega); clear hr1 hr1' hbm4 hbl3)
        | ((with_reducible refine wpList_make_any ?_ (.tmp 63) (.tmp 63) 22 ?_ 21 (.int .i32 0) 4 Try.underlying22 info21 ?_ .i64 .i64 n2 ?_ ?_ ?_ ?_ w hbl4.out ?_); rfl; rfl; rfl; rfl; rfl; omega; omega; intro w5 q2 hq2 hp2 hr2 hbl5 hbm5; have lt5 : q0 < w5.heap.size := Nat.lt_of_lt_of_le lt4 hbm5.out.size; have cL5 := cell_on hbm5.out cL4 lt4; have cH5 := cell_on hbm5.out cH4 lt4; clear hbm5)
        | ((with_reducible refine wpList_make_any ?_ (.tmp 63) (.tmp 63) 22 ?_ 21 (.int .i32 0) 4 Try.underlying22 info21 ?_ .i64 .i64 n2 ?_ ?_ ?_ ?_ w hbl2.out ?_); rfl; rfl; rfl; rfl; rfl; omega; omega; intro w5 q2 hq2 hp2 hr2 hbl5 hbm5; have lt5 : q0 < w5.heap.size := Nat.lt_of_lt_of_le lt2 hbm5.out.size; have cL5 := cell_on hbm5.out cL2 lt2; have cH5 := cell_on hbm5.out cH2 lt2; clear hbm5)
        | ((with_reducible refine wpList_copy_addr ?_ (.tmp 65) (.tmp 66) 22 22 ?_ 21 Try.underlying22 size21 q2 n2 x2 c2 ?_ ?_ 21 (fun _ => .int .i32 0) (fun i => .int .i32 (t i)) hr2.out (fun j hj => (hbl5.out.cell (HT.out j hj).1).trans (HT.out j hj).2) (fun _ => rfl) w hbl5.out hq2 ?_); rfl; rfl; rfl; rfl; intro w6 hr2' hbl6 hbm6; have lt6 : q0 < w6.heap.size := Nat.lt_of_lt_of_le lt5 hbm6.out.size; have cL6 := cell_on hbm6.out cL5 (by omega); have cH6 := cell_on hbm6.out cH5 (by omega); clear hr2 hr2' hbm6 hbl5))
      go_loop [16, 17] (fun u v => u = .int .i64 lo ∧ v = .int .i64 hi) (fun u v => 0)
      case atStart => exact ⟨rfl, rfl⟩
      case round =>
        obtain ⟨rfl, rfl⟩ := hrel
        have hz : decide (lo < hi) = false := by simp; omega
        go_wp2_with fail
        refine (zzedge_empty _ _ q0 0 n0 n0 _ _ _ _ k b lo hi _ (by unfold maxLen; omega) hk (by omega) (by assumption) (by rw [Nat.zero_add]; assumption) (by rw [Nat.zero_add]; assumption) h).mono ?_
        rintro e w7 ⟨rfl, hb7⟩
        have HE : Hid (Below w.heap.size w w7) := by
          first | exact hbl6.out.trans (hb7.mono hbl6.out.size) | exact hbl4.out.trans (hb7.mono hbl4.out.size) | exact hbl2.out.trans (hb7.mono hbl2.out.size)
        clear hb7
        go_wp2_with fail
        go_ret
        exact ⟨rfl, HE.out⟩

end Go.Proofs.Qxb6601898a.Ed
