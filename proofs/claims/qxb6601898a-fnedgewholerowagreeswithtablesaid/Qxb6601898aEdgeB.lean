import Derived.Test.Qxb6601898aEdgeA
import Derived.Laws.Tables
namespace Go.Proofs.Qxb6601898a.Ed
open Go.ChangeShapes Go.WideShapes Go.ChangeAt Go.RowKit
set_option linter.unusedVariables false

/-- The target of the first edge of lo .. hi-1 whose byte is b; -1 where none is. -/
def EdgeRes (y t : Nat → Int) (b lo hi r : Int) : Prop :=
  (∃ i : Nat, lo ≤ i ∧ (i : Int) < hi ∧ y i = b ∧ (∀ j : Nat, lo ≤ j → j < i → y j ≠ b) ∧ r = t i) ∨ ((∀ i : Nat, lo ≤ i → (i : Int) < hi → y i ≠ b) ∧ r = -1)

theorem EdgeRes.uniq {y t : Nat → Int} {b lo hi r r' : Int} (h : EdgeRes y t b lo hi r) (h' : EdgeRes y t b lo hi r') : r = r' := by
  rcases h with ⟨i, h1, h2, h3, h4, rfl⟩ | ⟨h1, rfl⟩ <;> rcases h' with ⟨i', g1, g2, g3, g4, rfl⟩ | ⟨g1, rfl⟩
  · by_cases e : i < i'
    · exact absurd h3 (g4 i h1 e)
    · by_cases e' : i' < i
      · exact absurd g3 (h4 i' g1 e')
      · rw [show i = i' by omega]
  · exact absurd h3 (g1 i h1 h2)
  · exact absurd g3 (h1 i' g1 g2)
  · rfl

set_option maxHeartbeats 1000000 in
/-- 'edge' at an empty or turned range. -/
theorem edge_empty (B b0 o0 n0 c0 k : Nat) (b lo hi : Int) (w : World) (h0 : n0 ≤ maxLen) (hk : k + 1 < n0) (hk2 : k < 2147483647)
    (f4 : w.cell? ⟨B, 259, none⟩ = some (.slice (some ⟨b0, o0, none⟩) n0 c0))
    (hlo : w.cell? ⟨b0, o0 + k, none⟩ = some (.int .i32 lo)) (hhi : w.cell? ⟨b0, o0 + (k + 1), none⟩ = some (.int .i32 hi)) (h : hi ≤ lo) :
    Calls Try.prog 23 #[.pointer (some ⟨B, 0, none⟩), .int .i32 k, .int .u8 b] w fun e w' => e = .returned (.int .i32 (-1)) ∧ w' = w := by
  unfold maxLen at h0
  go_enter Try.func23, Try.ntmps23
  go_wp2
  go_loop [7] (fun i => i = .int .i32 lo) (fun i => 0)
  case atStart => rfl
  case round =>
    subst hrel
    go_wp2
    go_ret
    exact ⟨rfl, rfl⟩

/-- It answers some i32 that meets R. -/
def RetI (R : Int → Prop) (e : Ending) : Prop := ∃ r, e = .returned (.int .i32 r) ∧ R r

theorem RetI.mk {R : Int → Prop} (r : Int) (h : R r) : RetI R (.returned (.int .i32 r)) := ⟨r, rfl, h⟩

theorem res_hit {y t : Nat → Int} {b : Int} {l h j : Nat} (hb : ∀ i : Nat, l ≤ i → i < j → y i < b) (h1 : l ≤ j) (h2 : j < h) (e : (y j == b) = true) : EdgeRes y t b l h (t j) :=
  .inl ⟨j, by omega, by omega, by simpa using e, fun i a c => by have := hb i (by omega) c; omega, rfl⟩

theorem sorted_le {y : Nat → Int} {l h : Nat} (hs : ∀ i : Nat, l ≤ i → i + 1 < h → y i ≤ y (i + 1)) (i d : Nat) (h1 : l ≤ i) (h2 : i + d < h) : y i ≤ y (i + d) := by
  induction d with
  | zero => exact Int.le_refl _
  | succ d ih => exact Int.le_trans (ih (by omega)) (hs (i + d) (by omega) (by omega))

theorem res_over {y t : Nat → Int} {b : Int} {l h j : Nat} (hs : ∀ i : Nat, l ≤ i → i + 1 < h → y i ≤ y (i + 1)) (hb : ∀ i : Nat, l ≤ i → i < j → y i < b) (h1 : l ≤ j) (h2 : j < h) (e : b < y j) : EdgeRes y t b l h (-1) := by
  refine .inr ⟨fun i a c => ?_, rfl⟩
  by_cases g : i < j
  · have := hb i (by omega) g; omega
  · have := sorted_le hs j (i - j) h1 (by omega)
    rw [show j + (i - j) = i by omega] at this
    omega

theorem res_none {y t : Nat → Int} {b : Int} {l h j : Nat} (hb : ∀ i : Nat, l ≤ i → i < j → y i < b) (h2 : h ≤ j) : EdgeRes y t b l h (-1) :=
  .inr ⟨fun i a c => by have := hb i (by omega) (by omega); omega, rfl⟩

set_option maxHeartbeats 1000000 in
/-- 'edge' at a range within the rows, its bytes in order. -/
theorem edge_in (B b0 o0 n0 c0 b1 o1 n1 c1 b2 o2 n2 c2 k l h : Nat) (b : Int) (y t : Nat → Int) (w : World) (h0 : n0 ≤ maxLen) (h1 : n1 ≤ maxLen) (h2 : n2 ≤ maxLen) (hk : k + 1 < n0) (hk2 : k < 2147483647)
    (f4 : w.cell? ⟨B, 259, none⟩ = some (.slice (some ⟨b0, o0, none⟩) n0 c0)) (f5 : w.cell? ⟨B, 260, none⟩ = some (.slice (some ⟨b1, o1, none⟩) n1 c1)) (f6 : w.cell? ⟨B, 261, none⟩ = some (.slice (some ⟨b2, o2, none⟩) n2 c2))
    (hlo : w.cell? ⟨b0, o0 + k, none⟩ = some (.int .i32 l)) (hhi : w.cell? ⟨b0, o0 + (k + 1), none⟩ = some (.int .i32 h)) (bh : h ≤ 2147483647) (hlt : l < h) (g1 : h ≤ n1) (g2 : h ≤ n2)
    (hy : ∀ i, i < n1 → w.cell? ⟨b1, o1 + i, none⟩ = some (.int .u8 (y i))) (ht : ∀ i, i < n2 → w.cell? ⟨b2, o2 + i, none⟩ = some (.int .i32 (t i)))
    (hs : ∀ i : Nat, l ≤ i → i + 1 < h → y i ≤ y (i + 1)) :
    Calls Try.prog 23 #[.pointer (some ⟨B, 0, none⟩), .int .i32 k, .int .u8 b] w fun e w' => RetI (EdgeRes y t b l h) e ∧ w' = w := by
  unfold maxLen at h0 h1 h2
  have HS : Hid (∀ i : Nat, l ≤ i → i + 1 < h → y i ≤ y (i + 1)) := hs
  clear hs
  go_enter Try.func23, Try.ntmps23
  go_wp2
  go_loop [7] (fun i => ∃ j : Nat, l ≤ j ∧ j ≤ h ∧ i = .int .i32 j ∧ Hid (∀ i : Nat, l ≤ i → i < j → y i < b)) (fun i => h - (intOf i).toNat)
  case atStart => exact ⟨l, Nat.le_refl _, by omega, rfl, fun i a b => by omega⟩
  case round =>
    obtain ⟨j, hj1, hj2, rfl, HB⟩ := hrel
    by_cases hl : j < h
    · have c1 := hy j (by omega)
      have c2 := ht j (by omega)
      clear hy ht
      go_wp2
      · go_ret
        exact ⟨RetI.mk _ (res_hit HB.out hj1 hl (by assumption)), rfl⟩
      · go_ret
        exact ⟨RetI.mk _ (res_over HS.out HB.out hj1 hl (by assumption)), rfl⟩
      · have e1 : (y j == b) = false := by assumption
        have e2 : y j ≤ b := by assumption
        go_round
        case rel =>
          refine ⟨j + 1, by omega, by omega, by go_num, fun i a c => ?_⟩
          by_cases e : i = j
          · subst e; simp at e1; omega
          · exact HB.out i a (by omega)
        case measure => simp [intOf]; omega
    · clear hy ht
      go_wp2
      go_ret
      exact ⟨RetI.mk _ (res_none HB.out (by omega)), rfl⟩

/-! ### 'ZZEdge': a Matcher in a new block -/
theorem built_some (a0 a1 a2 : Option Addr) (n0 c0 n1 c1 n2 c2 : Nat) : (Try.prog.built 51 [(4, .slice a0 n0 c0), (5, .slice a1 n1 c1), (6, .slice a2 n2 c2)]).isSome = true := by kernel_rfl
theorem built_4 (a0 a1 a2 : Option Addr) (n0 c0 n1 c1 n2 c2 : Nat) : (Try.prog.built 51 [(4, .slice a0 n0 c0), (5, .slice a1 n1 c1), (6, .slice a2 n2 c2)]).bind (·[259]?) = some (.slice a0 n0 c0) := by kernel_rfl
theorem built_5 (a0 a1 a2 : Option Addr) (n0 c0 n1 c1 n2 c2 : Nat) : (Try.prog.built 51 [(4, .slice a0 n0 c0), (5, .slice a1 n1 c1), (6, .slice a2 n2 c2)]).bind (·[260]?) = some (.slice a1 n1 c1) := by kernel_rfl
theorem built_6 (a0 a1 a2 : Option Addr) (n0 c0 n1 c1 n2 c2 : Nat) : (Try.prog.built 51 [(4, .slice a0 n0 c0), (5, .slice a1 n1 c1), (6, .slice a2 n2 c2)]).bind (·[261]?) = some (.slice a2 n2 c2) := by kernel_rfl

/-- The cells of the new Matcher. -/
theorem mat_ex (a0 a1 a2 : Option Addr) (n0 c0 n1 c1 n2 c2 : Nat) :
    ∃ C : Array Value, Hid (Try.prog.built 51 [(4, .slice a0 n0 c0), (5, .slice a1 n1 c1), (6, .slice a2 n2 c2)] = some C) ∧
      C[259]? = some (.slice a0 n0 c0) ∧ C[260]? = some (.slice a1 n1 c1) ∧ C[261]? = some (.slice a2 n2 c2) := by
  obtain ⟨C, hC⟩ := Option.isSome_iff_exists.1 (built_some a0 a1 a2 n0 c0 n1 c1 n2 c2)
  have h4 := built_4 a0 a1 a2 n0 c0 n1 c1 n2 c2
  have h5 := built_5 a0 a1 a2 n0 c0 n1 c1 n2 c2
  have h6 := built_6 a0 a1 a2 n0 c0 n1 c1 n2 c2
  rw [hC] at h4 h5 h6
  exact ⟨C, hC, h4, h5, h6⟩

/-- A struct literal of three fields, as a law for the walk. -/
theorem wpList_build3 {P : Program} {w : World} {ops : Array Oper} {rest : List Oper} {o : Oper} {a : Act} {Q : Exit → Act → World → Prop} (hgd : o.guard = none) (t : TypeId) (i1 i2 i3 : Nat) (x1 x2 x3 : Operand) (ho : o.op = .build t #[(i1, x1), (i2, x2), (i3, x3)])
    (v1 v2 v3 : Value) (h1 : a.eval x1 = v1) (h2 : a.eval x2 = v2) (h3 : a.eval x3 = v3) (C : Array Value) (hC : P.built t [(i1, v1), (i2, v2), (i3, v3)] = some C)
    (h : wpList P ops Q rest (a.put o.dst (.agg C)) w) : wpList P ops Q (o :: rest) a w := by
  subst h1 h2 h3
  refine wpList_plain hgd fun K hK => ?_
  refine wp_build t _ ho (by simp only [List.map_toArray, List.map_cons, List.map_nil]; rw [hC]; rfl) ?_
  simp only [List.map_toArray, List.map_cons, List.map_nil]
  rw [hC]
  exact hK _ _ h

theorem new_cell (w : World) (C : Array Value) (t : TypeId) {i : Nat} {v : Value} (h : C[i]? = some v) : (w.alloc (.cells C t)).cell? ⟨w.heap.size, i, none⟩ = some v := by
  rw [World.cell?_alloc_at C t w.heap.size i rfl]; exact h

theorem old_cell (w : World) (o : Obj) {b i : Nat} {v : Value} (hb : b < w.heap.size) (h : w.cell? ⟨b, i, none⟩ = some v) : (w.alloc o).cell? ⟨b, i, none⟩ = some v := by
  rw [← h]; exact ((Below.refl w.heap.size w).alloc (Nat.le_refl _) o).cell (p := ⟨b, i, none⟩) hb

set_option maxHeartbeats 1000000 in
theorem zzedge_empty (a1 a2 : Option Addr) (b0 o0 n0 c0 n1 c1 n2 c2 k : Nat) (b lo hi : Int) (w : World) (h0 : n0 ≤ maxLen) (hk : k + 1 < n0) (hk2 : k < 2147483647) (hb0 : b0 < w.heap.size)
    (hlo : w.cell? ⟨b0, o0 + k, none⟩ = some (.int .i32 lo)) (hhi : w.cell? ⟨b0, o0 + (k + 1), none⟩ = some (.int .i32 hi)) (h : hi ≤ lo) :
    Calls Try.prog 9 #[.slice (some ⟨b0, o0, none⟩) n0 c0, .slice a1 n1 c1, .slice a2 n2 c2, .int .i32 k, .int .u8 b] w fun e w' => e = .returned (.int .i32 (-1)) ∧ Below w.heap.size w w' := by
  obtain ⟨C, hb, m4, m5, m6⟩ := mat_ex (some ⟨b0, o0, none⟩) a1 a2 n0 c0 n1 c1 n2 c2
  go_enter Try.func9, Try.ntmps9
  go_wp2_with (first | (go_at_call 23; refine (edge_empty w.heap.size b0 o0 n0 c0 k b lo hi (w.alloc (.cells C 51)) h0 hk hk2 (new_cell w C 51 m4) (old_cell w _ hb0 hlo) (old_cell w _ hb0 hhi) h).mono ?_; rintro e w' ⟨rfl, rfl⟩) | ((with_reducible refine wpList_build3 ?_ 51 4 5 6 (.tmp 12) (.tmp 13) (.tmp 14) ?_ (.slice (some ⟨b0, o0, none⟩) n0 c0) (.slice a1 n1 c1) (.slice a2 n2 c2) ?_ ?_ ?_ C ?_ ?_); rfl; rfl; rfl; rfl; rfl; exact hb))
  go_ret
  exact ⟨rfl, (Below.refl _ _).alloc (Nat.le_refl _) _⟩

set_option maxHeartbeats 1000000 in
theorem zzedge_in (b0 o0 n0 c0 b1 o1 n1 c1 b2 o2 n2 c2 k l h : Nat) (b : Int) (y t : Nat → Int) (w : World) (h0 : n0 ≤ maxLen) (h1 : n1 ≤ maxLen) (h2 : n2 ≤ maxLen) (hk : k + 1 < n0) (hk2 : k < 2147483647)
    (hb0 : b0 < w.heap.size) (hb1 : b1 < w.heap.size) (hb2 : b2 < w.heap.size)
    (hlo : w.cell? ⟨b0, o0 + k, none⟩ = some (.int .i32 l)) (hhi : w.cell? ⟨b0, o0 + (k + 1), none⟩ = some (.int .i32 h)) (bh : h ≤ 2147483647) (hlt : l < h) (g1 : h ≤ n1) (g2 : h ≤ n2)
    (hy : ∀ i, i < n1 → w.cell? ⟨b1, o1 + i, none⟩ = some (.int .u8 (y i))) (ht : ∀ i, i < n2 → w.cell? ⟨b2, o2 + i, none⟩ = some (.int .i32 (t i)))
    (hs : Hid (∀ i : Nat, l ≤ i → i + 1 < h → y i ≤ y (i + 1))) :
    Calls Try.prog 9 #[.slice (some ⟨b0, o0, none⟩) n0 c0, .slice (some ⟨b1, o1, none⟩) n1 c1, .slice (some ⟨b2, o2, none⟩) n2 c2, .int .i32 k, .int .u8 b] w fun e w' => RetI (EdgeRes y t b l h) e ∧ Below w.heap.size w w' := by
  obtain ⟨C, hb, m4, m5, m6⟩ := mat_ex (some ⟨b0, o0, none⟩) (some ⟨b1, o1, none⟩) (some ⟨b2, o2, none⟩) n0 c0 n1 c1 n2 c2
  go_enter Try.func9, Try.ntmps9
  go_wp2_with (first | (go_at_call 23; refine (edge_in w.heap.size b0 o0 n0 c0 b1 o1 n1 c1 b2 o2 n2 c2 k l h b y t (w.alloc (.cells C 51)) h0 h1 h2 hk hk2 (new_cell w C 51 m4) (new_cell w C 51 m5) (new_cell w C 51 m6) (old_cell w _ hb0 hlo) (old_cell w _ hb0 hhi) bh hlt g1 g2 (fun i hi => old_cell w _ hb1 (hy i hi)) (fun i hi => old_cell w _ hb2 (ht i hi)) hs.out).mono ?_; rintro e w' ⟨⟨r, rfl, hr⟩, rfl⟩) | ((with_reducible refine wpList_build3 ?_ 51 4 5 6 (.tmp 12) (.tmp 13) (.tmp 14) ?_ (.slice (some ⟨b0, o0, none⟩) n0 c0) (.slice (some ⟨b1, o1, none⟩) n1 c1) (.slice (some ⟨b2, o2, none⟩) n2 c2) ?_ ?_ ?_ C ?_ ?_); rfl; rfl; rfl; rfl; rfl; exact hb))
  go_ret
  exact ⟨RetI.mk _ (by assumption), (Below.refl _ _).alloc (Nat.le_refl _) _⟩

end Go.Proofs.Qxb6601898a.Ed
