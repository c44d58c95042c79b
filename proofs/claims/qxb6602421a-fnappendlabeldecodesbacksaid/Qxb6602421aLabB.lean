import Derived.Test.Qxb6602421aLabA
namespace Go.Proofs.Qxb6602421a.Lb
open Go.ChangeShapes Go.WideShapes Go.ChangeAt Go.RowKit
set_option linter.unusedVariables false

/-- The slice v reads as the bytes xs. -/
def Rd (w : World) (v : Value) (xs : List Int) : Prop :=
  ∃ ao c, v = .slice ao xs.length c ∧ xs.length ≤ c ∧ c ≤ maxLen ∧ (0 < xs.length → ∃ b o, ao = some ⟨b, o, none⟩ ∧ b < w.heap.size ∧ ∀ i, i < xs.length → w.cell? ⟨b, o + i, none⟩ = some (.int .u8 (xs.getD i 0)))

theorem Own.rd {w : World} {base : Nat} {v : Value} {xs : List Int} (h : Own w base v xs) : Rd w v xs := by
  rcases h.2 with ⟨rfl, hx0⟩ | ⟨g, cap, cur, rfl, hbg, hg, hnc, hcm, hcs, htake⟩
  · exact ⟨none, 0, by rw [hx0], by omega, by unfold maxLen; omega, fun h => by omega⟩
  · refine ⟨some ⟨g, 0, none⟩, cap, rfl, hnc, hcm, fun _ => ⟨g, 0, rfl, (h.lt g rfl).2, fun i hi => ?_⟩⟩
    rw [Nat.zero_add, h.cellAt i (by omega), B_at hi]

/-- A row of one's own, as 'Own'. -/
theorem own_of_row {w : World} {g base n : Nat} {f : Nat → Value} {xs : List Int} (h : w.rowIs g 5 n f) (hn : n = xs.length) (hf : ∀ i, i < n → f i = .int .u8 (xs.getD i 0)) (hb : base ≤ g) (hm : n ≤ maxLen) : Own w base (.slice (some ⟨g, 0, none⟩) n n) xs := by
  subst hn
  obtain ⟨c, hc, hs, hcell⟩ := h
  refine ⟨by rw [B_len, Nat.mul_one], .inr ⟨g, xs.length, c, rfl, hb, hc, Nat.le_refl _, hm, by rw [hs, Nat.mul_one], ?_⟩⟩
  rw [Nat.mul_one]
  apply List.ext_getElem?
  intro j
  by_cases hj : j < xs.length
  · rw [List.getElem?_take, if_pos hj, B_at hj, Array.getElem?_toList, hcell j hj, hf j hj]
  · rw [List.getElem?_eq_none (by simp [hs]; omega), List.getElem?_eq_none (by rw [B_len]; omega)]

/-- 'make([]T, n)' -/
theorem wpList_make_any {P : Program} {w : World} {ops : Array Oper} {rest : List Oper} {o : Oper} {a : Act} {Q : Exit → Act → World → Prop}
    (hg : o.guard = none) (l c : Operand) (t : TypeId) (hop : o.op = Op.makeSlice t l c)
    (e : TypeId) (z : Value) (bytes : Nat) (ht : P.underlying t = some (.slice e)) (hinfo : (P.info? e).map (fun i => (i.zero, i.size, i.bytes)) = some (some z, 1, bytes)) (hz1 : z.cells = #[z])
    (kl kc : IntKind) (n : Nat) (hl : a.eval l = .int kl (n : Int)) (hc : a.eval c = .int kc (n : Int)) (hbytes : bytes * n ≤ 281474976710656) (h63 : n ≤ 9223372036854775807)
    (hK : ∀ w' g, w.heap.size ≤ g → Hid (w'.rowIs g e n (fun _ => z)) → Hid (Below w.heap.size w w') → wpList P ops Q rest (a.put o.dst (.slice (some ⟨g, 0, none⟩) n n)) w') :
    wpList P ops Q (o :: rest) a w := by
  refine wpList_plain hg fun K hK' => ?_
  have hrun := run_make_row' (P := P) t e z bytes ht hinfo hz1 kl kc n hbytes h63 w
  unfold Oper.wp
  simp [execOp, hop, hl, hc, hrun, Result.andThen]
  exact hK' _ _ (hK _ _ (Nat.le_refl _) (World.rowIs_made w z n e) ((Below.refl _ _).alloc (Nat.le_refl _) _))

/-- A slice that the call owns, in a new block or nil. -/
def RetOwn (w w' : World) (xs : List Int) (e : Ending) : Prop := ∃ v, e = .returned v ∧ Own w' w.heap.size v xs

set_option maxHeartbeats 1000000 in
theorem clone_any (v : Value) (xs : List Int) (w : World) (h : Rd w v xs) (hn : xs.length ≤ 1048576) :
    Calls Try.prog 7 #[v] w fun e w' => RetOwn w w' xs e ∧ Below w.heap.size w w' := by
  obtain ⟨ao, c, rfl, hlc, hcm, hcell⟩ := h
  cases ao with
  | none =>
    have hx0 : xs = [] := by
      apply List.eq_nil_of_length_eq_zero
      by_cases h0 : 0 < xs.length
      · obtain ⟨b, o, e, _⟩ := hcell h0
        cases e
      · omega
    subst hx0
    clear hcell
    have qn := fun a l c w => Lib.run_eql_slice_nil (P := Try.prog) w 22 5 a l c 0 0 Try.underlying22
    go_enter Try.func7, Try.ntmps7
    go_wp2
    go_ret
    exact ⟨⟨_, rfl, World.ownsRow_nil _ _ _ _⟩, Below.refl _ _⟩
  | some x =>
    obtain ⟨n, hnn⟩ : ∃ n, n = xs.length := ⟨_, rfl⟩
    rw [← hnn] at hlc hn hcell ⊢
    have HN : Hid (n = xs.length) := hnn
    have hn2 : (n : Int) ≤ 1048576 := by omega
    clear hnn
    by_cases h0 : 0 < n
    · obtain ⟨b, o, e, hb, hc⟩ := hcell h0
      obtain rfl := Option.some.inj e
      have HC : Hid (∀ i, i < n → w.cell? ⟨b, o + i, none⟩ = some (.int .u8 (xs.getD i 0))) := hc
      clear hcell hc e
      have qn := fun a l c w => Lib.run_eql_slice_nil (P := Try.prog) w 22 5 a l c 0 0 Try.underlying22
      go_enter Try.func7, Try.ntmps7
      go_wp2_with ((with_reducible refine wpList_make_any ?_ (.tmp 8) (.tmp 8) 22 ?_ 5 (.int .u8 0) 1 Try.underlying22 info5 ?_ .i64 .i64 n ?_ ?_ ?_ ?_ ?_); rfl; rfl; rfl; rfl; rfl; omega; omega; intro w1 g hg hr hbl)
      go_loopw [4] (fun i wr => ∃ k : Nat, k ≤ n ∧ i = .int .i64 k ∧ Hid (wr.rowIs g 5 n (fun j => .int .u8 (if j < k then xs.getD j 0 else 0))) ∧ Hid (Below w.heap.size w wr)) (fun i _ => n - (intOf i).toNat)
      case atStart => exact ⟨0, by omega, rfl, hr.out.congr (fun j hj => by simp), hbl⟩
      case round =>
        obtain ⟨k, hk, rfl, HR, HB⟩ := hrel
        by_cases hlt : k < n
        · have c1 : wr.cell? ⟨b, o + k, none⟩ = some (.int .u8 (xs.getD k 0)) := (HB.out.cell (p := ⟨b, o + k, none⟩) hb).trans (HC.out k hlt)
          obtain ⟨v0, c2⟩ : ∃ v0, wr.cell? ⟨g, k, none⟩ = some v0 := ⟨_, HR.out.cell hlt⟩
          have f2 := HR.out.frozen k
          go_wp2
          go_roundw
          case rel =>
            refine ⟨k + 1, by omega, by go_num, (HR.out.set k _).congr (fun i hi => ?_), HB.out.setCell hg _⟩
            by_cases e : i = k
            · subst e; simp
            · rw [if_neg e]
              by_cases e2 : i < k
              · rw [if_pos e2, if_pos (by omega)]
              · rw [if_neg e2, if_neg (by omega)]
          case measure => simp [intOf]; omega
        · go_wp2
          go_ret
          exact ⟨⟨_, rfl, own_of_row HR.out HN.out (fun i hi => by rw [if_pos (by omega)]) hg (by unfold maxLen; omega)⟩, HB.out⟩
    · have h00 : n = 0 := by omega
      subst h00
      clear hcell
      have qn := fun a l c w => Lib.run_eql_slice_nil (P := Try.prog) w 22 5 a l c 0 0 Try.underlying22
      go_enter Try.func7, Try.ntmps7
      go_wp2_with ((with_reducible refine wpList_make_any ?_ (.tmp 8) (.tmp 8) 22 ?_ 5 (.int .u8 0) 1 Try.underlying22 info5 ?_ .i64 .i64 0 ?_ ?_ ?_ ?_ ?_); rfl; rfl; rfl; rfl; rfl; omega; omega; intro w1 g hg hr hbl)
      go_loop [4] (fun i => i = .int .i64 0) (fun i => 0)
      case atStart => rfl
      case round =>
        subst hrel
        go_wp2
        go_ret
        exact ⟨⟨_, rfl, own_of_row hr.out HN.out (fun i hi => by omega) hg (by unfold maxLen; omega)⟩, hbl.out⟩

/-- It answers some bool. -/
def RetB (R : Bool → Prop) (e : Ending) : Prop := ∃ r, e = .returned (.bool r) ∧ R r
theorem RetB.mk {R : Bool → Prop} (r : Bool) (h : R r) : RetB R (.returned (.bool r)) := ⟨r, rfl, h⟩

theorem zz6 (a0 a1 : Option Addr) (n0 c0 n1 c1 : Nat) (w : World) (h0 : n0 ≤ maxLen) (h1 : n1 ≤ maxLen) :
    Calls Try.prog 6 #[.slice a0 n0 c0, .slice a1 n1 c1] w fun e w' => RetB (fun _ => True) e ∧ w' = w := by
  unfold maxLen at h0 h1
  go_enter Try.func6, Try.ntmps6
  go_wp2
  all_goals (go_ret; exact ⟨RetB.mk _ trivial, rfl⟩)

theorem zz11 (a0 a1 : Option Addr) (n0 c0 n1 c1 : Nat) (w : World) (h0 : n0 ≤ maxLen) (h1 : n1 ≤ maxLen) :
    Calls Try.prog 11 #[.slice a0 n0 c0, .slice a1 n1 c1] w fun e w' => RetB (fun _ => True) e ∧ w' = w := by
  unfold maxLen at h0 h1
  go_enter Try.func11, Try.ntmps11
  go_wp2
  all_goals (go_ret; exact ⟨RetB.mk _ trivial, rfl⟩)

theorem below_drewN {B : Nat} {a w : World} (h : Below B a w) (n : Nat) : Below B a (w.drewN n) := h.trans ⟨rfl, rfl, rfl, Nat.le_refl _, fun _ _ => rfl⟩

set_option maxHeartbeats 1000000 in
/-- Two slices that read as the same bytes are equal. -/
theorem equal_any (u v : Value) (xs : List Int) (w : World) (hu : Rd w u xs) (hv : Rd w v xs) :
    Calls Try.prog 10 #[u, v] w fun e w' => e = .returned (.bool true) ∧ ∃ n, w' = w.drewN n := by
  obtain ⟨a0, c0, rfl, hlc0, hcm0, hcell0⟩ := hu
  obtain ⟨a1, c1, rfl, hlc1, hcm1, hcell1⟩ := hv
  obtain ⟨n, hnn⟩ : ∃ n, n = xs.length := ⟨_, rfl⟩
  rw [← hnn] at hlc0 hlc1 hcell0 hcell1 ⊢
  have hm : n ≤ maxLen := by omega
  unfold maxLen at hm
  clear hnn hcm0 hcm1
  have hne : ((n : Int) != n) = false := by simp
  by_cases h0 : 0 < n
  · obtain ⟨b0, o0, rfl, hb0, hc0⟩ := hcell0 h0
    obtain ⟨b1, o1, rfl, hb1, hc1⟩ := hcell1 h0
    have H0 : Hid (∀ i, i < n → w.cell? ⟨b0, o0 + i, none⟩ = some (.int .u8 (xs.getD i 0))) := hc0
    have H1 : Hid (∀ i, i < n → w.cell? ⟨b1, o1 + i, none⟩ = some (.int .u8 (xs.getD i 0))) := hc1
    clear hcell0 hcell1 hc0 hc1
    go_enter Try.func10, Try.ntmps10
    go_wp2
    go_loopw [5] (fun i wr => ∃ k : Nat, k ≤ n ∧ i = .int .i64 k ∧ ∃ m, wr = w.drewN m) (fun i _ => n - (intOf i).toNat)
    case atStart => exact ⟨0, by omega, rfl, 0, rfl⟩
    case round =>
      obtain ⟨k, hk, rfl, m, rfl⟩ := hrel
      by_cases hlt : k < n
      · obtain ⟨z, hz⟩ : ∃ z, z = xs.getD k 0 := ⟨_, rfl⟩
        have e0 := H0.out k hlt
        have e1 := H1.out k hlt
        rw [← hz] at e0 e1
        have hzz : (z != z) = false := by simp
        clear hz
        go_wp2
        go_quiet (fail)
        go_wp2
        go_roundw
        case rel => exact ⟨k + 1, by omega, by go_num, _, rfl⟩
        case measure => simp [intOf]; omega
      · go_wp2
        go_ret
        exact ⟨rfl, _, rfl⟩
  · have h00 : n = 0 := by omega
    subst h00
    clear hcell0 hcell1
    go_enter Try.func10, Try.ntmps10
    go_wp2
    go_loop [5] (fun i => i = .int .i64 0) (fun i => 0)
    case atStart => rfl
    case round =>
      subst hrel
      go_wp2
      go_ret
      exact ⟨rfl, 0, rfl⟩

end Go.Proofs.Qxb6602421a.Lb
