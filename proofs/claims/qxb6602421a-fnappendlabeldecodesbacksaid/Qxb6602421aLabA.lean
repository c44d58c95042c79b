import Derived.Test.Qxb6602421aRows
import Derived.WalkKit
import Derived.ProofKit
import Derived.OpenShut
import Derived.ShutString
import Derived.ChangeOld
import Derived.Below
import Derived.WalkSpells
import Derived.WalkLawsBesides
import Derived.Deep.QuietTactic
import Derived.BigQuiet
import Derived.Deep.OwnRows
import Derived.ArgAppend
namespace Go.Proofs.Qxb6602421a.Lb
open Go.ChangeShapes Go.WideShapes Go.ChangeAt Go.RowKit
set_option linter.unusedVariables false

/-! ### Plain lists: the presentation form -/

/-- The escape of one byte. -/
def escB (c : Int) : List Int := if c = 46 ∨ c = 92 then [92, c] else if 33 ≤ c ∧ c ≤ 126 then [c] else [92, 48 + c / 100, 48 + c / 10 % 10, 48 + c % 10]
def esc (xs : List Int) : List Int := xs.flatMap escB
/-- A byte that stands as it is. -/
def Bare (c : Int) : Prop := 33 ≤ c ∧ c ≤ 126 ∧ c ≠ 46 ∧ c ≠ 92

theorem escB_bare {c : Int} (h : Bare c) : escB c = [c] := by
  obtain ⟨h1, h2, h3, h4⟩ := h
  unfold escB
  rw [if_neg (by omega), if_pos ⟨h1, h2⟩]

theorem escB_two {c : Int} (h : c = 46 ∨ c = 92) : escB c = [92, c] := by unfold escB; rw [if_pos h]

theorem escB_four {c : Int} (h1 : ¬ (c = 46 ∨ c = 92)) (h2 : ¬ (33 ≤ c ∧ c ≤ 126)) : escB c = [92, 48 + c / 100, 48 + c / 10 % 10, 48 + c % 10] := by
  unfold escB; rw [if_neg h1, if_neg h2]

theorem escB_len (c : Int) : 1 ≤ (escB c).length ∧ (escB c).length ≤ 4 := by
  unfold escB; split <;> (try split) <;> simp

theorem esc_nil : esc [] = [] := rfl
theorem esc_append (a b : List Int) : esc (a ++ b) = esc a ++ esc b := by simp [esc]
theorem esc_one (c : Int) : esc [c] = escB c := by simp [esc]

theorem esc_len (xs : List Int) : xs.length ≤ (esc xs).length ∧ (esc xs).length ≤ 4 * xs.length := by
  induction xs with
  | nil => simp [esc]
  | cons c xs ih =>
    have := escB_len c
    simp only [esc, List.flatMap_cons, List.length_append, List.length_cons] at ih ⊢
    omega

theorem esc_bare (xs : List Int) (h : ∀ c ∈ xs, Bare c) : esc xs = xs := by
  induction xs with
  | nil => rfl
  | cons c xs ih =>
    have h1 := escB_bare (h c (by simp))
    have h2 := ih (fun d hd => h d (by simp [hd]))
    simp only [esc, List.flatMap_cons] at h2 ⊢
    rw [h1, h2]; rfl

/-! ### Bytes in memory -/

/-- Bytes as cells. -/
def B (xs : List Int) : List Value := xs.map (Value.int .u8)

theorem B_len (xs : List Int) : (B xs).length = xs.length := by simp [B]
theorem B_append (a b : List Int) : B (a ++ b) = B a ++ B b := by simp [B]
theorem B_get {xs : List Int} {j : Nat} {u : Value} (h : (B xs)[j]? = some u) : j < xs.length ∧ u = .int .u8 (xs.getD j 0) := by
  obtain ⟨hlt, rfl⟩ := List.getElem?_eq_some_iff.1 h
  have hl : j < xs.length := by simpa [B] using hlt
  exact ⟨hl, by simp [B, hl]⟩
theorem B_at {xs : List Int} {j : Nat} (h : j < xs.length) : (B xs)[j]? = some (.int .u8 (xs.getD j 0)) := by simp [B, h]
theorem B_one (xs : List Int) : ∀ u ∈ B xs, u.oneCell' = true := ints_oneCell .u8 xs

/-- The slice v owns the bytes xs. -/
def Own (w : World) (base : Nat) (v : Value) (xs : List Int) : Prop := w.ownsRow base 5 1 v xs.length (B xs)

/-- From w to w', v became v': nothing else that was there has turned. -/
structure Step (w w' : World) (v v' : Value) : Prop where
  grown : w.grownBy w' v.ownBlock
  block : ∀ k, v'.ownBlock = some k → v.ownBlock = some k ∨ w.heap.size ≤ k

theorem Step.refl (w : World) (v : Value) : Step w w v v := ⟨⟨rfl, rfl, rfl, Nat.le_refl _, fun _ _ _ => rfl⟩, fun k h => .inl h⟩

theorem Step.trans {w w1 w2 : World} {v v1 v2 : Value} (h : Step w w1 v v1) (k : Step w1 w2 v1 v2) : Step w w2 v v2 := by
  refine ⟨⟨k.grown.os.trans h.grown.os, k.grown.tape.trans h.grown.tape, k.grown.output.trans h.grown.output, Nat.le_trans h.grown.size k.grown.size, fun i hi hne => ?_⟩, fun i hi => ?_⟩
  · rw [k.grown.block i (Nat.lt_of_lt_of_le hi h.grown.size) ?_, h.grown.block i hi hne]
    intro e
    rcases h.block i e.symm with e' | e'
    · exact hne e'.symm
    · omega
  · rcases k.block i hi with e | e
    · exact h.block i e
    · exact .inr (Nat.le_trans h.grown.size e)

theorem Step.alloc (w : World) (v : Value) (o : Obj) : Step w (w.alloc o) v v := ⟨World.grownBy_alloc w o _, fun k h => .inl h⟩
theorem Step.drew (w : World) (v : Value) : Step w w.drew v v := ⟨⟨rfl, rfl, rfl, Nat.le_refl _, fun _ _ _ => rfl⟩, fun k h => .inl h⟩

theorem Step.below {w w' : World} {v v' : Value} {B : Nat} (h : Step w w' v v') (hB : B ≤ w.heap.size) (hv : ∀ k, v.ownBlock = some k → B ≤ k) : Below B w w' :=
  ⟨h.grown.os, h.grown.tape, h.grown.output, h.grown.size, fun k hk => h.grown.block k (by omega) (fun e => by have := hv k e.symm; omega)⟩

/-- What v' owns lies where v lay, or is new. -/
theorem Step.ge {w w' : World} {v v' : Value} {B : Nat} (h : Step w w' v v') (hB : B ≤ w.heap.size) (hv : ∀ k, v.ownBlock = some k → B ≤ k) : ∀ k, v'.ownBlock = some k → B ≤ k := by
  intro k hk
  rcases h.block k hk with e | e
  · exact hv k e
  · omega

theorem Step.kept {w w' : World} {v v' u : Value} {base : Nat} {xs : List Int} (h : Step w w' v v') (ho : Own w base u xs) (hne : u.ownBlock = none ∨ u.ownBlock ≠ v.ownBlock) : Own w' base u xs := World.ownsRow.kept ho h.grown hne

theorem Step.cell {w w' : World} {v v' : Value} (h : Step w w' v v') {a : Addr} {u : Value} (hc : w.cell? a = some u) (hne : some a.block ≠ v.ownBlock) : w'.cell? a = some u := h.grown.cell hc hne

theorem info5 : (Try.prog.info? 5).map (fun i => (i.zero, i.size, i.bytes)) = some (some (.int .u8 0), 1, 1) := by kernel_rfl

/-- 'append(v, src...)', v the call's own. -/
theorem run_append_mine (w : World) (base : Nat) (ty : TypeId) (v : Value) (xs : List Int) (hown : Own w base v xs) (ad : Addr) (c : Nat) (news : List Int) (hnews : ∀ j, j < news.length → w.cell? (ad.add j) = some (.int .u8 (news.getD j 0)))
    (hlen : xs.length + news.length ≤ 140737488355328) (hbase : base ≤ w.heap.size) :
    ∃ v' w', (Builtin.append_ #[22, 22] ty #[v, .slice (some ad) news.length c]).run Try.prog w = .ok v' w' ∧ Own w' base v' (xs ++ news) ∧ Step w w' v v' := by
  obtain ⟨i, hi, hz0, hz1, hz2⟩ := info_parts info5
  have hn : (B news).length = news.length * 1 := by rw [B_len, Nat.mul_one]
  have hc : ∀ j u, (B news)[j]? = some u → w.cell? (ad.add j) = some u := by
    intro j u hj
    obtain ⟨hlt, rfl⟩ := B_get hj
    exact hnews j hlt
  have e1 : (xs ++ news).length = xs.length + news.length := by simp
  rcases hown.2 with ⟨rfl, hx0⟩ | ⟨g, cap, cur, rfl, hbg, hg, hnc, hcm, hcs, htake⟩
  · have hx : xs = [] := List.eq_nil_of_length_eq_zero hx0
    subst hx
    obtain ⟨v', w', hr, h2, h3, h4⟩ := run_append_own (P := Try.prog) w w.heap.size 22 ty 5 i (.int .u8 0) 1 1 Try.underlying22 hi hz0 hz1 hz2 rfl (by decide) (.slice none 0 0) 0 [] (World.ownsRow_nil _ _ _ _) ad news.length c (B news) hn hc (B_one _) (by unfold maxLen; omega) (by omega) (Nat.le_refl _)
    refine ⟨v', w', hr, ?_, ⟨h3, fun k hk => .inr (h2.lt k hk).1⟩⟩
    simp only [List.nil_append, Nat.zero_add] at h2 ⊢
    refine ⟨h2.1, ?_⟩
    rcases h2.2 with h | ⟨g, cap, cur, e, hb, r⟩
    · exact .inl h
    · exact .inr ⟨g, cap, cur, e, Nat.le_trans hbase hb, r⟩
  · by_cases hroom : xs.length + news.length ≤ cap
    · obtain ⟨w', hr, h2, h3⟩ := run_append_fits (P := Try.prog) w base 22 ty 5 i 1 Try.underlying22 hi hz1 g xs.length cap (B xs) hown ad news.length c (B news) hn hc (B_one _) hroom
      refine ⟨_, w', hr, ?_, ⟨h3, fun k hk => .inl hk⟩⟩
      unfold Own
      rw [e1, B_append]
      exact h2
    · obtain ⟨v', w', hr, h2, h3⟩ := run_append_arg_grows (P := Try.prog) w 22 ty 5 i (.int .u8 0) 1 1 Try.underlying22 hi hz0 hz1 hz2 rfl (by decide) ⟨g, 0, none⟩ xs.length cap (B xs) (by rw [B_len, Nat.mul_one]) (hown.cells (g := g) rfl) ad news.length c (B news) hn hc (by omega) (by unfold maxLen; omega) (by omega)
      refine ⟨v', w', hr, ?_, ⟨⟨h3.os, h3.tape, h3.output, h3.size, fun k hk _ => h3.block k hk (by simp)⟩, fun k hk => .inr (h2.lt k hk).1⟩⟩
      unfold Own
      rw [e1, B_append]
      refine ⟨h2.1, ?_⟩
      rcases h2.2 with h | ⟨g, cap, cur, e, hb, r⟩
      · exact .inl h
      · exact .inr ⟨g, cap, cur, e, Nat.le_trans hbase hb, r⟩

theorem wpList_append_mine {w : World} {ops : Array Oper} {rest : List Oper} {o : Oper} {a : Act} {Q : Exit → Act → World → Prop} (hgd : o.guard = none) (s x : Operand)
    (ho : o.op = .call { callee := .builtin .append, args := #[s, x], argTypes := #[22, 22] })
    (base : Nat) (v : Value) (xs : List Int) (hs : a.eval s = v) (hown : Own w base v xs) (ad : Addr) (n c : Nat) (hx : a.eval x = .slice (some ad) n c) (news : List Int) (hn : n = news.length)
    (hnews : ∀ j, j < news.length → w.cell? (ad.add j) = some (.int .u8 (news.getD j 0))) (hlen : xs.length + news.length ≤ 140737488355328) (hbase : base ≤ w.heap.size)
    (h : ∀ v' w', Hid (Own w' base v' (xs ++ news)) → Hid (Step w w' v v') → wpList Try.prog ops Q rest (a.put o.dst v') w') : wpList Try.prog ops Q (o :: rest) a w := by
  subst hn
  refine wpList_plain hgd fun K hK => ?_
  obtain ⟨v', w', hr, h2, h3⟩ := run_append_mine w base o.type v xs hown ad c news hnews hlen hbase
  unfold Oper.wp
  simp [execOp, ho, resolve, invoke, builtin, hs, hx, hr, Result.andThen]
  exact hK _ _ (h v' w' h2 h3)

end Go.Proofs.Qxb6602421a.Lb
