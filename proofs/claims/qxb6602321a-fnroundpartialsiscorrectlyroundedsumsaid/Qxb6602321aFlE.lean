import Derived.Test.Qxb6602321aFlD
import Derived.Test.Qxb6602321aRows
import Derived.ProofKit
import Derived.OpenShut
import Derived.ChangeOld
import Derived.Below
import Derived.WalkSpells
import Derived.WalkLawsBesides
import Derived.Deep.QuietTactic
import Derived.BigQuiet
import Derived.Deep.OwnRows
namespace Go.Proofs.Qxb6602321a.Fl
open Go.ChangeShapes Go.WideShapes Go.ChangeAt Go.RowKit
set_option linter.unusedVariables false

theorem hide {p : Prop} (h : p) : Hid p := h

/-- What the walk takes of an operation on floats. -/
theorem run_add {x y r : Nat} (h : Ieee.double.add x y = some r) : ∀ w, (binOp .add 25 (.float .f64 x) (.float .f64 y)).run Try.prog w = .ok (.float .f64 r) w := fun w => run_float_arith w .add 25 .f64 x y r h
theorem run_sub {x y r : Nat} (h : Ieee.double.sub x y = some r) : ∀ w, (binOp .sub 25 (.float .f64 x) (.float .f64 y)).run Try.prog w = .ok (.float .f64 r) w := fun w => run_float_arith w .sub 25 .f64 x y r h
theorem run_mul {x y r : Nat} (h : Ieee.double.mul x y = some r) : ∀ w, (binOp .mul 25 (.float .f64 x) (.float .f64 y)).run Try.prog w = .ok (.float .f64 r) w := fun w => run_float_arith w .mul 25 .f64 x y r h
theorem run_div {x y r : Nat} (h : Ieee.double.div x y = some r) : ∀ w, (binOp .quo 25 (.float .f64 x) (.float .f64 y)).run Try.prog w = .ok (.float .f64 r) w := fun w => run_float_arith w .quo 25 .f64 x y r h

theorem fin_zero : Fin' 0 := by unfold Fin' rung; decide
theorem V_zero : V 0 = 0 := by unfold V; simp [sg, rung, mg]

theorem finite_yes (x : Nat) (w : World) (h : Fin' x) : Calls Try.prog 17 #[.float .f64 x] w fun e w' => e = .returned (.bool true) ∧ w' = w := by
  have o1 : FloatKind.f64.format.order x x = some .eq := by show Ieee.double.order x x = _; rw [order_eq h h]; simp
  have o2 := run_sub (x := x) (y := x) (r := 0) (by
    rw [sub_wd h h, Int.sub_self]
    simp [Wd, rg, word_eq])
  have o3 : FloatKind.f64.format.order 0 0 = some .eq := by decide
  clear h
  go_enter Try.func17, Try.ntmps17
  go_wp2_with fail
  go_ret
  exact ⟨rfl, rfl⟩

/-- An infinity or a NaN. -/
theorem read_nofin {x : Nat} (h : ¬ Fin' x) : (∃ s, Ieee.double.read x = .infinity s) ∨ ∃ s f, Ieee.double.read x = .nan s f := by
  unfold Ieee.Format.read
  rw [signW, infR, binade52]
  unfold Fin' rung at h
  simp only
  rw [if_neg (by omega), if_neg h]
  by_cases e : x % 2 ^ 63 = 2047 * 2 ^ 52
  · rw [if_pos e]; exact .inl ⟨_, rfl⟩
  · rw [if_neg e]; exact .inr ⟨_, _, rfl⟩

theorem run_sub_none {x y : Nat} (h : Ieee.double.sub x y = none) : ∀ w, (binOp .sub 25 (.float .f64 x) (.float .f64 y)).run Try.prog w = .ok (.float .f64 ((Question.nanBits .f64 x y).cut (w.tape w.drawn (.nanBits .f64 x y)))) w.drew := by
  intro w
  have h' : FloatKind.f64.format.sub x y = none := h
  simp [binOp, Op.floatArith, h', choose]
  rfl

theorem nan_cut (x y t : Nat) : ∀ z, Ieee.double.order ((Question.nanBits .f64 x y).cut t) z = none := by
  intro z
  have h1 : (Question.nanBits .f64 x y).cut t = (t % 2) * 2 ^ 63 + 0x7ff0000000000000 + 1 + (t / 2) % (2 ^ 52 - 1) := rfl
  have h2 : ∃ s f, Ieee.double.read ((Question.nanBits .f64 x y).cut t) = .nan s f := by
    rw [h1]
    unfold Ieee.Format.read
    rw [signW, infR, binade52]
    simp only
    obtain ⟨a, ha⟩ : ∃ a, a = t % 2 := ⟨_, rfl⟩
    obtain ⟨b, hb⟩ : ∃ b, b = (t / 2) % (2 ^ 52 - 1) := ⟨_, rfl⟩
    have h3 : b < 2 ^ 52 - 1 := by rw [hb]; exact Nat.mod_lt _ (by decide)
    rw [← ha, ← hb]
    have h4 : (a * 2 ^ 63 + 0x7ff0000000000000 + 1 + b) % 2 ^ 63 = 0x7ff0000000000000 + 1 + b := by omega
    rw [h4, if_neg (by omega), if_neg (by omega), if_neg (by omega)]
    exact ⟨_, _, rfl⟩
  obtain ⟨s, f, h3⟩ := h2
  unfold Ieee.Format.order
  rw [h3]
  cases Ieee.double.read z <;> rfl

theorem finite_no (x : Nat) (w : World) (h : ¬ Fin' x) : Calls Try.prog 17 #[.float .f64 x] w fun e w' => e = .returned (.bool false) ∧ (w' = w ∨ w' = w.drew) := by
  rcases read_nofin h with ⟨s, hs⟩ | ⟨s, f, hs⟩
  · have o1 : FloatKind.f64.format.order x x = some .eq := by show Ieee.double.order x x = _; unfold Ieee.Format.order; rw [hs]; cases s <;> rfl
    have o2 := run_sub_none (x := x) (y := x) (by unfold Ieee.Format.sub; rw [hs]; cases s <;> rfl)
    have o3 : ∀ t, FloatKind.f64.format.order ((Question.nanBits .f64 x x).cut t) 0 = none := fun t => nan_cut x x t 0
    clear h hs
    go_enter Try.func17, Try.ntmps17
    go_wp2_with fail
    go_ret
    exact ⟨rfl, .inr rfl⟩
  · have o1 : FloatKind.f64.format.order x x = none := by show Ieee.double.order x x = _; unfold Ieee.Format.order; rw [hs]; rfl
    clear h hs
    go_enter Try.func17, Try.ntmps17
    go_wp2_with fail
    go_ret
    exact ⟨rfl, .inl rfl⟩

/-! ### Comparisons, as the walk meets them -/
section
variable {x y : Nat}
theorem ord_eq (hx : Fin' x) (hy : Fin' y) : FloatKind.f64.format.order x y = some (compare (V x) (V y)) := order_eq hx hy

theorem cmp_lt {a b : Int} (h : a < b) : compare a b = .lt := by simp [compare, compareOfLessAndEq, h]
theorem cmp_eq {a b : Int} (h : a = b) : compare a b = .eq := by simp [compare, compareOfLessAndEq, h]
theorem cmp_gt {a b : Int} (h : b < a) : compare a b = .gt := by
  have h1 : ¬ a < b := by omega
  have h2 : ¬ a = b := by omega
  simp [compare, compareOfLessAndEq, h1, h2]

theorem lss_t (hx : Fin' x) (hy : Fin' y) (h : V x < V y) : (FloatKind.f64.format.order x y == some .lt) = true := by rw [ord_eq hx hy, cmp_lt h]; rfl
theorem lss_f (hx : Fin' x) (hy : Fin' y) (h : V y ≤ V x) : (FloatKind.f64.format.order x y == some .lt) = false := by
  rw [ord_eq hx hy]
  by_cases e : V x = V y
  · rw [cmp_eq e]; rfl
  · rw [cmp_gt (by omega)]; rfl
theorem gtr_t (hx : Fin' x) (hy : Fin' y) (h : V y < V x) : (FloatKind.f64.format.order x y == some .gt) = true := by rw [ord_eq hx hy, cmp_gt h]; rfl
theorem gtr_f (hx : Fin' x) (hy : Fin' y) (h : V x ≤ V y) : (FloatKind.f64.format.order x y == some .gt) = false := by
  rw [ord_eq hx hy]
  by_cases e : V x = V y
  · rw [cmp_eq e]; rfl
  · rw [cmp_lt (by omega)]; rfl
theorem eql_t (hx : Fin' x) (hy : Fin' y) (h : V x = V y) : (FloatKind.f64.format.order x y == some .eq) = true := by rw [ord_eq hx hy, cmp_eq h]; rfl
theorem eql_f (hx : Fin' x) (hy : Fin' y) (h : V x ≠ V y) : (FloatKind.f64.format.order x y == some .eq) = false := by
  rw [ord_eq hx hy]
  by_cases e : V x < V y
  · rw [cmp_lt e]; rfl
  · rw [cmp_gt (by omega)]; rfl
theorem neq_t (hx : Fin' x) (hy : Fin' y) (h : V x ≠ V y) : (FloatKind.f64.format.order x y != some .eq) = true := by rw [bne, eql_f hx hy h]; rfl
theorem neq_f (hx : Fin' x) (hy : Fin' y) (h : V x = V y) : (FloatKind.f64.format.order x y != some .eq) = false := by rw [bne, eql_t hx hy h]; rfl
theorem geq_t (hx : Fin' x) (hy : Fin' y) (h : V y ≤ V x) : (FloatKind.f64.format.order x y == some .gt || FloatKind.f64.format.order x y == some .eq) = true := by
  by_cases e : V x = V y
  · rw [eql_t hx hy e, Bool.or_true]
  · rw [gtr_t hx hy (by omega), Bool.true_or]
theorem geq_f (hx : Fin' x) (hy : Fin' y) (h : V x < V y) : (FloatKind.f64.format.order x y == some .gt || FloatKind.f64.format.order x y == some .eq) = false := by
  rw [eql_f hx hy (by omega), gtr_f hx hy (by omega)]; rfl
end

/-! ### Constants -/
def c53 : Nat := 4845873199050653696
def c52 : Nat := 4841369599423283200
theorem fin_c53 : Fin' c53 := by unfold Fin' rung c53; decide
theorem fin_c52 : Fin' c52 := by unfold Fin' rung c52; decide
theorem V_c53 : V c53 = P (53 + B) := by
  have e1 : sg c53 = false := by decide
  have e2 : rung c53 = (B + 1) * 2 ^ 52 + 2 ^ 52 := by rw [B_eq]; decide
  rw [V_eq, e1, e2, mg_at (by omega) (by omega), ← Nat.pow_add]
  unfold sgn P
  rw [show 52 + (B + 1) = 53 + B by omega]
  rfl
theorem V_c52 : V c52 = P (52 + B) := by
  have e1 : sg c52 = false := by decide
  have e2 : rung c52 = B * 2 ^ 52 + 2 ^ 52 := by rw [B_eq]; decide
  rw [V_eq, e1, e2, mg_at (by omega) (by omega), ← Nat.pow_add]
  unfold sgn P
  rfl

end Go.Proofs.Qxb6602321a.Fl
