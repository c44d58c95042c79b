import Derived.Test.Qxb6602321aFlQ
namespace Go.Proofs.Qxb6602321a.Fl
open Go.ChangeShapes Go.WideShapes Go.ChangeAt Go.RowKit
set_option linter.unusedVariables false

/-! ### The model's rounding, in plain numbers -/

theorem mg_zero {x : Nat} (h : V x = 0) : mg (rung x) = 0 := by
  have := V_natAbs x
  rw [h] at this
  exact this.symm

theorem OKp.all_lt {p : Nat → Nat} {n : Nat} (h : OKp p n) : ∀ d k, k + d + 1 = n → mg (rung (p k)) < 2 ^ T := by
  intro d
  induction d with
  | zero =>
    intro k hk
    by_cases h0 : V (p k) = 0
    · rw [mg_zero h0]; exact Nat.two_pow_pos _
    · have := h.top (by omega)
      rw [show n - 1 = k by omega] at this
      exact this h0
  | succ d ih =>
    intro k hk
    by_cases h0 : V (p k) = 0
    · rw [mg_zero h0]; exact Nat.two_pow_pos _
    · obtain ⟨t, h1, h2⟩ := h.ov k (by omega) h0
      have h3 := ih (k + 1) (by omega)
      have h4 := Nat.le_of_dvd (mg_ne (h.nz (k + 1) (by omega) (by omega))) h2
      omega

theorem OKp.some_upper {p : Nat → Nat} {n : Nat} (h : OKp p n) : ∀ d i, i + d + 1 = n → ∃ x, Upper p n i x := by
  intro d
  induction d with
  | zero =>
    intro i hi
    obtain rfl : n = i + 1 := by omega
    exact ⟨_, h.upper_top⟩
  | succ d ih =>
    intro i hi
    obtain ⟨x, hx⟩ := ih (i + 1) (by omega)
    exact ⟨_, (h.upper_step (by omega) hx).1⟩

theorem OKp.tot {p : Nat → Nat} {n : Nat} (h : OKp p n) (hn : 0 < n) : (pre (fun k => V (p k)) n).natAbs ≤ 2 ^ T := by
  obtain ⟨x, hx⟩ := h.some_upper (n - 1) 0 (by omega)
  have e := hx.eq
  have e0 : pre (fun k => V (p k)) 0 = 0 := rfl
  rw [e0, Int.sub_zero] at e
  have h1 := hx.lt
  have h2 := hx.gt
  rw [e] at h1 h2
  unfold P at h1 h2
  omega

theorem lg_next {M h : Nat} (h1 : M < 2 ^ (h + 1)) (h2 : M / 2 ^ h % 2 = 0) : M < 2 ^ h := by
  have h3 : M / 2 ^ h < 2 := by
    rw [Nat.div_lt_iff_lt_mul (Nat.two_pow_pos _), Nat.mul_comm, ← Nat.pow_succ]; exact h1
  obtain ⟨c, hc⟩ : ∃ c, c = M / 2 ^ h := ⟨_, rfl⟩
  rw [← hc] at h2 h3
  have h4 : M / 2 ^ h = 0 := by rw [← hc]; clear hc h1; omega
  exact (Nat.div_eq_zero_iff_lt (Nat.two_pow_pos _)).1 h4

theorem lg_done {M h : Nat} (h2 : M / 2 ^ h % 2 = 1) : 2 ^ h ≤ M := by
  by_cases e : 2 ^ h ≤ M
  · exact e
  · rw [Nat.div_eq_of_lt (by omega)] at h2
    omega

def Under (M h : Nat) : Prop := M < 2 ^ (h + 1)
theorem under_of {M h : Nat} (hh : LB = h + 1) (h1 : M < 2 ^ LB) : Under M h := by unfold Under; rw [← hh]; exact h1
theorem LRow.lt_all {w : World} {g : Nat} {a : Nat → Nat} (h : LRow w g a) : LV a 70 < 2 ^ LB := by
  have h1 := LV_lt (a := a) (n := 70) h.lt
  rw [← LB_eq] at h1
  exact h1

/-- The top digit stands at h. -/
structure Top (M h : Nat) : Prop where
  lo : 2 ^ h ≤ M
  hi : M < 2 ^ (h + 1)

theorem Top.E {M h : Nat} (t : Top M h) : Fl.E M = h - 52 := by
  unfold Fl.E
  have h1 := log2_lt' t.hi
  have h2 := le_log2' t.lo
  omega

theorem Top.q_lt {M h : Nat} (t : Top M h) {j : Nat} (hj : h - 52 ≤ j) : M / 2 ^ j < 2 ^ 53 := by
  rw [Nat.div_lt_iff_lt_mul (Nat.two_pow_pos _), ← Nat.pow_add]
  exact Nat.lt_of_lt_of_le t.hi (Nat.pow_le_pow_right (by omega) (by omega))

theorem digit (M j : Nat) : M / 2 ^ j = 2 * (M / 2 ^ (j + 1)) + M / 2 ^ j % 2 := by
  rw [Nat.pow_succ, ← Nat.div_div_eq_div_mul]
  omega

theorem or_bit (x b : Nat) (hb : b < 2) : (2 * x) ||| b = 2 * x + b := by
  have := Nat.two_pow_add_eq_or_of_lt (i := 1) (b := b) (by omega) x
  rw [Nat.pow_one] at this
  exact this.symm

theorem mod_next (M j : Nat) : M % 2 ^ (j + 1) = M % 2 ^ j + 2 ^ j * (M / 2 ^ j % 2) := by
  rw [Nat.pow_succ, Nat.mod_mul]

/-- Anything below place j? -/
def stick (M j : Nat) : Bool := decide (M % 2 ^ j ≠ 0)
theorem stick_zero (M : Nat) : stick M 0 = false := by
  unfold stick
  rw [Nat.pow_zero, Nat.mod_one]
  simp
theorem stick_one {M j : Nat} (h : M / 2 ^ j % 2 = 1) : stick M (j + 1) = true := by
  unfold stick
  rw [mod_next, h]
  have := Nat.two_pow_pos j
  simp
theorem stick_nil {M j : Nat} (h : M / 2 ^ j % 2 = 0) : stick M (j + 1) = stick M j := by
  unfold stick
  rw [mod_next, h, Nat.mul_zero, Nat.add_zero]

/-- To nearest, by the digits. -/
theorem rne_up {M j : Nat} (h : M / 2 ^ j % 2 = 1) (hs : stick M j = true ∨ M / 2 ^ (j + 1) % 2 = 1) : RNE M (2 ^ (j + 1)) = M / 2 ^ (j + 1) + 1 := by
  unfold RNE
  rw [if_pos]
  have h1 := mod_next M j
  rw [h, Nat.mul_one] at h1
  rw [h1]
  have h2 : 2 ^ (j + 1) = 2 * 2 ^ j := by rw [Nat.pow_succ]; omega
  rcases hs with hs | hs
  · left
    unfold stick at hs
    have := of_decide_eq_true hs
    omega
  · by_cases e : M % 2 ^ j = 0
    · right
      refine ⟨by omega, hs⟩
    · left; omega

theorem rne_down {M j : Nat} (h : M / 2 ^ j % 2 = 0 ∨ (stick M j = false ∧ M / 2 ^ (j + 1) % 2 = 0)) : RNE M (2 ^ (j + 1)) = M / 2 ^ (j + 1) := by
  unfold RNE
  rw [if_neg, Nat.add_zero]
  have h1 := mod_next M j
  have h2 : 2 ^ (j + 1) = 2 * 2 ^ j := by rw [Nat.pow_succ]; omega
  have h3 := Nat.mod_lt M (Nat.two_pow_pos j)
  rcases h with h | ⟨h, h'⟩
  · rw [h, Nat.mul_zero] at h1
    omega
  · unfold stick at h
    have h4 := of_decide_eq_false h
    have h5 : M % 2 ^ j = 0 := by omega
    have h6 : M / 2 ^ j % 2 < 2 := Nat.mod_lt _ (by decide)
    have h7 : 2 ^ j * (M / 2 ^ j % 2) ≤ 2 ^ j * 1 := Nat.mul_le_mul_left _ (by omega)
    rw [Nat.mul_one] at h7
    omega

/-- q digits at place s make up what M rounds to. -/
structure Mant (M s q : Nat) : Prop where
  le : q ≤ 2 ^ 53
  eq : q * 2 ^ s = Rd M
  s_le : s ≤ 2240

theorem Mant.plain {M h : Nat} (t : Top M h) (hs : h ≤ 52) (q : Nat) (hq : q = M / 2 ^ 0) : Mant M 0 q := by
  have h1 := t.E
  refine ⟨?_, ?_, by omega⟩
  · have := t.q_lt (j := 0) (by omega); omega
  · unfold Rd
    rw [h1, show h - 52 = 0 by omega, Nat.pow_zero, rne_one]
    rw [hq]; simp

theorem Mant.round {M h s q : Nat} (t : Top M h) (hs : s = h - 52) (hh : h < 2240) (hq : q = RNE M (2 ^ s)) : Mant M s q := by
  have h1 := t.E
  refine ⟨?_, ?_, by omega⟩
  · rw [hq]
    refine rne_le (Nat.two_pow_pos _) ?_
    rw [← Nat.pow_add]
    exact Nat.le_of_lt (Nat.lt_of_lt_of_le t.hi (Nat.pow_le_pow_right (by omega) (by omega)))
  · unfold Rd
    rw [h1, ← hs, hq]

theorem Mant.carry {M s : Nat} (h : Mant M s (2 ^ 53)) (hs : s < 2240) : Mant M (s + 1) (2 ^ 52) := by
  refine ⟨by omega, ?_, by omega⟩
  rw [← h.eq, ← Nat.pow_add, ← Nat.pow_add]
  congr 1
  omega

theorem rd_le {M : Nat} (h : M ≤ 2 ^ T) : Rd M ≤ 2 ^ T := by
  have hT := T_eq
  unfold Rd
  have hE : E M ≤ T := by
    have h1 := log2_lt' (M := M) (k := T) (by rw [Nat.pow_succ]; have := Nat.two_pow_pos T; omega)
    unfold E
    omega
  have h2 : RNE M (2 ^ E M) ≤ 2 ^ (T - E M) := by
    refine rne_le (Nat.two_pow_pos _) ?_
    rw [← Nat.pow_add, show T - E M + E M = T by omega]
    exact h
  have h3 := Nat.mul_le_mul_right (2 ^ E M) h2
  rw [← Nat.pow_add, show T - E M + E M = T by omega] at h3
  exact h3

theorem rd_pos {M : Nat} (h : 0 < M) : 0 < Rd M := by
  by_cases hE : 0 < E M
  · have := (q_bounds hE).1
    unfold Rd
    exact Nat.mul_pos (by omega) (Nat.two_pow_pos _)
  · unfold Rd
    rw [show E M = 0 by omega, Nat.pow_zero, rne_one]
    omega

theorem R_ne {z : Int} (h : z ≠ 0) : R z ≠ 0 := by
  have := rd_pos (M := z.natAbs) (by omega)
  unfold R
  split <;> omega

/-- A float under way: q digits at place m. -/
structure Und (q m b : Nat) : Prop where
  fin : Fin' b
  pos : sg b = false
  val : mg (rung b) = q * 2 ^ m

theorem und_wd {q m : Nat} (hq : q ≤ 2 ^ 53) (h : q * 2 ^ m ≤ 2 ^ T) : Und q m (Wd false (q * 2 ^ m)) := by
  obtain ⟨a, b, c, d⟩ := wd_val false h
  exact ⟨a, c, by rw [d]; exact rd_of rfl hq⟩

theorem und_start {q : Nat} (hq : q ≤ 2 ^ 53) : Und q B (FloatKind.f64.nearest (q : Int)) := by
  rw [ofInt_val]
  refine und_wd hq ?_
  have hT := T_eq
  have hB := B_eq
  have h1 : q * 2 ^ B ≤ 2 ^ 53 * 2 ^ B := Nat.mul_le_mul_right _ hq
  rw [← Nat.pow_add] at h1
  exact Nat.le_trans h1 (Nat.pow_le_pow_right (by omega) (by omega))

theorem Und.half {q m b : Nat} (h : Und q (m + 1) b) (hq : q ≤ 2 ^ 53) (hm : m ≤ B) : ∃ b', Ieee.double.div b two = some b' ∧ Und q m b' := by
  have hT := T_eq
  have hB := B_eq
  refine ⟨_, div_two h.fin (h := q * 2 ^ m) ?_, ?_⟩
  · rw [h.val, Nat.pow_succ, ← Nat.mul_assoc]; omega
  · rw [h.pos]
    refine und_wd hq ?_
    have h1 : q * 2 ^ m ≤ 2 ^ 53 * 2 ^ m := Nat.mul_le_mul_right _ hq
    rw [← Nat.pow_add] at h1
    exact Nat.le_trans h1 (Nat.pow_le_pow_right (by omega) (by omega))

theorem Und.dbl {q m b : Nat} (h : Und q m b) (hq : q ≤ 2 ^ 53) (hm : q * 2 ^ (m + 1) ≤ 2 ^ T) : ∃ b', Ieee.double.mul b two = some b' ∧ Und q (m + 1) b' := by
  have e : 2 * mg (rung b) = q * 2 ^ (m + 1) := by rw [h.val, Nat.pow_succ, Nat.mul_left_comm, Nat.mul_comm 2 (2 ^ m)]
  refine ⟨_, mul_two h.fin, ?_⟩
  rw [h.pos, e]
  exact und_wd hq hm

theorem Dec.e_le {x m : Nat} {e : Int} (h : Dec x m e) (hx : mg (rung x) < 2 ^ T) : e ≤ 970 := by
  have hT := T_eq
  by_cases c : e ≤ 970
  · exact c
  · exfalso
    have hv := h.val
    rw [show (-(e + 1074)).toNat = 0 by omega, Nat.pow_zero, Nat.mul_one] at hv
    have h1 : 2 ^ 52 * 2 ^ (e + 1074).toNat ≤ m * 2 ^ (e + 1074).toNat := Nat.mul_le_mul_right _ h.lo
    rw [← Nat.pow_add, ← hv] at h1
    have h2 : 2 ^ T ≤ 2 ^ (52 + (e + 1074).toNat) := Nat.pow_le_pow_right (by omega) (by omega)
    omega

/-- The two sums of limbs, k partials in. -/
structure Sums (p : Nat → Nat) (k : Nat) (x y : Nat) : Prop where
  eq : (x : Int) - y = pre (fun k => V (p k)) k
  le : x + y ≤ k * 2 ^ T

theorem Sums.start (p : Nat → Nat) : Sums p 0 0 0 := ⟨rfl, by omega⟩
theorem Sums.fits {p : Nat → Nat} {k x y z : Nat} (h : Sums p k x y) (hk : k < 4096) (hz : z < 2 ^ T) : x + z < 2 ^ LB ∧ y + z < 2 ^ LB := by
  have h1 := h.le
  have h2 : k * 2 ^ T + 2 ^ T ≤ 4096 * 2 ^ T := by
    have := Nat.mul_le_mul_right (2 ^ T) (show k + 1 ≤ 4096 by omega)
    rw [Nat.add_mul, Nat.one_mul] at this
    exact this
  have h3 : 4096 * 2 ^ T ≤ 2 ^ LB := by
    rw [show 4096 = 2 ^ 12 from rfl, ← Nat.pow_add]
    have hT := T_eq
    have hL := LB_eq
    exact Nat.pow_le_pow_right (by omega) (by omega)
  omega
theorem Sums.skip {p : Nat → Nat} {k x y : Nat} (h : Sums p k x y) (h0 : V (p k) = 0) : Sums p (k + 1) x y := by
  refine ⟨?_, ?_⟩
  · show _ = pre (fun k => V (p k)) k + V (p k)
    rw [h0, Int.add_zero]; exact h.eq
  · rw [Nat.add_mul]; have := h.le; omega
theorem Sums.add {p : Nat → Nat} {k x y x' : Nat} (h : Sums p k x y) (h0 : 0 < V (p k)) (hz : mg (rung (p k)) < 2 ^ T) (hx : x' = x + mg (rung (p k))) : Sums p (k + 1) x' y := by
  have e := V_natAbs (p k)
  have h1 := h.eq
  refine ⟨?_, ?_⟩
  · show _ = pre (fun k => V (p k)) k + V (p k)
    rw [← h1]
    omega
  · rw [Nat.add_mul]; have := h.le; omega
theorem Sums.sub {p : Nat → Nat} {k x y y' : Nat} (h : Sums p k x y) (h0 : V (p k) < 0) (hz : mg (rung (p k)) < 2 ^ T) (hy : y' = y + mg (rung (p k))) : Sums p (k + 1) x y' := by
  have e := V_natAbs (p k)
  have h1 := h.eq
  refine ⟨?_, ?_⟩
  · show _ = pre (fun k => V (p k)) k + V (p k)
    rw [← h1]
    omega
  · rw [Nat.add_mul]; have := h.le; omega

/-- One up? -/
def up (M j : Nat) : Bool := M / 2 ^ j % 2 == 1 && (stick M j || M / 2 ^ (j + 1) % 2 == 1)
theorem up_t {M j : Nat} (h : up M j = true) : RNE M (2 ^ (j + 1)) = M / 2 ^ (j + 1) + 1 := by
  unfold up at h
  simp only [Bool.and_eq_true, Bool.or_eq_true, beq_iff_eq] at h
  exact rne_up h.1 h.2
theorem up_f {M j : Nat} (h : up M j = false) : RNE M (2 ^ (j + 1)) = M / 2 ^ (j + 1) := by
  apply rne_down
  unfold up at h
  simp only [Bool.and_eq_false_iff, Bool.or_eq_false_iff, beq_eq_false_iff_ne] at h
  rcases h with h | ⟨h, h'⟩
  · left; omega
  · right; exact ⟨h, by omega⟩

/-- Growth by one's own row. -/
theorem grown_own {w wr w' : World} {g : Nat} (h : w.grownBy wr none) (h2 : wr.grownBy w' (some g)) (hg : w.heap.size ≤ g) : w.grownBy w' none :=
  ⟨h2.os.trans h.os, h2.tape.trans h.tape, h2.output.trans h.output, Nat.le_trans h.size h2.size, fun k hk _ => (h2.block k (Nat.lt_of_lt_of_le hk h.size) (by simp; omega)).trans (h.block k hk (by simp))⟩

theorem LRow.beside {w w' : World} {g h : Nat} {a : Nat → Nat} (hr : LRow w h a) (h2 : w.grownBy w' (some g)) (hne : h ≠ g) : LRow w' h a :=
  ⟨hr.row.of_block (h2.block h hr.row.lt (by simp; exact hne)), hr.lt⟩

end Go.Proofs.Qxb6602321a.Fl
