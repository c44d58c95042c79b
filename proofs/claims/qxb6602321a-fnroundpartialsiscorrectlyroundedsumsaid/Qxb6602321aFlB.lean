import Derived.Test.Qxb6602321aFlA
namespace Go.Proofs.Qxb6602321a.Fl
open Ieee
set_option linter.unusedVariables false

/-- A number behind a veil: so that no power of two with a great exponent is ever reckoned out. -/
def veil (c n : Nat) : Nat := if h : n = 0 then c else veil c (n - 1)
theorem veil_eq (c : Nat) : veil c 0 = c := by unfold veil; rfl

/-- 2^-1074 is the unit: 1 is 2^B units. -/
def B : Nat := veil 1074 0
theorem B_eq : B = 1074 := by unfold B; exact veil_eq 1074
/-- 2^1023 is 2^T units. -/
def T : Nat := veil 2097 0
theorem T_eq : T = 2097 := by unfold T; exact veil_eq 2097

/-! ### Rungs and magnitudes -/

/-- Rounded to 53 digits. -/
def Rd (M : Nat) : Nat := RNE M (2 ^ E M) * 2 ^ E M

theorem mg_at {e q : Nat} (h1 : 2 ^ 52 ≤ q) (h2 : q ≤ 2 ^ 53) : mg (e * 2 ^ 52 + q) = q * 2 ^ e := by
  unfold mg
  rw [if_neg (by omega)]
  by_cases h : q < 2 ^ 53
  · have e1 : (e * 2 ^ 52 + q) % 2 ^ 52 = q - 2 ^ 52 := by omega
    have e2 : (e * 2 ^ 52 + q) / 2 ^ 52 = e + 1 := by omega
    rw [e1, e2, Nat.add_sub_cancel, show 2 ^ 52 + (q - 2 ^ 52) = q by omega]
  · have hq : q = 2 ^ 52 * 2 := by omega
    have e1 : (e * 2 ^ 52 + q) % 2 ^ 52 = 0 := by omega
    have e2 : (e * 2 ^ 52 + q) / 2 ^ 52 = e + 2 := by omega
    rw [e1, e2, Nat.add_zero, show e + 2 - 1 = e + 1 by omega, Nat.pow_succ 2 e, hq, Nat.mul_assoc (2 ^ 52) 2 (2 ^ e), Nat.mul_comm 2 (2 ^ e)]

theorem mg_small {r : Nat} (h : r ≤ 2 ^ 53) : mg r = r := by
  by_cases h1 : r < 2 ^ 52
  · unfold mg; rw [if_pos h1]
  · have := mg_at (e := 0) (q := r) (by omega) h
    simpa using this

theorem log2_lt' {M k : Nat} (h : M < 2 ^ (k + 1)) : M.log2 ≤ k := by
  by_cases h0 : M = 0
  · subst h0; rw [Nat.log2_zero]; omega
  · have := (Nat.log2_lt h0).2 h
    omega

theorem le_log2' {M k : Nat} (h : 2 ^ k ≤ M) : k ≤ M.log2 := by
  have h0 : M ≠ 0 := by have := Nat.two_pow_pos k; omega
  exact (Nat.le_log2 h0).2 h

theorem E_small {M : Nat} (h : M < 2 ^ 53) : E M = 0 := by
  have := log2_lt' (k := 52) h
  unfold E; omega

/-- In [2^(52+g), 2^(53+g)) the last place is g. -/
theorem E_at {M g : Nat} (h1 : 2 ^ (52 + g) ≤ M) (h2 : M < 2 ^ (53 + g)) : E M = g := by
  have a := le_log2' h1
  have b := log2_lt' (k := 52 + g) (by rw [show 52 + g + 1 = 53 + g by omega]; exact h2)
  unfold E; omega

theorem E_lo {M : Nat} (h : 0 < E M) : 2 ^ (52 + E M) ≤ M := by
  have h0 : M ≠ 0 := by intro e; subst e; unfold E at h; rw [Nat.log2_zero] at h; omega
  have := Nat.log2_self_le h0
  have e : 52 + E M = M.log2 := by unfold E at h ⊢; omega
  rw [e]; exact this

theorem E_hi (M : Nat) : M < 2 ^ (53 + E M) := by
  have := @Nat.lt_log2_self M
  refine Nat.lt_of_lt_of_le this (Nat.pow_le_pow_right (by omega) ?_)
  unfold E; omega

theorem rne_le {n g k : Nat} (hg : 0 < g) (h : n ≤ k * g) : RNE n g ≤ k := by
  unfold RNE
  have hd := Nat.div_add_mod n g
  have hm := Nat.mod_lt n hg
  have h1 : n / g ≤ k := by
    rw [← Nat.mul_div_cancel k hg]
    exact Nat.div_le_div_right h
  by_cases e : n / g = k
  · have : n % g = 0 := by
      rw [e, Nat.mul_comm] at hd
      omega
    rw [this, if_neg (by omega)]
    omega
  · split <;> omega

theorem rne_ge {n g k : Nat} (hg : 0 < g) (h : k * g ≤ n) : k ≤ RNE n g := by
  unfold RNE
  have := (Nat.le_div_iff_mul_le hg).2 h
  omega

theorem q_bounds {M : Nat} (h : 0 < E M) : 2 ^ 52 ≤ RNE M (2 ^ E M) ∧ RNE M (2 ^ E M) ≤ 2 ^ 53 := by
  have h1 := E_lo h
  have h2 := E_hi M
  rw [Nat.pow_add] at h1 h2
  exact ⟨rne_ge (Nat.two_pow_pos _) h1, rne_le (Nat.two_pow_pos _) (by omega)⟩

theorem mg_rg (M : Nat) : mg (rg M) = Rd M := by
  unfold rg Rd
  by_cases h0 : M = 0
  · subst h0
    unfold E; rw [Nat.log2_zero]; simp [RNE, mg]
  · rw [if_neg h0]
    by_cases h : 0 < E M
    · obtain ⟨a, b⟩ := q_bounds h
      exact mg_at a b
    · have e : E M = 0 := by omega
      have := E_hi M
      rw [e] at this ⊢
      rw [Nat.zero_mul, Nat.zero_add, Nat.pow_zero, Nat.mul_one, rne_one]
      exact mg_small (by omega)

theorem rg_mg (r : Nat) : rg (mg r) = r := by
  by_cases h : r < 2 ^ 53
  · rw [mg_small (by omega)]
    unfold rg
    by_cases h0 : r = 0
    · rw [if_pos h0, h0]
    · rw [if_neg h0, E_small h, Nat.pow_zero, rne_one]; omega
  · obtain ⟨e, q, hq1, hq2, he, hr⟩ : ∃ e q, 2 ^ 52 ≤ q ∧ q < 2 ^ 53 ∧ 1 ≤ e ∧ r = e * 2 ^ 52 + q := ⟨r / 2 ^ 52 - 1, 2 ^ 52 + r % 2 ^ 52, by omega, by omega, by omega, by omega⟩
    rw [hr, mg_at hq1 (by omega)]
    have hpos := Nat.two_pow_pos e
    have h0 : q * 2 ^ e ≠ 0 := Nat.mul_ne_zero (by omega) (by omega)
    have hE : E (q * 2 ^ e) = e := by
      apply E_at
      · rw [Nat.pow_add]; exact Nat.mul_le_mul_right _ hq1
      · rw [Nat.pow_add]; exact Nat.mul_lt_mul_of_pos_right hq2 hpos
    unfold rg
    rw [if_neg h0, hE, rne_dvd hpos]

theorem rd_mg (r : Nat) : Rd (mg r) = mg r := by rw [← mg_rg, rg_mg]

/-! ### Words -/

theorem word_eq (neg : Bool) (r : Nat) : double.word neg r = if neg then 2 ^ 63 + r else r := rfl

theorem word_parts (neg : Bool) {r : Nat} (h : r < 2 ^ 63) : sg (double.word neg r) = neg ∧ rung (double.word neg r) = r := by
  rw [word_eq]
  unfold sg rung
  cases neg with
  | true =>
    simp only [if_true]
    have e1 : (2 ^ 63 + r) / 2 ^ 63 % 2 = 1 := by omega
    have e2 : (2 ^ 63 + r) % 2 ^ 63 = r := by omega
    rw [e1, e2]
    exact ⟨rfl, rfl⟩
  | false =>
    simp only [Bool.false_eq_true, if_false]
    have e1 : r / 2 ^ 63 % 2 = 0 := by omega
    have e2 : r % 2 ^ 63 = r := by omega
    rw [e1, e2]
    exact ⟨rfl, rfl⟩

/-- A signed magnitude. -/
def sgn (neg : Bool) (M : Nat) : Int := if neg then -(M : Int) else M

theorem V_eq (b : Nat) : V b = sgn (sg b) (mg (rung b)) := rfl

theorem rg_lt {M : Nat} (h : M ≤ 2 ^ T) : rg M < 2047 * 2 ^ 52 := by
  unfold rg
  split
  · omega
  · have hT := T_eq
    by_cases h1 : M < 2 ^ T
    · have hl := log2_lt' (M := M) (k := T - 1) (by rw [show T - 1 + 1 = T by omega]; exact h1)
      have hE : E M ≤ 2044 := by unfold E; omega
      have hq : RNE M (2 ^ E M) ≤ 2 ^ 53 := rne_le (Nat.two_pow_pos _) (by have := E_hi M; rw [Nat.pow_add] at this; omega)
      omega
    · have hM : M = 2 ^ T := by omega
      have hE : E M = T - 52 := E_at (by rw [hM]; exact Nat.pow_le_pow_right (by omega) (by omega)) (by rw [hM]; exact Nat.pow_lt_pow_right (by omega) (by omega))
      rw [hE]
      have : RNE M (2 ^ (T - 52)) ≤ 2 ^ 52 := rne_le (Nat.two_pow_pos _) (by rw [hM, ← Nat.pow_add]; exact Nat.pow_le_pow_right (by omega) (by omega))
      omega

theorem wd_val (neg : Bool) {M : Nat} (h : M ≤ 2 ^ T) : Fin' (Wd neg M) ∧ V (Wd neg M) = sgn neg (Rd M) ∧ sg (Wd neg M) = neg ∧ mg (rung (Wd neg M)) = Rd M := by
  have hl := rg_lt h
  unfold Wd
  rw [Nat.min_eq_left (by omega)]
  obtain ⟨a, b⟩ := word_parts neg (r := rg M) (by omega)
  refine ⟨?_, ?_, a, ?_⟩
  · unfold Fin'; rw [b]; exact hl
  · rw [V_eq, a, b, mg_rg]
  · rw [b, mg_rg]

theorem wd_exact (neg : Bool) {r : Nat} (h : r < 2047 * 2 ^ 52) : Wd neg (mg r) = double.word neg r := by
  unfold Wd
  rw [rg_mg, Nat.min_eq_left (by omega)]

theorem rung_lt (b : Nat) : rung b < 2 ^ 63 := Nat.mod_lt _ (by decide)

/-- A word is its sign and its rung. -/
theorem word_of {b : Nat} (h : b < 2 ^ 64) : double.word (sg b) (rung b) = b := by
  rw [word_eq]
  unfold sg rung
  by_cases e : b / 2 ^ 63 % 2 = 1
  · rw [e]; simp; omega
  · have e' : b / 2 ^ 63 % 2 = 0 := by omega
    rw [e']; simp; omega

theorem mg_inj {r r' : Nat} (h : mg r = mg r') : r = r' := by rw [← rg_mg r, h, rg_mg]

theorem sgn_natAbs (neg : Bool) (M : Nat) : (sgn neg M).natAbs = M := by unfold sgn; cases neg <;> simp
theorem V_natAbs (b : Nat) : (V b).natAbs = mg (rung b) := by rw [V_eq, sgn_natAbs]

/-! ### Times two, by two -/

def two : Nat := 2 ^ 62

theorem read_two : double.read two = .number false (2 ^ 52) (-51) := by decide +kernel

theorem read_fin' {b : Nat} (h : Fin' b) : ∃ m i, double.read b = .number (sg b) m i ∧ -1074 ≤ i ∧ m * 2 ^ (i + 1074).toNat = mg (rung b) ∧ m < 2 ^ 53 := by
  unfold Format.read
  rw [signW, infR, binade52, least]
  unfold Fin' at h
  unfold rung at h ⊢
  unfold mg
  simp only
  by_cases h1 : b % 2 ^ 63 < 2 ^ 52
  · rw [if_pos h1, if_pos h1]
    exact ⟨_, _, rfl, by omega, by simp, by omega⟩
  · rw [if_neg h1, if_pos h, if_neg h1]
    refine ⟨_, _, rfl, by omega, ?_, by omega⟩
    congr 2
    omega

theorem mul_two {x : Nat} (hx : Fin' x) : double.mul x two = some (Wd (sg x) (2 * mg (rung x))) := by
  obtain ⟨m, i, ex, hi, hm⟩ := read_fin hx
  unfold Format.mul
  rw [ex, read_two]
  simp only [Datum.product, Option.map_some, Format.write, Bool.xor_false]
  rw [nearest_wd _ _ _ (2 * mg (rung x))]
  rw [← hm]
  have e2 : (2 : Nat) = 2 ^ 1 := rfl
  rw [Nat.mul_comm 2 (m * _)]
  conv => rhs; rw [show m * 2 ^ (i + 1074).toNat * 2 = m * 2 ^ (i + 1074).toNat * 2 ^ 1 from rfl]
  rw [Nat.mul_assoc, Nat.mul_assoc, Nat.mul_assoc, ← Nat.pow_add, ← Nat.pow_add, ← Nat.pow_add]
  congr 2
  omega

theorem div_two {x h : Nat} (hx : Fin' x) (hh : mg (rung x) = 2 * h) : double.div x two = some (Wd (sg x) h) := by
  obtain ⟨m, i, ex, hi, hm, hlt⟩ := read_fin' hx
  unfold Format.div
  rw [ex, read_two]
  simp only [Datum.quotient, fbits]
  rw [if_neg (by decide)]
  have hl : m.log2 ≤ 52 := log2_lt' (k := 52) hlt
  have l52 : (2 ^ 52 : Nat).log2 = 52 := Nat.log2_two_pow
  simp only [l52, Option.map_some, Format.write, Bool.xor_false]
  obtain ⟨more, hmore⟩ : ∃ more, more = 52 + 2 + 52 - m.log2 := ⟨_, rfl⟩
  rw [← hmore]
  have hm2 : 54 ≤ more := by omega
  have e1 : m <<< more = m * 2 ^ (more - 52) * 2 ^ 52 := by
    rw [Nat.shiftLeft_eq, Nat.mul_assoc, ← Nat.pow_add]
    congr 2
    omega
  rw [e1, Nat.mul_div_cancel _ (by decide), Nat.mul_mod_left]
  have e3 : ((0 : Nat) != 0).toNat = 0 := rfl
  rw [e3, Nat.add_zero]
  rw [nearest_wd _ _ _ h]
  -- m * 2^(i+1074) = 2 * h
  rw [hh] at hm
  have key : 2 * (m * 2 ^ (more - 52)) * 2 ^ (i - -51 - (more : Int) - 1 + 1074).toNat * 2 = h * 2 ^ (-(i - -51 - (more : Int) - 1 + 1074)).toNat * 2 := by
    have r1 : h * 2 ^ (-(i - -51 - (more : Int) - 1 + 1074)).toNat * 2 = m * 2 ^ (i + 1074).toNat * 2 ^ (-(i - -51 - (more : Int) - 1 + 1074)).toNat := by
      rw [hm, Nat.mul_assoc, Nat.mul_comm _ 2, ← Nat.mul_assoc, Nat.mul_comm h 2]
    have r2 : 2 * (m * 2 ^ (more - 52)) * 2 ^ (i - -51 - (more : Int) - 1 + 1074).toNat * 2 = m * (2 ^ (more - 52) * 2 ^ (i - -51 - (more : Int) - 1 + 1074).toNat * 2 ^ 2) := by
      rw [Nat.mul_comm 2 (m * _), show (2 : Nat) ^ 2 = 2 * 2 from rfl]
      simp only [Nat.mul_assoc, Nat.mul_comm, Nat.mul_left_comm]
    rw [r1, r2, Nat.mul_assoc m, ← Nat.pow_add, ← Nat.pow_add, ← Nat.pow_add]
    congr 2
    omega
  exact Nat.eq_of_mul_eq_mul_right (by omega) key

/-! ### To and from integers -/

theorem toInt_val {b k : Nat} (hb : Fin' b) (hs : sg b = false) (hk : mg (rung b) = k * 2 ^ B) : (double.read b).toInt .zero = some (k : Int) := by
  obtain ⟨m, i, ex, hi, hm⟩ := read_fin hb
  rw [ex, hs]
  simp only [Datum.toInt, Datum.integral, signed]
  simp only [Bool.false_eq_true, if_false, Nat.shiftLeft_zero]
  congr 2
  rw [hk] at hm
  have hB := B_eq
  unfold Toward.cut
  simp only [Bool.toNat_false, Nat.add_zero, Nat.shiftLeft_eq, Nat.one_mul]
  by_cases h0 : 0 ≤ i
  · have e : (-i).toNat = 0 := by omega
    rw [e, Nat.zero_min, Nat.pow_zero, Nat.div_one]
    have : m * 2 ^ i.toNat * 2 ^ B = k * 2 ^ B := by
      rw [← hm, Nat.mul_assoc, ← Nat.pow_add]
      congr 2
      omega
    exact Nat.eq_of_mul_eq_mul_right (Nat.two_pow_pos B) this
  · have e : i.toNat = 0 := by omega
    rw [e, Nat.pow_zero, Nat.mul_one]
    have h2 : m = k * 2 ^ (-i).toNat := by
      have : m * 2 ^ (i + 1074).toNat = k * 2 ^ (-i).toNat * 2 ^ (i + 1074).toNat := by
        rw [hm, Nat.mul_assoc, ← Nat.pow_add]
        congr 2
        omega
      exact Nat.eq_of_mul_eq_mul_right (Nat.two_pow_pos _) this
    by_cases hk0 : k = 0
    · rw [hk0, Nat.zero_mul] at h2
      rw [h2, hk0, Nat.zero_div]
    · have : (-i).toNat ≤ m.log2 := by
        rw [h2, log2_mul_pow hk0]
        omega
      rw [Nat.min_eq_left (by omega), h2, Nat.mul_div_cancel _ (Nat.two_pow_pos _)]

theorem ofInt_val (k : Nat) : FloatKind.f64.nearest (k : Int) = Wd false (k * 2 ^ B) := by
  unfold FloatKind.nearest FloatKind.encode
  show double.write _ = _
  simp only [Format.write]
  have : (decide ((k : Int) < 0)) = false := by simp
  rw [this, nearest_wd _ _ _ (k * 2 ^ B)]
  have hB := B_eq
  have e1 : ((0 : Int) + 1074).toNat = B := by omega
  have e2 : (-((0 : Int) + 1074)).toNat = 0 := by omega
  rw [e1, e2, Nat.pow_zero, Nat.mul_one, Int.natAbs_natCast]

end Go.Proofs.Qxb6602321a.Fl
