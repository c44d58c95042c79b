import Derived.Test.Qxb6602321aFlE
namespace Go.Proofs.Qxb6602321a.Fl
open Go.ChangeShapes Go.WideShapes Go.ChangeAt Go.RowKit
set_option linter.unusedVariables false

/-! ### Negation, halving, doubling -/

theorem sg_bit (b : Nat) : sg b = b.testBit 63 := by
  unfold sg
  rw [Nat.testBit_eq_decide_div_mod_eq]
  rfl

theorem neg_parts (b : Nat) : sg (b ^^^ 2 ^ 63) = !sg b ∧ rung (b ^^^ 2 ^ 63) = rung b := by
  refine ⟨?_, ?_⟩
  · rw [sg_bit, sg_bit, Nat.testBit_xor, Nat.testBit_two_pow_self]
    simp
  · unfold rung
    apply Nat.eq_of_testBit_eq
    intro i
    rw [Nat.testBit_mod_two_pow, Nat.testBit_mod_two_pow, Nat.testBit_xor]
    by_cases h : i < 63
    · rw [Nat.testBit_two_pow_of_ne (by omega)]
      simp
    · simp [h]

theorem neg_fin {b : Nat} (h : Fin' b) : Fin' (b ^^^ 2 ^ 63) := by unfold Fin' at *; rw [(neg_parts b).2]; exact h
theorem neg_V (b : Nat) : V (b ^^^ 2 ^ 63) = -V b := by
  rw [V_eq, V_eq, (neg_parts b).1, (neg_parts b).2]
  unfold sgn
  cases sg b <;> simp

theorem R_nat (M : Nat) : R (M : Int) = (Rd M : Int) := by
  unfold R
  rw [if_neg (by omega), Int.natAbs_natCast]

theorem rd_of {M q k : Nat} (hM : M = q * 2 ^ k) (hq : q ≤ 2 ^ 53) : Rd M = M := by
  have h : R (M : Int) = (M : Int) := by
    refine rep_of (k := k) ⟨q, ?_⟩ ?_ ?_
    · rw [hM, Int.natCast_mul, Int.mul_comm]; rfl
    · rw [P_53]
      have : M ≤ 2 ^ 53 * 2 ^ k := by rw [hM]; exact Nat.mul_le_mul_right _ hq
      unfold P
      omega
    · have := P_pos (53 + k); omega
  rw [R_nat] at h
  omega

/-- A magnitude that is a word's is 53 digits and a place. -/
theorem mg_form (r : Nat) : ∃ q, mg r = q * 2 ^ E (mg r) ∧ q ≤ 2 ^ 53 := by
  have h := rd_mg r
  refine ⟨RNE (mg r) (2 ^ E (mg r)), ?_, ?_⟩
  · unfold Rd at h; exact h.symm
  · refine rne_le (Nat.two_pow_pos _) ?_
    have := E_hi (mg r)
    rw [Nat.pow_add] at this
    omega

theorem mg_lt {r : Nat} (h : r < 2047 * 2 ^ 52) : mg r < 2 ^ (T + 1) := by
  have hT := T_eq
  by_cases h1 : r < 2 ^ 53
  · rw [mg_small (by omega)]
    exact Nat.lt_of_lt_of_le h1 (Nat.pow_le_pow_right (by omega) (by omega))
  · obtain ⟨e, q, hq1, hq2, he, hr⟩ : ∃ e q, 2 ^ 52 ≤ q ∧ q < 2 ^ 53 ∧ e ≤ 2045 ∧ r = e * 2 ^ 52 + q := ⟨r / 2 ^ 52 - 1, 2 ^ 52 + r % 2 ^ 52, by omega, by omega, by omega, by omega⟩
    rw [hr, mg_at hq1 (by omega)]
    have h2 : q * 2 ^ e < 2 ^ 53 * 2 ^ e := Nat.mul_lt_mul_of_pos_right hq2 (Nat.two_pow_pos _)
    rw [← Nat.pow_add] at h2
    exact Nat.lt_of_lt_of_le h2 (Nat.pow_le_pow_right (by omega) (by omega))

theorem V_pos {b : Nat} (h : sg b = false) : V b = (mg (rung b) : Int) := by rw [V_eq, h]; rfl

theorem half {b : Nat} (hb : Fin' b) (hs : sg b = false) (hbig : P (53 + B) ≤ V b) : ∃ b', Ieee.double.div b two = some b' ∧ Fin' b' ∧ sg b' = false ∧ mg (rung b) = 2 * mg (rung b') := by
  obtain ⟨q, hq, hq2⟩ := mg_form (rung b)
  have hM : 2 ^ 53 ≤ mg (rung b) := by
    rw [V_pos hs] at hbig
    have h1 := P_le (show 53 ≤ 53 + B by omega)
    unfold P at h1 hbig
    omega
  have hE : 0 < E (mg (rung b)) := by
    by_cases e : 0 < E (mg (rung b))
    · exact e
    · have := E_hi (mg (rung b))
      rw [show E (mg (rung b)) = 0 by omega] at this
      omega
  obtain ⟨k, hk⟩ : ∃ k, E (mg (rung b)) = k + 1 := ⟨_, (Nat.succ_pred_eq_of_pos hE).symm⟩
  rw [hk, Nat.pow_succ] at hq
  have h2 : mg (rung b) = 2 * (q * 2 ^ k) := by rw [hq, ← Nat.mul_assoc, Nat.mul_comm]
  have hl := mg_lt hb
  rw [Nat.pow_succ] at hl
  obtain ⟨w1, w2, w3, w4⟩ := wd_val false (M := q * 2 ^ k) (by omega)
  refine ⟨_, by rw [← hs]; exact div_two hb h2, w1, w3, ?_⟩
  rw [w4, rd_of rfl hq2, h2]

theorem dbl {b : Nat} (hb : Fin' b) (hs : sg b = false) (hsm : V b < P (52 + B)) : ∃ b', Ieee.double.mul b two = some b' ∧ Fin' b' ∧ sg b' = false ∧ mg (rung b') = 2 * mg (rung b) := by
  obtain ⟨q, hq, hq2⟩ := mg_form (rung b)
  have hT := T_eq
  have hB := B_eq
  have hM : 2 * mg (rung b) ≤ 2 ^ T := by
    rw [V_pos hs] at hsm
    have h1 := P_le (show 52 + B + 1 ≤ T by omega)
    rw [P_succ] at h1
    unfold P at h1 hsm
    omega
  obtain ⟨w1, w2, w3, w4⟩ := wd_val false hM
  refine ⟨_, by rw [← hs]; exact mul_two hb, w1, w3, ?_⟩
  rw [w4]
  obtain ⟨g, hg⟩ : ∃ g, g = E (mg (rung b)) := ⟨_, rfl⟩
  rw [← hg] at hq
  exact rd_of (q := q) (k := g + 1) (by rw [hq, Nat.pow_succ, ← Nat.mul_assoc, Nat.mul_comm 2, Nat.mul_assoc, Nat.mul_comm 2]) hq2

/-! ### decompose -/

/-- |x| = m * 2^k, m of 53 digits. -/
structure Dec (x m : Nat) (k : Int) : Prop where
  lo : 2 ^ 52 ≤ m
  hi : m < 2 ^ 53
  kl : -1126 ≤ k
  kh : k ≤ 2098
  val : mg (rung x) * 2 ^ (-(k + 1074)).toNat = m * 2 ^ (k + 1074).toNat

def DecRet (x : Nat) (e : Ending) : Prop := ∃ (m : Nat) (k : Int), e = .returned (.tuple #[.int .u64 m, .int .i64 k]) ∧ Dec x m k

/-- Under way. -/
structure Way (x b : Nat) (k : Int) : Prop where
  fin : Fin' b
  pos : sg b = false
  ne : 0 < mg (rung b)
  val : mg (rung b) * 2 ^ k.toNat = mg (rung x) * 2 ^ (-k).toNat

theorem Way.up {x b b' : Nat} {k : Int} (h : Way x b k) (hk : 0 ≤ k) (h1 : Fin' b') (h2 : sg b' = false) (h3 : mg (rung b) = 2 * mg (rung b')) : Way x b' (k + 1) := by
  refine ⟨h1, h2, by have := h.ne; omega, ?_⟩
  have hv := h.val
  have e1 : (-k).toNat = 0 := by omega
  have e2 : (-(k + 1)).toNat = 0 := by omega
  have e3 : (k + 1).toNat = k.toNat + 1 := by omega
  rw [e1] at hv
  rw [e2, ← hv, e3, h3, Nat.pow_succ, Nat.mul_comm 2, Nat.mul_assoc, Nat.mul_comm 2]

theorem Way.down {x b b' : Nat} {k : Int} (h : Way x b k) (h1 : Fin' b') (h2 : sg b' = false) (h3 : mg (rung b') = 2 * mg (rung b)) : Way x b' (k - 1) := by
  refine ⟨h1, h2, by have := h.ne; omega, ?_⟩
  have hv := h.val
  by_cases hk : k ≤ 0
  · have e1 : k.toNat = 0 := by omega
    have e2 : (k - 1).toNat = 0 := by omega
    have e3 : (-(k - 1)).toNat = (-k).toNat + 1 := by omega
    rw [e1, Nat.pow_zero, Nat.mul_one] at hv
    rw [e2, e3, Nat.pow_zero, Nat.mul_one, h3, hv, Nat.pow_succ, ← Nat.mul_assoc, Nat.mul_comm 2, Nat.mul_assoc, Nat.mul_comm 2]
  · have e1 : (-k).toNat = 0 := by omega
    have e2 : (-(k - 1)).toNat = 0 := by omega
    have e3 : k.toNat = (k - 1).toNat + 1 := by omega
    rw [e1, e3] at hv
    rw [e2, ← hv, h3, Nat.pow_succ, Nat.mul_comm 2 (mg _), Nat.mul_assoc, Nat.mul_comm 2]

/-- How far it can go. -/
theorem Way.bounds {x b : Nat} {k : Int} (h : Way x b k) (hx : Fin' x) (hx0 : 0 < mg (rung x)) (hb : V b < P (53 + B)) : -1127 ≤ k ∧ k < 2098 := by
  have hT := T_eq
  have hB := B_eq
  have hv := h.val
  have hne := h.ne
  constructor
  · by_cases e : -1127 ≤ k
    · exact e
    · exfalso
      have e1 : k.toNat = 0 := by omega
      rw [e1, Nat.pow_zero, Nat.mul_one] at hv
      rw [V_pos h.pos, hv] at hb
      have h1 : 2 ^ (53 + B) ≤ 2 ^ (-k).toNat := Nat.pow_le_pow_right (by omega) (by omega)
      have h2 : 1 * 2 ^ (-k).toNat ≤ mg (rung x) * 2 ^ (-k).toNat := Nat.mul_le_mul_right _ hx0
      unfold P at hb
      omega
  · by_cases e : k < 2098
    · exact e
    · exfalso
      have e1 : (-k).toNat = 0 := by omega
      rw [e1, Nat.pow_zero, Nat.mul_one] at hv
      have h0 := mg_lt hx
      have h1 : 2 ^ (T + 1) ≤ 2 ^ k.toNat := Nat.pow_le_pow_right (by omega) (by omega)
      have h2 : 1 * 2 ^ k.toNat ≤ mg (rung b) * 2 ^ k.toNat := Nat.mul_le_mul_right _ hne
      omega

theorem Way.small {x b : Nat} {k : Int} (h : Way x b k) (hx : Fin' x) (hk : 0 ≤ k) : k < 2098 := by
  have hT := T_eq
  have hv := h.val
  have hne := h.ne
  by_cases e : k < 2098
  · exact e
  · exfalso
    have e1 : (-k).toNat = 0 := by omega
    rw [e1, Nat.pow_zero, Nat.mul_one] at hv
    have h0 := mg_lt hx
    have h1 : 2 ^ (T + 1) ≤ 2 ^ k.toNat := Nat.pow_le_pow_right (by omega) (by omega)
    have h2 : 1 * 2 ^ k.toNat ≤ mg (rung b) * 2 ^ k.toNat := Nat.mul_le_mul_right _ hne
    omega

/-- At the end: the 53 digits. -/
theorem Way.done {x b : Nat} {k : Int} (h : Way x b k) (hx : Fin' x) (hx0 : 0 < mg (rung x)) (h1 : P (52 + B) ≤ V b) (h2 : V b < P (53 + B)) : ∃ m, mg (rung b) = m * 2 ^ B ∧ m < 2 ^ 53 ∧ (k ≠ -1127 → Dec x m k) := by
  have hB := B_eq
  have hbd := h.bounds hx hx0 h2
  rw [V_pos h.pos] at h1 h2
  have hE : E (mg (rung b)) = B := E_at (by unfold P at h1; omega) (by unfold P at h2; omega)
  obtain ⟨m, hm, hm2⟩ := mg_form (rung b)
  rw [hE] at hm
  have l1 : 2 ^ 52 ≤ m := by
    rw [hm] at h1
    unfold P at h1
    rw [Nat.pow_add] at h1
    exact Nat.le_of_mul_le_mul_right (by omega) (Nat.two_pow_pos B)
  have l2 : m < 2 ^ 53 := by
    rw [hm] at h2
    unfold P at h2
    rw [Nat.pow_add] at h2
    exact Nat.lt_of_mul_lt_mul_right (a := 2 ^ B) (by omega)
  refine ⟨m, hm, l2, fun hk => ⟨l1, l2, by omega, by omega, ?_⟩⟩
  have hv := h.val
  rw [hm] at hv
  -- m * 2^B * 2^(k+) = M * 2^(k-)
  have key : mg (rung x) * 2 ^ (-(k + 1074)).toNat * 2 ^ (-k).toNat = m * 2 ^ (k + 1074).toNat * 2 ^ (-k).toNat := by
    rw [Nat.mul_assoc, Nat.mul_comm (2 ^ _), ← Nat.mul_assoc, ← hv, Nat.mul_assoc, Nat.mul_assoc, Nat.mul_assoc m, ← Nat.pow_add, ← Nat.pow_add, ← Nat.pow_add]
    congr 2
    omega
  exact Nat.eq_of_mul_eq_mul_right (Nat.two_pow_pos _) key

end Go.Proofs.Qxb6602321a.Fl
