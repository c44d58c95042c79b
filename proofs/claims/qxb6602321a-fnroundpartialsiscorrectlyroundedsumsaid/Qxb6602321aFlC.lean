import Derived.Test.Qxb6602321aFlB
namespace Go.Proofs.Qxb6602321a.Fl
set_option linter.unusedVariables false

/-! ### Rounding of integers (numbers of units) -/

/-- A power of two, as an integer. -/
def P (k : Nat) : Int := ((2 ^ k : Nat) : Int)
theorem P_pos (k : Nat) : 0 < P k := by unfold P; have := Nat.two_pow_pos k; omega
theorem P_succ (k : Nat) : P (k + 1) = 2 * P k := by unfold P; rw [Nat.pow_succ]; omega
theorem P_add (j k : Nat) : P (j + k) = P j * P k := by unfold P; rw [Nat.pow_add, Int.natCast_mul]
theorem P_dvd {j k : Nat} (h : j ≤ k) : P j ∣ P k := ⟨P (k - j), by rw [← P_add]; congr 1; omega⟩
theorem P_le {j k : Nat} (h : j ≤ k) : P j ≤ P k := by unfold P; have := Nat.pow_le_pow_right (n := 2) (by omega) h; omega
theorem P_lt {j k : Nat} (h : j < k) : P j < P k := by unfold P; have := Nat.pow_lt_pow_right (a := 2) (by omega) h; omega
theorem P_52 (g : Nat) : P (52 + g) = 4503599627370496 * P g := by rw [P_add]; rfl
theorem P_53 (g : Nat) : P (53 + g) = 9007199254740992 * P g := by rw [P_add]; rfl

/-- Multiples lie a step apart. -/
theorem step {G a b : Int} (hG : 0 < G) (ha : G ∣ a) (hb : G ∣ b) (h : a < b) : a + G ≤ b := by
  obtain ⟨p, rfl⟩ := ha
  obtain ⟨q, rfl⟩ := hb
  have : p < q := Int.lt_of_mul_lt_mul_left h (Int.le_of_lt hG)
  have h2 : G * (p + 1) ≤ G * q := Int.mul_le_mul_of_nonneg_left (by omega) (Int.le_of_lt hG)
  rw [Int.mul_add, Int.mul_one] at h2
  exact h2

def R (z : Int) : Int := if z < 0 then -(Rd z.natAbs : Int) else Rd z.natAbs
/-- Its last place. -/
def Ez (z : Int) : Nat := E z.natAbs

theorem R_neg (z : Int) : R (-z) = -R z := by
  unfold R
  rw [Int.natAbs_neg]
  by_cases h0 : z = 0
  · subst h0
    have : Rd 0 = 0 := by unfold Rd RNE; simp
    simp [this]
  · by_cases h : z < 0
    · rw [if_neg (by omega), if_pos h]; omega
    · rw [if_pos (by omega), if_neg h]

theorem rne_spec (n g : Nat) (hg : 0 < g) : ∃ q : Nat, RNE n g = q ∧ -(g : Int) ≤ 2 * ((n : Int) - (q * g : Nat)) ∧ 2 * ((n : Int) - (q * g : Nat)) ≤ g ∧ ((2 * ((n : Int) - (q * g : Nat)) = g ∨ 2 * ((n : Int) - (q * g : Nat)) = -(g : Int)) → q % 2 = 0) := by
  refine ⟨_, rfl, ?_⟩
  unfold RNE
  have hd := Nat.div_add_mod n g
  have hm := Nat.mod_lt n hg
  obtain ⟨k, hk⟩ : ∃ k, k = n / g := ⟨_, rfl⟩
  obtain ⟨r, hr⟩ : ∃ r, r = n % g := ⟨_, rfl⟩
  rw [← hk, ← hr] at hd ⊢
  rw [← hr] at hm
  rw [Nat.mul_comm] at hd
  split
  · rename_i h
    rw [Nat.add_mul, Nat.one_mul]
    obtain ⟨Q, hQ⟩ : ∃ Q, Q = k * g := ⟨_, rfl⟩
    rw [← hQ] at hd ⊢
    refine ⟨by omega, by omega, fun h2 => ?_⟩
    omega
  · rename_i h
    rw [Nat.add_zero]
    obtain ⟨Q, hQ⟩ : ∃ Q, Q = k * g := ⟨_, rfl⟩
    rw [← hQ] at hd ⊢
    refine ⟨by omega, by omega, fun h2 => ?_⟩
    omega

theorem R_spec (z : Int) : ∃ q : Int, R z = q * P (Ez z) ∧ -P (Ez z) ≤ 2 * (z - R z) ∧ 2 * (z - R z) ≤ P (Ez z) ∧ ((2 * (z - R z) = P (Ez z) ∨ 2 * (z - R z) = -P (Ez z)) → q % 2 = 0) := by
  obtain ⟨q, h1, h2, h3, h4⟩ := rne_spec z.natAbs (2 ^ Ez z) (Nat.two_pow_pos _)
  have hq : Rd z.natAbs = q * 2 ^ Ez z := by unfold Rd; unfold Ez at h1; rw [h1]; rfl
  unfold R
  rw [hq]
  obtain ⟨Q, hQ⟩ : ∃ Q, Q = q * 2 ^ Ez z := ⟨_, rfl⟩
  have hQ' : (Q : Int) = (q : Int) * P (Ez z) := by unfold P; rw [hQ, Int.natCast_mul]
  rw [← hQ] at h2 h3 h4 ⊢
  unfold P at hQ' ⊢
  by_cases h : z < 0
  · rw [if_pos h]
    refine ⟨-(q : Int), by rw [Int.neg_mul, ← hQ'], by omega, by omega, fun h5 => ?_⟩
    have := h4 (by omega)
    omega
  · rw [if_neg h]
    refine ⟨q, hQ', by omega, by omega, fun h5 => ?_⟩
    have := h4 (by omega)
    omega

theorem R_dvd (z : Int) : P (Ez z) ∣ R z := by
  obtain ⟨q, h, _⟩ := R_spec z
  rw [h]; exact ⟨q, Int.mul_comm _ _⟩

theorem R_unique {z h q : Int} (hh : h = q * P (Ez z)) (h1 : -P (Ez z) ≤ 2 * (z - h)) (h2 : 2 * (z - h) ≤ P (Ez z)) (h3 : (2 * (z - h) = P (Ez z) ∨ 2 * (z - h) = -P (Ez z)) → q % 2 = 0) : R z = h := by
  obtain ⟨p, hp, a1, a2, a3⟩ := R_spec z
  have hG := P_pos (Ez z)
  by_cases e : p = q
  · rw [hp, e, hh]
  · exfalso
    by_cases lt : p < q
    · have : R z + P (Ez z) ≤ h := step hG ⟨p, by rw [hp, Int.mul_comm]⟩ ⟨q, by rw [hh, Int.mul_comm]⟩ (by rw [hp, hh]; exact Int.mul_lt_mul_of_pos_right lt hG)
      have e1 := a3 (by omega)
      have e2 := h3 (by omega)
      have : q = p + 1 := by
        have h5 : h = R z + P (Ez z) := by omega
        rw [hh, hp] at h5
        have : q * P (Ez z) = (p + 1) * P (Ez z) := by rw [Int.add_mul, Int.one_mul]; exact h5
        exact Int.eq_of_mul_eq_mul_right (by omega) this
      omega
    · have lt : q < p := by omega
      have : h + P (Ez z) ≤ R z := step hG ⟨q, by rw [hh, Int.mul_comm]⟩ ⟨p, by rw [hp, Int.mul_comm]⟩ (by rw [hp, hh]; exact Int.mul_lt_mul_of_pos_right lt hG)
      have e1 := a3 (by omega)
      have e2 := h3 (by omega)
      have : p = q + 1 := by
        have h5 : R z = h + P (Ez z) := by omega
        rw [hh, hp] at h5
        have : p * P (Ez z) = (q + 1) * P (Ez z) := by rw [Int.add_mul, Int.one_mul]; exact h5
        exact Int.eq_of_mul_eq_mul_right (by omega) this
      omega

theorem R_of_dvd {z : Int} (h : P (Ez z) ∣ z) : R z = z := by
  obtain ⟨q, hq⟩ := h
  have hG := P_pos (Ez z)
  exact R_unique (q := q) (by rw [Int.mul_comm]; exact hq) (by omega) (by omega) (fun h => by omega)

theorem Ez_le {z : Int} {k : Nat} (h : z < P (53 + k)) (h' : -P (53 + k) < z) : Ez z ≤ k := by
  by_cases e : Ez z ≤ k
  · exact e
  · have h1 := E_lo (M := z.natAbs) (by unfold Ez at e; omega)
    have h2 : P (53 + k) ≤ P (52 + Ez z) := P_le (by omega)
    unfold P Ez at *
    omega

theorem Ez_at {z : Int} {g : Nat} (h1 : P (52 + g) ≤ z ∨ z ≤ -P (52 + g)) (h2 : z < P (53 + g)) (h3 : -P (53 + g) < z) : Ez z = g := by
  unfold Ez
  apply E_at
  · unfold P at h1; omega
  · unfold P at h2 h3; omega

theorem Ez_hi (z : Int) : z < P (53 + Ez z) ∧ -P (53 + Ez z) < z := by
  have := E_hi z.natAbs
  unfold P Ez
  omega

theorem Ez_lo {z : Int} (h : 0 < Ez z) : P (52 + Ez z) ≤ z ∨ z ≤ -P (52 + Ez z) := by
  have := E_lo (M := z.natAbs) h
  unfold P Ez
  omega

theorem rep_of {z : Int} {k : Nat} (h : P k ∣ z) (h1 : z ≤ P (53 + k)) (h2 : -P (53 + k) ≤ z) : R z = z := by
  apply R_of_dvd
  by_cases e : Ez z ≤ k
  · exact Int.dvd_trans (P_dvd e) h
  · have : z = P (53 + k) ∨ z = -P (53 + k) := by
      by_cases e1 : z < P (53 + k)
      · by_cases e2 : -P (53 + k) < z
        · exact absurd (Ez_le e1 e2) e
        · omega
      · omega
    have hE : Ez z ≤ k + 1 := by
      apply Ez_le
      · have := P_lt (show 53 + k < 53 + (k + 1) by omega)
        have := P_pos (53 + k)
        omega
      · have := P_lt (show 53 + k < 53 + (k + 1) by omega)
        have := P_pos (53 + k)
        omega
    have hd : P (Ez z) ∣ P (53 + k) := P_dvd (by omega)
    rcases this with h3 | h3
    · rw [h3] at hd ⊢; exact hd
    · have hd2 : P (Ez z) ∣ -P (53 + k) := Int.dvd_neg.2 hd
      rw [h3] at hd2 ⊢; exact hd2

theorem R_zero : R 0 = 0 := rep_of (k := 0) ⟨0, by simp⟩ (by have := P_pos (53 + 0); omega) (by have := P_pos (53 + 0); omega)

theorem R_rep_dvd {z : Int} (h : R z = z) : P (Ez z) ∣ z := by
  have := R_dvd z
  rwa [h] at this

/-! ### The error of a sum is exact -/

theorem err_facts {x y : Int} (hy : R y = y) (hx : P (Ez (x + y)) ∣ x) :
    R (R (x + y) - x) = R (x + y) - x ∧ R (x + y - R (x + y)) = x + y - R (x + y) := by
  obtain ⟨s, hs⟩ : ∃ s, s = x + y := ⟨_, rfl⟩
  rw [← hs] at hx ⊢
  obtain ⟨hi, hhi⟩ : ∃ hi, hi = R s := ⟨_, rfl⟩
  rw [← hhi]
  by_cases e : P (Ez s) ∣ s
  · have : hi = s := by rw [hhi]; exact R_of_dvd e
    rw [this]
    refine ⟨?_, ?_⟩
    · rw [show s - x = y by omega]; exact hy
    · rw [Int.sub_self]; exact R_zero
  · obtain ⟨q, hq, a1, a2, a3⟩ := R_spec s
    rw [← hhi] at hq a1 a2 a3
    have hG := P_pos (Ez s)
    have hdy := R_rep_dvd hy
    have hyl : Ez y ≤ Ez s := by
      by_cases h : Ez y ≤ Ez s
      · exact h
      · exfalso
        apply e
        rw [hs]
        refine Int.dvd_add ?_ ?_
        · rw [← hs]; exact hx
        · exact Int.dvd_trans (P_dvd (by rw [← hs]; omega)) hdy
    have hyb := Ez_hi y
    have hyb2 : P (53 + Ez y) ≤ P (53 + Ez s) := P_le (by omega)
    have hhd : P (Ez s) ∣ hi := by rw [hq]; exact ⟨q, Int.mul_comm _ _⟩
    have hd : P (Ez s) ∣ hi - x := Int.dvd_sub hhd hx
    have h53 : P (Ez s) ∣ P (53 + Ez s) := P_dvd (by omega)
    have h53' : P (Ez s) ∣ -P (53 + Ez s) := Int.dvd_neg.2 h53
    refine ⟨rep_of hd ?_ ?_, ?_⟩
    · by_cases h : P (53 + Ez s) < hi - x
      · have := step hG h53 hd h
        omega
      · omega
    · by_cases h : hi - x < -P (53 + Ez s)
      · have := step hG hd h53' h
        omega
      · omega
    · -- |s - hi| ≤ |y|
      have hle : (s - hi ≤ y ∨ s - hi ≤ -y) ∧ (-y ≤ s - hi ∨ y ≤ s - hi) := by
        by_cases h1 : hi = x
        · rw [h1]; omega
        · by_cases h2 : hi < x
          · have := step hG hhd hx h2
            omega
          · have := step hG hx hhd (by omega)
            omega
      have hdl : P (Ez y) ∣ s - hi := by
        have d1 : P (Ez y) ∣ s := by rw [hs]; exact Int.dvd_add (Int.dvd_trans (P_dvd hyl) hx) hdy
        exact Int.dvd_sub d1 (Int.dvd_trans (P_dvd hyl) hhd)
      exact rep_of hdl (by omega) (by omega)

/-- The sum of what lies above and one summand below it: it rounds at a place that what lies above bears. -/
theorem place_le {x y : Int} {t : Nat} (hx : R x = x) (h0 : x ≠ 0) (ht : P t ∣ x) (hy : y < P t) (hy' : -P t < y) : P (Ez (x + y)) ∣ x := by
  refine Int.dvd_trans (P_dvd ?_) (R_rep_dvd hx)
  have hb := Ez_hi x
  have hP := P_pos t
  have htx : P t ≤ x ∨ x ≤ -P t := by
    by_cases h : 0 < x
    · left; have := step hP ⟨0, by simp⟩ ht h; omega
    · right; have := step hP ht ⟨0, by simp⟩ (by omega : x < 0); omega
  have hle : t ≤ 53 + Ez x := by
    by_cases h : t ≤ 53 + Ez x
    · exact h
    · have := P_le (show 53 + Ez x ≤ t by omega)
      omega
  have hd : P t ∣ P (53 + Ez x) := P_dvd hle
  have h1 := step hP ht hd hb.1
  have h2 := step hP (Int.dvd_neg.2 hd) ht hb.2
  apply Ez_le
  · omega
  · omega

end Go.Proofs.Qxb6602321a.Fl
