import Derived.Test.Qxb6602321aFlC
namespace Go.Proofs.Qxb6602321a.Fl
set_option linter.unusedVariables false

/-! ### The last rounding: hi, its error lo, and the rest -/

/-- What holds of an inexact sum s, multiple of 2^t, hi its rounding. -/
structure Inx (s hi : Int) (t : Nat) : Prop where
  hi_eq : hi = R s
  ne : s - hi ≠ 0
  dv : P t ∣ s

section
variable {s hi : Int} {t : Nat}

theorem Inx.ndvd (h : Inx s hi t) : ¬ P (Ez s) ∣ s := fun e => h.ne (by rw [h.hi_eq, R_of_dvd e]; omega)

theorem Inx.t_lt (h : Inx s hi t) : t < Ez s := by
  by_cases e : t < Ez s
  · exact e
  · exact absurd (Int.dvd_trans (P_dvd (by omega)) h.dv) h.ndvd

theorem Inx.hi_dvd (h : Inx s hi t) : P (Ez s) ∣ hi := by rw [h.hi_eq]; exact R_dvd s

/-- Where s lies: within its binade, a step from either end; hi within it, ends included, a step apart. -/
theorem Inx.binade (h : Inx s hi t) : (P (52 + Ez s) + P t ≤ s ∧ s + P t ≤ P (53 + Ez s) ∧ P (52 + Ez s) ≤ hi ∧ hi ≤ P (53 + Ez s)) ∨ (s + P t ≤ -P (52 + Ez s) ∧ -P (53 + Ez s) + P t ≤ s ∧ hi ≤ -P (52 + Ez s) ∧ -P (53 + Ez s) ≤ hi) := by
  have ht := h.t_lt
  have hP := P_pos t
  have hG := P_pos (Ez s)
  have hb := Ez_hi s
  have hl := Ez_lo (z := s) (by omega)
  have d1 : P (Ez s) ∣ P (52 + Ez s) := P_dvd (by omega)
  have d2 : P (Ez s) ∣ P (53 + Ez s) := P_dvd (by omega)
  have e1 : P t ∣ P (52 + Ez s) := P_dvd (by omega)
  have e2 : P t ∣ P (53 + Ez s) := P_dvd (by omega)
  obtain ⟨q, _, a1, a2, _⟩ := R_spec s
  rw [← h.hi_eq] at a1 a2
  have hhd := h.hi_dvd
  rcases hl with hl | hl
  · left
    have hne : P (52 + Ez s) < s := by
      by_cases e : P (52 + Ez s) = s
      · exact absurd (by have := d1; rw [e] at this; exact this) h.ndvd
      · omega
    have s1 := step hP e1 h.dv hne
    have s2 := step hP h.dv e2 hb.1
    refine ⟨s1, s2, ?_, ?_⟩
    · by_cases e : P (52 + Ez s) ≤ hi
      · exact e
      · have := step hG hhd d1 (by omega); omega
    · by_cases e : hi ≤ P (53 + Ez s)
      · exact e
      · have := step hG d2 hhd (by omega); omega
  · right
    have hne : s < -P (52 + Ez s) := by
      by_cases e : s = -P (52 + Ez s)
      · exact absurd (by have := Int.dvd_neg.2 d1; rw [← e] at this; exact this) h.ndvd
      · omega
    have s1 := step hP h.dv (Int.dvd_neg.2 e1) hne
    have s2 := step hP (Int.dvd_neg.2 e2) h.dv hb.2
    refine ⟨s1, s2, ?_, ?_⟩
    · by_cases e : hi ≤ -P (52 + Ez s)
      · exact e
      · have := step hG (Int.dvd_neg.2 d1) hhd (by omega); omega
    · by_cases e : -P (53 + Ez s) ≤ hi
      · exact e
      · have := step hG hhd (Int.dvd_neg.2 d2) (by omega); omega

/-- The last place of what differs from s by less than 2^t. -/
theorem Inx.place (h : Inx s hi t) {r : Int} (h1 : r < P t) (h2 : -P t < r) : Ez (s + r) = Ez s := by
  have hb := h.binade
  have := P_pos (52 + Ez s)
  apply Ez_at
  · rcases hb with hb | hb
    · left; omega
    · right; omega
  · have := P_53 (Ez s); have := P_52 (Ez s); omega
  · have := P_53 (Ez s); have := P_52 (Ez s); omega

/-- Short of half a step, by a unit at least. -/
theorem Inx.short (h : Inx s hi t) : (2 * (s - hi) < P (Ez s) → 2 * (s - hi) + 2 * P t ≤ P (Ez s)) ∧ (-P (Ez s) < 2 * (s - hi) → -P (Ez s) + 2 * P t ≤ 2 * (s - hi)) := by
  have ht := h.t_lt
  have hP := P_pos t
  have d1 : P (t + 1) ∣ 2 * (s - hi) := by
    have : P t ∣ s - hi := Int.dvd_sub h.dv (Int.dvd_trans (P_dvd (by omega)) h.hi_dvd)
    obtain ⟨k, hk⟩ := this
    exact ⟨k, by rw [P_succ, hk, Int.mul_assoc]⟩
  have d2 : P (t + 1) ∣ P (Ez s) := P_dvd (by omega)
  have hP2 := P_pos (t + 1)
  have e := P_succ t
  constructor
  · intro h1
    have := step hP2 d1 d2 h1
    omega
  · intro h1
    have := step hP2 (Int.dvd_neg.2 d2) d1 h1
    omega

/-- hi stands: the error is short of half a step, or the rest pulls back, or there is no rest. -/
theorem Inx.stays (h : Inx s hi t) {r : Int} (h1 : r < P t) (h2 : -P t < r) (h3 : r = 0 ∨ (s - hi < 0 ∧ 0 < r) ∨ (0 < s - hi ∧ r < 0) ∨ (2 * (s - hi) < P (Ez s) ∧ -P (Ez s) < 2 * (s - hi))) : R (s + r) = hi := by
  obtain ⟨q, hq, a1, a2, a3⟩ := R_spec s
  rw [← h.hi_eq] at hq a1 a2 a3
  have hpl := h.place h1 h2
  have hsh := h.short
  have hP := P_pos t
  have hG := P_pos (Ez s)
  by_cases h0 : r = 0
  · rw [h0, Int.add_zero]; exact h.hi_eq.symm
  · refine R_unique (q := q) (by rw [hpl]; exact hq) ?_ ?_ (fun hx => ?_)
    · rw [hpl]; omega
    · rw [hpl]; omega
    · rw [hpl] at hx; exfalso; omega

/-- The tie goes to the other neighbour. -/
theorem Inx.turns (h : Inx s hi t) {r : Int} (h1 : r < P t) (h2 : -P t < r) (h3 : (2 * (s - hi) = P (Ez s) ∧ 0 < r) ∨ (2 * (s - hi) = -P (Ez s) ∧ r < 0)) : R (s + r) = hi + 2 * (s - hi) := by
  obtain ⟨q, hq, a1, a2, a3⟩ := R_spec s
  rw [← h.hi_eq] at hq a1 a2 a3
  have hpl := h.place h1 h2
  have hP := P_pos t
  have hG := P_pos (Ez s)
  have htl := P_lt h.t_lt
  rcases h3 with ⟨e, hr⟩ | ⟨e, hr⟩
  · refine R_unique (q := q + 1) ?_ ?_ ?_ (fun hx => ?_)
    · rw [hpl, Int.add_mul, Int.one_mul, ← hq]; omega
    · rw [hpl]; omega
    · rw [hpl]; omega
    · rw [hpl] at hx; exfalso; omega
  · refine R_unique (q := q - 1) ?_ ?_ ?_ (fun hx => ?_)
    · rw [hpl, Int.sub_mul, Int.one_mul, ← hq]; omega
    · rw [hpl]; omega
    · rw [hpl]; omega
    · rw [hpl] at hx; exfalso; omega

/-- At a tie hi + 2 lo is a float. -/
theorem Inx.tie_rep (h : Inx s hi t) (h3 : 2 * (s - hi) = P (Ez s) ∨ 2 * (s - hi) = -P (Ez s)) : R (hi + 2 * (s - hi)) = hi + 2 * (s - hi) := by
  have hb := h.binade
  have hhd := h.hi_dvd
  have hG := P_pos (Ez s)
  have hP := P_pos t
  have d2 : P (Ez s) ∣ P (53 + Ez s) := P_dvd (by omega)
  have hd : P (Ez s) ∣ hi + 2 * (s - hi) := by
    refine Int.dvd_add hhd ?_
    rcases h3 with e | e
    · rw [e]; exact Int.dvd_refl _
    · rw [e]; exact Int.dvd_neg.2 (Int.dvd_refl _)
  have h52 := P_52 (Ez s)
  have h53 := P_53 (Ez s)
  refine rep_of hd ?_ ?_
  · by_cases e : hi + 2 * (s - hi) ≤ P (53 + Ez s)
    · exact e
    · exfalso
      have := step hG d2 hd (by omega)
      omega
  · by_cases e : -P (53 + Ez s) ≤ hi + 2 * (s - hi)
    · exact e
    · exfalso
      have := step hG hd (Int.dvd_neg.2 d2) (by omega)
      omega

/-- Short of a tie it is none. -/
theorem Inx.no_tie (h : Inx s hi t) (h3 : 2 * (s - hi) < P (Ez s)) (h4 : -P (Ez s) < 2 * (s - hi)) : R (R (hi + 2 * (s - hi)) - hi) ≠ 2 * (s - hi) := by
  have hb := h.binade
  have hhd := h.hi_dvd
  have hG := P_pos (Ez s)
  have hP := P_pos t
  have h52 := P_52 (Ez s)
  have h53 := P_53 (Ez s)
  have d1 : P (Ez s) ∣ P (52 + Ez s) := P_dvd (by omega)
  have d2 : P (Ez s) ∣ P (53 + Ez s) := P_dvd (by omega)
  have hne := h.ne
  obtain ⟨z, hz⟩ : ∃ z, z = hi + 2 * (s - hi) := ⟨_, rfl⟩
  rw [← hz]
  have hE : Ez z = Ez s := by
    rcases hb with ⟨b1, b2, b3, b4⟩ | ⟨b1, b2, b3, b4⟩
    · have lo : P (52 + Ez s) ≤ z := by
        by_cases e : hi = P (52 + Ez s)
        · omega
        · have := step hG d1 hhd (by omega); omega
      have up : z < P (53 + Ez s) := by
        by_cases e : hi = P (53 + Ez s)
        · omega
        · have := step hG hhd d2 (by omega); omega
      exact Ez_at (.inl lo) up (by omega)
    · have lo : z ≤ -P (52 + Ez s) := by
        by_cases e : hi = -P (52 + Ez s)
        · omega
        · have := step hG hhd (Int.dvd_neg.2 d1) (by omega); omega
      have up : -P (53 + Ez s) < z := by
        by_cases e : hi = -P (53 + Ez s)
        · omega
        · have := step hG (Int.dvd_neg.2 d2) hhd (by omega); omega
      exact Ez_at (.inr lo) (by omega) up
  obtain ⟨q, hq, a1, a2, a3⟩ := R_spec z
  rw [hE] at hq a1 a2
  have hxd : P (Ez s) ∣ R z := by rw [hq]; exact ⟨q, Int.mul_comm _ _⟩
  have hdd : P (Ez s) ∣ R z - hi := Int.dvd_sub hxd hhd
  have cases3 : R z - hi = 0 ∨ P (Ez s) ≤ R z - hi ∨ R z - hi ≤ -P (Ez s) := by
    by_cases e : R z - hi = 0
    · exact .inl e
    · right
      by_cases e2 : 0 < R z - hi
      · left; have := step hG ⟨0, by simp⟩ hdd e2; omega
      · right; have := step hG hdd ⟨0, by simp⟩ (by omega : R z - hi < 0); omega
  have hrep : R (R z - hi) = R z - hi := rep_of hdd (by omega) (by omega)
  rw [hrep]
  omega

end

end Go.Proofs.Qxb6602321a.Fl
