import Derived.Test.Qxb6602321aFlI
namespace Go.Proofs.Qxb6602321a.Fl
open Go.ChangeShapes Go.WideShapes Go.ChangeAt Go.RowKit
set_option linter.unusedVariables false

/-! ### Operations as roundings -/

theorem V_rep (b : Nat) : R (V b) = V b := by
  rw [V_eq]
  unfold sgn
  cases sg b with
  | true => simp only [if_true]; rw [R_neg, R_nat, rd_mg]
  | false => simp only [Bool.false_eq_true, if_false]; rw [R_nat, rd_mg]

theorem sgn_R (neg : Bool) (z : Int) (h : z ≠ 0 → neg = decide (z < 0)) : sgn neg (Rd z.natAbs) = R z := by
  by_cases h0 : z = 0
  · subst h0
    rw [R_zero]
    have : Rd (Int.natAbs 0) = 0 := by unfold Rd RNE; simp
    rw [this]; unfold sgn; cases neg <;> simp
  · rw [h h0]
    unfold sgn R
    by_cases e : z < 0
    · simp [e]
    · simp [e]

theorem natAbs_le {z : Int} (h1 : z ≤ P T) (h2 : -P T ≤ z) : z.natAbs ≤ 2 ^ T := by unfold P at h1 h2; omega

theorem add_R {x y : Nat} (hx : Fin' x) (hy : Fin' y) (h1 : V x + V y ≤ P T) (h2 : -P T ≤ V x + V y) : ∃ z, Ieee.double.add x y = some z ∧ Fin' z ∧ V z = R (V x + V y) := by
  refine ⟨_, add_wd hx hy, ?_⟩
  obtain ⟨a, b, _, _⟩ := wd_val (if V x + V y = 0 then sg x && sg y else decide (V x + V y < 0)) (natAbs_le h1 h2)
  refine ⟨a, ?_⟩
  rw [b, sgn_R]
  intro h; rw [if_neg h]

theorem sub_R {x y : Nat} (hx : Fin' x) (hy : Fin' y) (h1 : V x - V y ≤ P T) (h2 : -P T ≤ V x - V y) : ∃ z, Ieee.double.sub x y = some z ∧ Fin' z ∧ V z = R (V x - V y) := by
  refine ⟨_, sub_wd hx hy, ?_⟩
  obtain ⟨a, b, _, _⟩ := wd_val (if V x - V y = 0 then sg x && !sg y else decide (V x - V y < 0)) (natAbs_le h1 h2)
  refine ⟨a, ?_⟩
  rw [b, sgn_R]
  intro h; rw [if_neg h]

theorem mul_R {x : Nat} (hx : Fin' x) (h1 : 2 * V x ≤ P T) (h2 : -P T ≤ 2 * V x) : ∃ z, Ieee.double.mul x two = some z ∧ Fin' z ∧ V z = 2 * V x := by
  have hb : 2 * mg (rung x) ≤ 2 ^ T := by
    rw [← V_natAbs]; unfold P at h1 h2; omega
  obtain ⟨a, b, _, d⟩ := wd_val (sg x) hb
  refine ⟨_, mul_two hx, a, ?_⟩
  rw [b]
  obtain ⟨q, hq, hq2⟩ := mg_form (rung x)
  obtain ⟨g, hg⟩ : ∃ g, g = E (mg (rung x)) := ⟨_, rfl⟩
  rw [← hg] at hq
  rw [rd_of (q := q) (k := g + 1) (by rw [hq, Nat.pow_succ, ← Nat.mul_assoc, Nat.mul_comm 2, Nat.mul_assoc, Nat.mul_comm 2]) hq2, V_eq]
  unfold sgn
  cases sg x <;> simp <;> omega

/-! ### The sums -/

/-- The sum of the first j. -/
def pre (v : Nat → Int) : Nat → Int
  | 0 => 0
  | j + 1 => pre v j + v j

theorem OKp.next {p : Nat → Nat} {n : Nat} (h : OKp p n) {k : Nat} (hk : k + 1 < n) : ∃ t, V (p k) < P t ∧ -P t < V (p k) ∧ P t ∣ V (p (k + 1)) := by
  have conv : ∀ t, mg (rung (p k)) < 2 ^ t → 2 ^ t ∣ mg (rung (p (k + 1))) → V (p k) < P t ∧ -P t < V (p k) ∧ P t ∣ V (p (k + 1)) := by
    intro t h1 h2
    have e := V_natAbs (p k)
    refine ⟨by unfold P; omega, by unfold P; omega, ?_⟩
    have h3 : P t ∣ ((mg (rung (p (k + 1))) : Nat) : Int) := Int.ofNat_dvd.2 h2
    rw [← V_natAbs] at h3
    exact Int.dvd_natAbs.1 h3
  by_cases h0 : V (p k) = 0
  · refine ⟨0, ?_, ?_, ?_⟩
    · rw [h0]; exact P_pos 0
    · rw [h0]; have := P_pos 0; omega
    · have : P 0 = 1 := rfl
      rw [this]; exact Int.one_dvd _
  · obtain ⟨t, h1, h2⟩ := h.ov k hk h0
    exact ⟨t, conv t h1 h2⟩

/-- A power that divides is not beyond. -/
theorem dvd_le {t : Nat} {z : Int} (h : P t ∣ z) (h0 : z ≠ 0) : P t ≤ z ∨ z ≤ -P t := by
  have hP := P_pos t
  by_cases e : 0 < z
  · left; have := step hP ⟨0, by simp⟩ h e; omega
  · right; have := step hP h ⟨0, by simp⟩ (by omega : z < 0); omega

theorem P_inj_le {s t : Nat} (h : P s < P t) : s ≤ t := by
  by_cases e : s ≤ t
  · exact e
  · have := P_le (show t ≤ s by omega); omega

/-- What lies below place i is less than the place. -/
theorem OKp.rest {p : Nat → Nat} {n : Nat} (h : OKp p n) : ∀ i, i + 1 < n → ∀ t, V (p i) < P t → -P t < V (p i) → pre (fun k => V (p k)) (i + 1) < P t ∧ -P t < pre (fun k => V (p k)) (i + 1) ∧
    (V (p i) = 0 → pre (fun k => V (p k)) (i + 1) = 0) ∧ (0 < V (p i) → 0 < pre (fun k => V (p k)) (i + 1)) ∧ (V (p i) < 0 → pre (fun k => V (p k)) (i + 1) < 0) := by
  intro i
  induction i with
  | zero =>
    intro hi t h1 h2
    simp only [pre]
    exact ⟨by omega, by omega, by omega, by omega, by omega⟩
  | succ i ih =>
    intro hi t h1 h2
    obtain ⟨t', a1, a2, a3⟩ := h.next (k := i) (by omega)
    obtain ⟨b1, b2, _⟩ := ih (by omega) t' a1 a2
    have hne := h.nz (i + 1) (by omega) (by omega)
    have hd := dvd_le a3 hne
    have hP := P_pos t
    have hP' := P_pos t'
    have htt : t' ≤ t := P_inj_le (by omega)
    have hdt : P t' ∣ P t := P_dvd htt
    have s1 := step hP' a3 hdt h1
    have s2 := step hP' (Int.dvd_neg.2 hdt) a3 h2
    have e : pre (fun k => V (p k)) (i + 1 + 1) = pre (fun k => V (p k)) (i + 1) + V (p (i + 1)) := rfl
    rw [e]
    refine ⟨by omega, by omega, fun h => absurd h hne, by omega, by omega⟩

/-- What holds of the sum of the partials from i up. -/
structure Upper (p : Nat → Nat) (n i : Nat) (x : Int) : Prop where
  eq : x = pre (fun k => V (p k)) n - pre (fun k => V (p k)) i
  lt : x < P T
  gt : -P T < x
  ne : 0 < i → x ≠ 0
  dv : ∀ t, 0 < i → P t ∣ V (p i) → P t ∣ x

theorem OKp.upper_top {p : Nat → Nat} {n : Nat} (h : OKp p (n + 1)) : Upper p (n + 1) n (V (p n)) := by
  have hm := h.top (by omega)
  rw [Nat.add_sub_cancel] at hm
  have e := V_natAbs (p n)
  have hT := P_pos T
  have hb : V (p n) < P T ∧ -P T < V (p n) := by
    by_cases h0 : V (p n) = 0
    · rw [h0]; omega
    · have := hm h0
      unfold P
      omega
  refine ⟨?_, hb.1, hb.2, fun hi => h.nz n (by omega) hi, fun t _ h => h⟩
  show V (p n) = pre (fun k => V (p k)) n + V (p n) - pre (fun k => V (p k)) n
  omega

/-- One summand down. -/
theorem OKp.upper_step {p : Nat → Nat} {n i : Nat} (h : OKp p n) (hi : i + 1 < n) {x : Int} (hx : Upper p n (i + 1) x) : Upper p n i (x + V (p i)) ∧ x + V (p i) ≠ 0 ∧ (∀ t, P t ∣ V (p (i + 1)) → P t ∣ x) ∧ ∃ t, V (p i) < P t ∧ -P t < V (p i) ∧ P t ∣ x ∧ t < T := by
  obtain ⟨t, a1, a2, a3⟩ := h.next hi
  have hxne := hx.ne (by omega)
  have hd : P t ∣ x := hx.dv t (by omega) a3
  have hle := dvd_le hd hxne
  have hP := P_pos t
  have hlt := hx.lt
  have hgt := hx.gt
  have hPt : P t < P T := by omega
  have htT : t ≤ T := P_inj_le hPt
  have hdT : P t ∣ P T := P_dvd htT
  have s1 := step hP hd hdT hlt
  have s2 := step hP (Int.dvd_neg.2 hdT) hd hgt
  have hne : x + V (p i) ≠ 0 := by omega
  refine ⟨⟨?_, by omega, by omega, fun _ => hne, fun t' h0 hd' => ?_⟩, hne, fun t' hd' => hx.dv t' (by omega) hd', t, a1, a2, hd, ?_⟩
  · rw [hx.eq]
    have e : pre (fun k => V (p k)) (i + 1) = pre (fun k => V (p k)) i + V (p i) := rfl
    omega
  · have hvi := h.nz i (by omega) h0
    have := dvd_le hd' hvi
    have htt : t' ≤ t := P_inj_le (by omega)
    exact Int.dvd_add (Int.dvd_trans (P_dvd htt) hd) hd'
  · by_cases e : t < T
    · exact e
    · have : t = T := by omega
      rw [this] at hPt; omega

end Go.Proofs.Qxb6602321a.Fl
