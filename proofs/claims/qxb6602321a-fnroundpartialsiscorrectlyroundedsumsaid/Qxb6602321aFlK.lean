import Derived.Test.Qxb6602321aFlJ
namespace Go.Proofs.Qxb6602321a.Fl
open Go.ChangeShapes Go.WideShapes Go.ChangeAt Go.RowKit
set_option linter.unusedVariables false

theorem Ez_T {z : Int} (h1 : z < P T) (h2 : -P T < z) : P (Ez z) ≤ P (T - 53) := by
  have hT := T_eq
  refine P_le (Ez_le ?_ ?_)
  · rw [show 53 + (T - 53) = T by omega]; exact h1
  · rw [show 53 + (T - 53) = T by omega]; exact h2

theorem P_T1 : P T = 2 * P (T - 1) := by
  have hT := T_eq
  rw [← P_succ]; congr 1; omega

theorem P_T53 : P (T - 53) ≤ P (T - 1) := P_le (by omega)

theorem R_near (z : Int) : -P (Ez z) ≤ 2 * (z - R z) ∧ 2 * (z - R z) ≤ P (Ez z) := by
  obtain ⟨q, _, a, b, _⟩ := R_spec z
  exact ⟨a, b⟩

/-- One round of the loop. -/
theorem round_step {p : Nat → Nat} {n i b : Nat} (h : OKp p n) (hi : i + 1 < n) (hb : Fin' b) (hx : Upper p n (i + 1) (V b)) :
    ∃ z d l, Ieee.double.add b (p i) = some z ∧ Ieee.double.sub z b = some d ∧ Ieee.double.sub (p i) d = some l ∧ Fin' z ∧ Fin' l ∧ V z = R (V b + V (p i)) ∧ V l = V b + V (p i) - V z ∧ Upper p n i (V b + V (p i)) ∧ V b + V (p i) ≠ 0 := by
  obtain ⟨hu, hne, _, t, a1, a2, a3, a4⟩ := h.upper_step hi hx
  have hf := h.fin i (by omega)
  have hP1 := P_T1
  have hP53 := P_T53
  have hE := Ez_T hu.lt hu.gt
  obtain ⟨n1, n2⟩ := R_near (V b + V (p i))
  have hPt : P t ≤ P (T - 1) := P_le (by omega)
  have hlt := hu.lt
  have hgt := hu.gt
  obtain ⟨z, hz, fz, vz⟩ := add_R hb hf (by omega) (by omega)
  have hpl := place_le (V_rep b) (hx.ne (by omega)) a3 a1 a2
  obtain ⟨e1, e2⟩ := err_facts (V_rep (p i)) hpl
  obtain ⟨d, hd, fd, vd⟩ := sub_R fz hb (by rw [vz]; omega) (by rw [vz]; omega)
  rw [vz, e1] at vd
  obtain ⟨l, hl, fl, vl⟩ := sub_R hf fd (by rw [vd]; omega) (by rw [vd]; omega)
  have e3 : V (p i) - V d = V b + V (p i) - R (V b + V (p i)) := by rw [vd]; omega
  rw [e3, e2] at vl
  exact ⟨z, d, l, hz, hd, hl, fz, fl, vz, by rw [vl, vz], hu, hne⟩

/-- The tie-break's test. -/
theorem last_step {s : Int} {t z l : Nat} (h : Inx s (V z) t) (hz : Fin' z) (hl : Fin' l) (vl : V l = s - V z) (hlt : s < P T) (hgt : -P T < s) :
    ∃ m x d, Ieee.double.mul l two = some m ∧ Ieee.double.add z m = some x ∧ Ieee.double.sub x z = some d ∧ Fin' m ∧ Fin' x ∧ Fin' d ∧
      (((2 * V l = P (Ez s) ∨ 2 * V l = -P (Ez s)) ∧ V d = V m ∧ V x = V z + 2 * (s - V z)) ∨ (2 * V l < P (Ez s) ∧ -P (Ez s) < 2 * V l ∧ V d ≠ V m)) := by
  have hP1 := P_T1
  have hP53 := P_T53
  have hE := Ez_T hlt hgt
  have hT := T_eq
  have hG := P_pos (Ez s)
  obtain ⟨n1, n2⟩ := R_near s
  rw [← h.hi_eq] at n1 n2
  have hEle : Ez s ≤ T - 53 := by
    refine Ez_le ?_ ?_
    · rw [show 53 + (T - 53) = T by omega]; exact hlt
    · rw [show 53 + (T - 53) = T by omega]; exact hgt
  have h53 : P (53 + Ez s) ≤ P T := P_le (by omega)
  obtain ⟨m, hm, fm, vm⟩ := mul_R hl (by rw [vl]; omega) (by rw [vl]; omega)
  rw [vl] at vm
  -- z + m stays in the binade
  have hzb : V z + 2 * (s - V z) ≤ P (53 + Ez s) ∧ -P (53 + Ez s) ≤ V z + 2 * (s - V z) := by
    have hb := h.binade
    have hd := h.hi_dvd
    have hPt := P_pos t
    have d2 : P (Ez s) ∣ P (53 + Ez s) := P_dvd (by omega)
    have h52 := P_52 (Ez s)
    have h53' := P_53 (Ez s)
    rcases hb with ⟨b1, b2, b3, b4⟩ | ⟨b1, b2, b3, b4⟩
    · refine ⟨?_, by omega⟩
      by_cases e : V z = P (53 + Ez s)
      · omega
      · have := step hG hd d2 (by omega); omega
    · refine ⟨by omega, ?_⟩
      by_cases e : V z = -P (53 + Ez s)
      · omega
      · have := step hG (Int.dvd_neg.2 d2) hd (by omega); omega
  obtain ⟨x, hx, fx, vx⟩ := add_R hz fm (by rw [vm]; omega) (by rw [vm]; omega)
  rw [vm] at vx
  obtain ⟨k1, k2⟩ := R_near (V z + 2 * (s - V z))
  have hE2 : P (Ez (V z + 2 * (s - V z))) ≤ P (T - 52) := by
    refine P_le (Ez_le ?_ ?_)
    · have := P_lt (show 53 + Ez s < 53 + (T - 52) by omega); omega
    · have := P_lt (show 53 + Ez s < 53 + (T - 52) by omega); omega
  have hP52 : P (T - 52) ≤ P (T - 1) := P_le (by omega)
  obtain ⟨d, hd, fd, vd⟩ := sub_R fx hz (by rw [vx]; omega) (by rw [vx]; omega)
  refine ⟨m, x, d, hm, hx, hd, fm, fx, fd, ?_⟩
  rw [vl]
  by_cases tie : 2 * (s - V z) = P (Ez s) ∨ 2 * (s - V z) = -P (Ez s)
  · left
    have hr := h.tie_rep tie
    rw [hr] at vx
    refine ⟨tie, ?_, vx⟩
    rw [vd, vx, vm, show V z + 2 * (s - V z) - V z = V m by rw [vm]; omega, V_rep, vm]
  · right
    refine ⟨by omega, by omega, ?_⟩
    rw [vd, vx, vm]
    exact h.no_tie (by omega) (by omega)

def RpRet (p : Nat → Nat) (n : Nat) (e : Ending) : Prop := ∃ z, e = .returned (.float .f64 z) ∧ Fin' z ∧ V z = R (pre (fun k => V (p k)) n) ∧ (pre (fun k => V (p k)) n = 0 → z = p 0)

theorem rp_zero (ap : Option Addr) (c : Nat) (w : World) : Calls Try.prog 20 #[.slice ap 0 c] w fun e w' => e = .returned (.float .f64 0) ∧ w' = w := by
  go_enter Try.func20, Try.ntmps20
  go_wp2_with fail
  go_ret
  exact ⟨rfl, rfl⟩

end Go.Proofs.Qxb6602321a.Fl
