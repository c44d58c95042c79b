import Derived.Test.Qxb6602321aFlM
namespace Go.Proofs.Qxb6602321a.Fl
open Go.ChangeShapes Go.WideShapes Go.ChangeAt Go.RowKit
set_option linter.unusedVariables false

theorem split_add {m M off k pos : Nat} (hM : M = m * 2 ^ pos) (hpos : pos = off + 32 * k) : m % 2 ^ 32 * 2 ^ off * 2 ^ (32 * k) + m / 2 ^ 32 * 2 ^ off * 2 ^ (32 * (k + 1)) = M := by
  have h1 : m = m / 2 ^ 32 * 2 ^ 32 + m % 2 ^ 32 := by omega
  rw [hM, hpos, Nat.pow_add, show 32 * (k + 1) = 32 + 32 * k by omega, Nat.pow_add 2 32]
  conv => rhs; rw [h1]
  rw [Nat.add_mul, Nat.add_comm]
  congr 1
  · rw [Nat.mul_assoc, Nat.mul_assoc, Nat.mul_left_comm (2 ^ off)]
  · rw [Nat.mul_assoc]

theorem and_mask (m : Nat) (hm : m < 9223372036854775808) : bits .and .u64 (m : Int) 4294967295 = ((m % 2 ^ 32 : Nat) : Int) := by
  have := bits_and_u64_nat m 4294967295 (by omega) (by omega)
  rw [show (4294967295 : Nat) = 2 ^ 32 - 1 from rfl, Nat.and_two_pow_sub_one_eq_mod] at this
  exact this

theorem wrap_id (v : Nat) (hv : v < 18446744073709551616) : IntKind.u64.wrap (v : Int) = v := by
  rw [IntKind.wrap_u64]
  omega

set_option maxRecDepth 20000 in
theorem addScaled_neg (g : Nat) (a : Nat → Nat) (x m : Nat) (e : Int) (w : World) (h : LRow w g a) (hd : Dec x m e) (htot : LV a 70 + mg (rung x) < 2 ^ LB) (hneg : e + 1074 < 0) :
    Calls Try.prog 21 #[.slice (some ⟨g, 0, none⟩) 70 70, .int .u64 m, .int .i64 e] w fun e w' => e = .returned (.tuple #[]) ∧ (∃ a', LRow w' g a' ∧ LV a' 70 = LV a 70 + mg (rung x)) ∧ w.grownBy w' (some g) := by
  have hm := hd.hi
  have hkl := hd.kl
  obtain ⟨M, hM⟩ : ∃ M, M = mg (rung x) := ⟨_, rfl⟩
  rw [← hM] at htot ⊢
  have hv := hd.val
  rw [show (e + 1074).toNat = 0 by omega, Nat.pow_zero, Nat.mul_one, ← hM] at hv
  have hMlt : M < 2 ^ 53 := by
    have h1 : M * 1 ≤ M * 2 ^ (-(e + 1074)).toNat := Nat.mul_le_mul_left _ (Nat.two_pow_pos _)
    omega
  have hdiv : (m : Int) / 2 ^ (-(e + 1074)).toNat = (M : Int) := by
    rw [← hv]
    have hp : (2 : Int) ^ (-(e + 1074)).toNat = ((2 ^ (-(e + 1074)).toNat : Nat) : Int) := by simp
    rw [hp, ← Int.natCast_ediv, Nat.mul_div_cancel _ (Nat.two_pow_pos _)]
  have hb := and_mask M (by omega)
  obtain ⟨v1, hv1⟩ : ∃ v1, v1 = M % 2 ^ 32 := ⟨_, rfl⟩
  obtain ⟨v2, hv2⟩ : ∃ v2, v2 = M / 2 ^ 32 := ⟨_, rfl⟩
  rw [← hv1] at hb
  have hw1 := wrap_id v1 (by omega)
  have hsum := split_add (m := M) (M := M) (off := 0) (k := 0) (pos := 0) (by simp) rfl
  rw [← hv1, ← hv2] at hsum
  simp only [Nat.pow_zero, Nat.mul_one, Nat.mul_zero, Nat.zero_add] at hsum
  have hq : (M : Int) / 4294967296 = (v2 : Int) := by rw [hv2]; omega
  have hw2 := wrap_id v2 (by omega)
  have C1 : Hid (Calls Try.prog 26 #[.slice (some ⟨g, 0, none⟩) 70 70, .int .i64 (0 : Nat), .int .u64 v1] w fun e w' => e = .returned (.tuple #[]) ∧ (∃ a', LRow w' g a' ∧ LV a' 70 = LV a 70 + v1 * 2 ^ (32 * 0)) ∧ w.grownBy w' (some g)) :=
    addLimb_any g a 0 v1 w h (by omega) (by omega) (by simp only [Nat.mul_zero, Nat.pow_zero, Nat.mul_one]; omega)
  have HV2 : Hid (v2 < 2 ^ 63) := by show v2 < 2 ^ 63; omega
  have HSUM := hide hsum
  have HTOT := hide htot
  clear hv hM hv1 hv2 hsum htot h hd hMlt
  go_enter Try.func21, Try.ntmps21
  go_wp2_with fail
  refine C1.out.mono ?_
  rintro _ w1 ⟨rfl, ⟨a1, h1, l1⟩, g1⟩
  have L1 := hide l1
  have C2 : Hid (Calls Try.prog 26 #[.slice (some ⟨g, 0, none⟩) 70 70, .int .i64 (1 : Nat), .int .u64 v2] w1 fun e w' => e = .returned (.tuple #[]) ∧ (∃ a', LRow w' g a' ∧ LV a' 70 = LV a1 70 + v2 * 2 ^ (32 * 1)) ∧ w1.grownBy w' (some g)) :=
    addLimb_any g a1 1 v2 w1 h1 HV2.out (by omega) (by rw [l1]; have := HSUM.out; have := HTOT.out; simp only [Nat.mul_zero, Nat.pow_zero, Nat.mul_one] at *; omega)
  clear h1 l1
  go_wp2_with fail
  refine C2.out.mono ?_
  rintro _ w2 ⟨rfl, ⟨a2, h2, l2⟩, g2⟩
  go_wp2_with fail
  refine bodyPost_end (results_none rfl _ _ _) rfl ?_
  refine ⟨rfl, ⟨a2, h2, ?_⟩, g1.trans g2⟩
  rw [l2, L1.out]
  have := HSUM.out
  simp only [Nat.mul_zero, Nat.pow_zero, Nat.mul_one] at *
  omega

end Go.Proofs.Qxb6602321a.Fl
