import Derived.Test.Qxb6602321aFlN
namespace Go.Proofs.Qxb6602321a.Fl
open Go.ChangeShapes Go.WideShapes Go.ChangeAt Go.RowKit
set_option linter.unusedVariables false

/-- Two limbs' share. -/
structure SumIs (a b k M : Nat) : Prop where
  eq : a * 2 ^ (32 * k) + b * 2 ^ (32 * (k + 1)) = M

set_option maxRecDepth 20000 in
set_option maxHeartbeats 400000 in
theorem addScaled_pos (g : Nat) (a : Nat → Nat) (x m : Nat) (e : Int) (w : World) (h : LRow w g a) (hd : Dec x m e) (htot : LV a 70 + mg (rung x) < 2 ^ LB) (hneg : 0 ≤ e + 1074) (he : e ≤ 970) :
    Calls Try.prog 21 #[.slice (some ⟨g, 0, none⟩) 70 70, .int .u64 m, .int .i64 e] w fun e w' => e = .returned (.tuple #[]) ∧ (∃ a', LRow w' g a' ∧ LV a' 70 = LV a 70 + mg (rung x)) ∧ w.grownBy w' (some g) := by
  have hm := hd.hi
  have hb := and_mask m (by omega)
  obtain ⟨M, hM⟩ : ∃ M, M = mg (rung x) := ⟨_, rfl⟩
  rw [← hM] at htot ⊢
  have hv := hd.val
  rw [show (-(e + 1074)).toNat = 0 by omega, Nat.pow_zero, Nat.mul_one, ← hM] at hv
  obtain ⟨k, hk⟩ : ∃ k : Nat, (e + 1074) / 32 = (k : Int) := ⟨((e + 1074) / 32).toNat, by omega⟩
  obtain ⟨off, hoff⟩ : ∃ off : Nat, off = ((e + 1074) % 32).toNat := ⟨_, rfl⟩
  have hsum := split_add (m := m) (M := M) (off := off) (k := k) (pos := (e + 1074).toNat) hv (by omega)
  have hp : 2 ^ off ≤ 2 ^ 31 := Nat.pow_le_pow_right (by omega) (by omega)
  obtain ⟨v1, hv1⟩ : ∃ v1, v1 = m % 2 ^ 32 * 2 ^ off := ⟨_, rfl⟩
  obtain ⟨v2, hv2⟩ : ∃ v2, v2 = m / 2 ^ 32 * 2 ^ off := ⟨_, rfl⟩
  have b1 : v1 < 2 ^ 63 := by
    have h1 : m % 2 ^ 32 * 2 ^ off ≤ m % 2 ^ 32 * 2 ^ 31 := Nat.mul_le_mul_left _ hp
    omega
  have b2 : v2 < 2 ^ 63 := by
    have h1 : m / 2 ^ 32 * 2 ^ off ≤ m / 2 ^ 32 * 2 ^ 31 := Nat.mul_le_mul_left _ hp
    omega
  have pcast : (2 : Int) ^ off = ((2 ^ off : Nat) : Int) := by simp
  have hs1 : IntKind.u64.wrap ((m : Int) % 4294967296 * 2 ^ ((e + 1074) % 32).toNat) = (v1 : Int) := by
    rw [← hoff, pcast]
    have : (m : Int) % 4294967296 * ((2 ^ off : Nat) : Int) = (v1 : Int) := by
      have e1 : ((m % 2 ^ 32 : Nat) : Int) = (m : Int) % 4294967296 := by omega
      rw [hv1, Int.natCast_mul, e1]
    rw [this]; exact wrap_id v1 (by omega)
  have hs2 : IntKind.u64.wrap ((m : Int) / 4294967296 * 2 ^ ((e + 1074) % 32).toNat) = (v2 : Int) := by
    rw [← hoff, pcast]
    have : (m : Int) / 4294967296 * ((2 ^ off : Nat) : Int) = (v2 : Int) := by
      have e1 : ((m / 2 ^ 32 : Nat) : Int) = (m : Int) / 4294967296 := by omega
      rw [hv2, Int.natCast_mul, e1]
    rw [this]; exact wrap_id v2 (by omega)
  rw [← hv1, ← hv2] at hsum
  have hk64 : k ≤ 63 := by omega
  have C1 : Hid (Calls Try.prog 26 #[.slice (some ⟨g, 0, none⟩) 70 70, .int .i64 k, .int .u64 v1] w fun e w' => e = .returned (.tuple #[]) ∧ (∃ a', LRow w' g a' ∧ LV a' 70 = LV a 70 + v1 * 2 ^ (32 * k)) ∧ w.grownBy w' (some g)) :=
    addLimb_any g a k v1 w h b1 (by omega) (by omega)
  have HV2 : Hid (v2 < 2 ^ 63) := b2
  have HSUM : SumIs v1 v2 k M := ⟨hsum⟩
  have HTOT := hide htot
  have HK := hide hk
  have HK64 := hide hk64
  have HS1 := hide hs1
  have HS2 := hide hs2
  clear hv hM hv1 hv2 hsum htot h hd hoff hp pcast b1 b2 hk hs1 hs2
  clear hk64
  go_enter Try.func21, Try.ntmps21
  go_wp2_with fail
  rw [HK.out, HS1.out]
  refine C1.out.mono ?_
  rintro _ w1 ⟨rfl, ⟨a1, h1, l1⟩, g1⟩
  have L1 := hide l1
  have C2 : Hid (Calls Try.prog 26 #[.slice (some ⟨g, 0, none⟩) 70 70, .int .i64 ((k : Int) + 1), .int .u64 v2] w1 fun e w' => e = .returned (.tuple #[]) ∧ (∃ a', LRow w' g a' ∧ LV a' 70 = LV a1 70 + v2 * 2 ^ (32 * (k + 1))) ∧ w1.grownBy w' (some g)) :=
    addLimb_any g a1 (k + 1) v2 w1 h1 HV2.out (by have := HK64.out; omega) (by rw [l1]; have := HSUM.eq; have := HTOT.out; omega)
  clear h1 l1
  go_wp2_with fail
  rw [HK.out, HS2.out]
  refine C2.out.mono ?_
  rintro _ w2 ⟨rfl, ⟨a2, h2, l2⟩, g2⟩
  go_wp2_with fail
  refine bodyPost_end (results_none rfl _ _ _) rfl ?_
  refine ⟨rfl, ⟨a2, h2, ?_⟩, g1.trans g2⟩
  rw [l2, L1.out]
  have := HSUM.eq
  omega

theorem addScaled_any (g : Nat) (a : Nat → Nat) (x m : Nat) (e : Int) (w : World) (h : LRow w g a) (hd : Dec x m e) (htot : LV a 70 + mg (rung x) < 2 ^ LB) (he : e ≤ 970) :
    Calls Try.prog 21 #[.slice (some ⟨g, 0, none⟩) 70 70, .int .u64 m, .int .i64 e] w fun e w' => e = .returned (.tuple #[]) ∧ (∃ a', LRow w' g a' ∧ LV a' 70 = LV a 70 + mg (rung x)) ∧ w.grownBy w' (some g) := by
  by_cases hneg : e + 1074 < 0
  · exact addScaled_neg g a x m e w h hd htot hneg
  · exact addScaled_pos g a x m e w h hd htot (by omega) he

end Go.Proofs.Qxb6602321a.Fl
