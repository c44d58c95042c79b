import Derived.Test.Qxb6602321aFlG
import Derived.Laws.Bits64b
namespace Go.Proofs.Qxb6602321a.Fl
open Go.ChangeShapes Go.WideShapes Go.ChangeAt Go.RowKit
set_option linter.unusedVariables false

/-! ### lowestBit -/
def LowRet (m : Nat) (k : Int) (e : Ending) : Prop := ∃ j : Nat, e = .returned (.int .i64 (k + j)) ∧ 2 ^ j ∣ m ∧ j < 64

theorem low_any (m : Nat) (k : Int) (w : World) (hm0 : 0 < m) (hm : m < 2 ^ 53) (hk1 : -1126 ≤ k) (hk2 : k ≤ 2098) : Calls Try.prog 19 #[.int .u64 m, .int .i64 k] w fun e w' => LowRet m k e ∧ w' = w := by
  go_enter Try.func19, Try.ntmps19
  go_wp2_with fail
  go_loopw [0, 1] (fun u v wr => ∃ (q j : Nat), u = .int .u64 q ∧ v = .int .i64 (k + j) ∧ 0 < q ∧ q < 9007199254740992 ∧ j < 64 ∧ Hid (m = q * 2 ^ j) ∧ wr = w) (fun u _ _ => (intOf u).toNat)
  case atStart => exact ⟨m, 0, rfl, by go_num, hm0, by omega, by omega, by show m = m * 2 ^ 0; omega, rfl⟩
  case round =>
    obtain ⟨q, j, rfl, rfl, hq0, hq, hj, HQ, hw⟩ := hrel
    have hw := hw.symm
    subst hw
    have hb : bits .and .u64 (q : Int) 1 = ((q % 2 : Nat) : Int) := by
      have := bits_and_u64_nat q 1 (by omega) (by omega)
      rw [Nat.and_one_is_mod] at this
      exact this
    have hq1 : ((q : Int) != 0) = true := by simp; omega
    by_cases hev : q % 2 = 0
    · rw [hev] at hb
      have hb2 : (bits .and .u64 (q : Int) 1 == 0) = true := by rw [hb]; rfl
      have hall : ((q : Int) != 0 && bits .and .u64 (q : Int) 1 == 0) = true := by rw [hb2, hq1]; rfl
      clear hb
      obtain ⟨p, hp⟩ : ∃ p, q = 2 * p := ⟨q / 2, by omega⟩
      have hj2 : j < 63 := by
        by_cases e : j < 63
        · exact e
        · exfalso
          have h1 := HQ.out
          have h2 : 2 ^ 63 ≤ 2 ^ j := Nat.pow_le_pow_right (by omega) (by omega)
          have h3 : 1 * 2 ^ j ≤ q * 2 ^ j := Nat.mul_le_mul_right _ hq0
          omega
      have HP := hide hp
      clear hp
      go_wp2_with fail
      go_roundw
      case rel =>
        refine ⟨p, j + 1, ?_, by go_num, by have := HP.out; omega, by have := HP.out; omega, by omega, ?_, by trivial⟩
        · have := HP.out
          congr 1
          omega
        · show m = p * 2 ^ (j + 1)
          rw [HQ.out, HP.out, Nat.pow_succ, Nat.mul_comm 2 p, Nat.mul_assoc, Nat.mul_comm 2]
      case measure => simp [intOf]; omega
    · have h1 : q % 2 = 1 := by omega
      rw [h1] at hb
      have hb2 : (bits .and .u64 (q : Int) 1 == 0) = false := by rw [hb]; rfl
      have hall : ((q : Int) != 0 && bits .and .u64 (q : Int) 1 == 0) = false := by rw [hb2, hq1]; rfl
      clear hb
      go_wp2_with fail
      go_ret
      exact ⟨⟨j, rfl, ⟨q, by rw [HQ.out, Nat.mul_comm]⟩, hj⟩, rfl⟩

end Go.Proofs.Qxb6602321a.Fl
