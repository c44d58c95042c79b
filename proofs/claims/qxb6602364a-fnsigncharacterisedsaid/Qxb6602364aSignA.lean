import Derived.Test.Qxb6602364aRows
import Derived.WalkKit
import Derived.ProofKit
import Derived.OpenShut
import Derived.ShutString
import Derived.WalkSpells
import Derived.WalkLawsBesides
namespace Go.Proofs.Qxb6602364a.Sg
open Go.ChangeShapes Go.WideShapes Go.ChangeAt Go.RowKit
set_option linter.unusedVariables false

/-- What (digits).sign answers. -/
def sg (n a b : Bool) : Int := if a && b then 0 else if n then -1 else 1

theorem empty_iff (a : ByteArray) : a.toList.isEmpty = decide (a.size = 0) := by
  rw [Bool.eq_iff_iff]
  rw [ByteArray.toList_eq, List.isEmpty_iff_length_eq_zero]
  simp

/-- (digits).sign -/
theorem sign_any (n : Bool) (a b : ByteArray) (w : World) (p q : Bool) (ha : a.toList.isEmpty = p) (hb : b.toList.isEmpty = q) :
    Calls Try.prog 12 #[.agg #[.bool n, .string a, .string b]] w fun e w' => e = .returned (.int .i64 (sg n p q)) ∧ Below w.heap.size w w' := by
  cases p <;> cases q <;> cases n
  all_goals
    go_enter Try.func12, Try.ntmps12
    go_wp2
    go_ret
    exact ⟨rfl, (Below.refl _ _).alloc (Nat.le_refl _) _⟩

/-- ZZsign -/
theorem zzsign_any (n : Bool) (a b : ByteArray) (w : World) (p q : Bool) (ha : a.toList.isEmpty = p) (hb : b.toList.isEmpty = q) :
    Calls Try.prog 10 #[.bool n, .string a, .string b] w fun e w' => e = .returned (.int .i64 (sg n p q)) ∧ Below w.heap.size w w' := by
  have HA : Hid (a.toList.isEmpty = p) := ha
  have HB : Hid (b.toList.isEmpty = q) := hb
  clear ha hb
  go_enter Try.func10, Try.ntmps10
  go_wp2_with (go_at_call 12; refine (sign_any n a b _ p q HA.out HB.out).mono ?_; rintro e w' ⟨rfl, hg⟩)
  go_ret
  exact ⟨rfl, by assumption⟩

theorem zz9 (n : Bool) (a b : ByteArray) (w : World) (ha : a.size ≤ maxLen) (hb : b.size ≤ maxLen) :
    Calls Try.prog 9 #[.bool n, .string a, .string b] w fun e w' => e = .returned (.bool (decide (a.size ≤ 1048576 ∧ a.size + b.size ≤ 1048576))) ∧ w' = w := by
  unfold maxLen at ha hb
  by_cases h1 : (a.size : Int) ≤ 1048576
  · by_cases h2 : (b.size : Int) ≤ 1048576
    · by_cases h3 : (a.size : Int) + b.size ≤ 1048576
      · have hd : decide (a.size ≤ 1048576 ∧ a.size + b.size ≤ 1048576) = true := by simp; omega
        rw [hd]
        clear hd
        go_enter Try.func9, Try.ntmps9
        go_wp2
        go_ret
        exact ⟨rfl, rfl⟩
      · have hd : decide (a.size ≤ 1048576 ∧ a.size + b.size ≤ 1048576) = false := by simp; omega
        rw [hd]
        clear hd
        go_enter Try.func9, Try.ntmps9
        go_wp2
        go_ret
        exact ⟨rfl, rfl⟩
    · have hd : decide (a.size ≤ 1048576 ∧ a.size + b.size ≤ 1048576) = false := by simp; omega
      rw [hd]
      clear hd
      go_enter Try.func9, Try.ntmps9
      go_wp2
      go_ret
      exact ⟨rfl, rfl⟩
  · have hd : decide (a.size ≤ 1048576 ∧ a.size + b.size ≤ 1048576) = false := by simp; omega
    rw [hd]
    clear hd
    go_enter Try.func9, Try.ntmps9
    go_wp2
    go_ret
    exact ⟨rfl, rfl⟩

set_option maxHeartbeats 1000000 in
theorem law_sign (n : Bool) (a b : ByteArray) (w : World) (ha : a.size ≤ maxLen) (hb : b.size ≤ maxLen) :
    Calls Try.prog 5 #[.bool n, .string a, .string b] w fun e w' => e = .returned (.bool true) ∧ Below w.heap.size w w' := by
  by_cases hd : a.size ≤ 1048576 ∧ a.size + b.size ≤ 1048576
  · have h1 : (a.size : Int) ≤ 1048576 := by omega
    have h2 : (b.size : Int) ≤ 1048576 := by omega
    have h3 : (a.size : Int) + b.size ≤ 1048576 := by omega
    obtain ⟨p, hp⟩ : ∃ p, a.toList.isEmpty = p := ⟨_, rfl⟩
    obtain ⟨q, hq⟩ : ∃ q, b.toList.isEmpty = q := ⟨_, rfl⟩
    have ep : decide (a.size = 0) = p := by rw [← empty_iff, hp]
    have eq : decide (b.size = 0) = q := by rw [← empty_iff, hq]
    have HP : Hid (a.toList.isEmpty = p) := hp
    have HQ : Hid (b.toList.isEmpty = q) := hq
    have HZ : Hid (decide (a.size ≤ 1048576 ∧ a.size + b.size ≤ 1048576) = true) := by simp [Hid, hd]
    have HA : Hid (a.size ≤ maxLen ∧ b.size ≤ maxLen) := ⟨ha, hb⟩
    clear hp hq hd ha hb
    have hsum : ((a.size : Int) + b.size == 0) = (p && q) := by
      rw [← ep, ← eq, Bool.eq_iff_iff]
      simp only [beq_iff_eq, Bool.and_eq_true, decide_eq_true_eq]
      omega
    clear ep eq
    cases p <;> cases q <;> cases n
    all_goals
      simp only [Bool.and_true, Bool.and_false] at hsum
      go_enter Try.func5, Try.ntmps5
      go_wp2_with fail
      refine (zz9 _ a b _ HA.out.1 HA.out.2).mono ?_
      rintro e w' ⟨rfl, hw⟩
      have hw := hw.symm
      subst hw
      rw [HZ.out]
      go_wp2_with fail
      refine (zzsign_any _ a b _ _ _ HP.out HQ.out).mono ?_
      rintro e w1 ⟨rfl, hb1⟩
      simp only [sg]
      go_wp2_with fail
      refine (zzsign_any _ a b _ _ _ HP.out HQ.out).mono ?_
      rintro e w2 ⟨rfl, hb2⟩
      have HE : Hid (Below w.heap.size w w2) := hb1.trans (hb2.mono hb1.size)
      clear hb1 hb2
      simp only [sg]
      go_wp2_with fail
      go_ret
      exact ⟨rfl, HE.out⟩
  · have HZ : Hid (decide (a.size ≤ 1048576 ∧ a.size + b.size ≤ 1048576) = false) := by simp only [Hid, decide_eq_false_iff_not]; exact hd
    have HA : Hid (a.size ≤ maxLen ∧ b.size ≤ maxLen) := ⟨ha, hb⟩
    clear hd ha hb
    go_enter Try.func5, Try.ntmps5
    go_wp2_with fail
    refine (zz9 _ a b _ HA.out.1 HA.out.2).mono ?_
    rintro e w' ⟨rfl, hw⟩
    have hw := hw.symm
    subst hw
    rw [HZ.out]
    go_wp2_with fail
    go_ret
    exact ⟨rfl, Below.refl _ _⟩

end Go.Proofs.Qxb6602364a.Sg
