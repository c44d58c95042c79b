import Derived.WalkKit
namespace Go.Proofs.Qxb6602364a.Dg

/-- Is it one of the digits? -/
def isD (c : UInt8) : Bool := decide (48 ≤ c.toNat) && decide (c.toNat ≤ 57)

/-- How many of 'l' are one of the first j digits. -/
def cntTo (l : List UInt8) (j : Nat) : Nat := l.countP fun c => decide (48 ≤ c.toNat) && decide (c.toNat < 48 + j)
/-- How many of 'l' are the digit j. -/
def cntAt (l : List UInt8) (j : Nat) : Nat := l.countP fun c => decide (c.toNat = 48 + j)

theorem cntTo_zero (l : List UInt8) : cntTo l 0 = 0 := by
  unfold cntTo
  rw [List.countP_eq_zero]
  intro c _
  simp

theorem cntTo_succ (l : List UInt8) (j : Nat) : cntTo l (j + 1) = cntTo l j + cntAt l j := by
  unfold cntTo cntAt
  induction l with
  | nil => rfl
  | cons c l ih =>
    simp only [List.countP_cons, ih]
    by_cases h1 : c.toNat = 48 + j
    · simp [h1]; omega
    · by_cases h2 : 48 ≤ c.toNat ∧ c.toNat < 48 + j
      · have : (48 ≤ c.toNat ∧ c.toNat < 48 + (j + 1)) := by omega
        simp [h1, h2.1, h2.2, this.2]; omega
      · have : ¬ (48 ≤ c.toNat ∧ c.toNat < 48 + (j + 1)) := by omega
        simp only [← Bool.decide_and, h1, h2, this]
        simp

theorem cntTo_le (l : List UInt8) (j : Nat) : cntTo l j ≤ l.length := List.countP_le_length
theorem cntAt_le (l : List UInt8) (j : Nat) : cntAt l j ≤ l.length := List.countP_le_length

theorem cntTo_ten (l : List UInt8) : (cntTo l 10 = l.length) ↔ l.all isD = true := by
  unfold cntTo
  rw [List.countP_eq_length, List.all_eq_true]
  constructor
  · intro h c hc
    have := h c hc
    simp [isD] at this ⊢; omega
  · intro h c hc
    have := h c hc
    simp [isD] at this ⊢; omega

theorem cntAt_take (l : List UInt8) (j k : Nat) (h : k < l.length) : cntAt (l.take (k + 1)) j = cntAt (l.take k) j + if l[k].toNat = 48 + j then 1 else 0 := by
  unfold cntAt
  rw [List.take_succ_eq_append_getElem h, List.countP_append]
  simp [List.countP_cons]

end Go.Proofs.Qxb6602364a.Dg
