import Derived.Test.Qxb6601898aRows
import Derived.WalkKit
import Derived.ProofKit
import Derived.OpenShut
import Derived.ShutString
import Derived.ChangeOld
import Derived.Below
import Derived.WalkSpells
import Derived.WalkLawsBesides
import Derived.Deep.QuietTactic
import Derived.BigQuiet
namespace Go.Proofs.Qxb6601898a.Ed
open Go.ChangeShapes Go.WideShapes Go.ChangeAt Go.RowKit
set_option linter.unusedVariables false

/-- It answers some bool that meets R. -/
def RetB (R : Bool → Prop) (e : Ending) : Prop := ∃ r, e = .returned (.bool r) ∧ R r

theorem RetB.mk {R : Bool → Prop} (r : Bool) (h : R r) : RetB R (.returned (.bool r)) := ⟨r, rfl, h⟩

set_option maxHeartbeats 400000 in
theorem zz7 (a0 a1 a2 : Option Addr) (n0 c0 n1 c1 n2 c2 : Nat) (s b : Int) (w : World) (h0 : n0 ≤ maxLen) (h1 : n1 ≤ maxLen) (h2 : n2 ≤ maxLen) :
    Calls Try.prog 7 #[.slice a0 n0 c0, .slice a1 n1 c1, .slice a2 n2 c2, .int .i32 s, .int .u8 b] w fun e w' => RetB (fun _ => True) e ∧ w' = w := by
  unfold maxLen at h0 h1 h2
  go_enter Try.func7, Try.ntmps7
  go_wp2
  all_goals (go_ret; exact ⟨RetB.mk _ trivial, rfl⟩)

set_option maxHeartbeats 400000 in
theorem zz10 (a0 a1 a2 : Option Addr) (n0 c0 n1 c1 n2 c2 : Nat) (s : Int) (w : World) (h0 : n0 ≤ maxLen) (h1 : n1 ≤ maxLen) (h2 : n2 ≤ maxLen) :
    Calls Try.prog 10 #[.slice a0 n0 c0, .slice a1 n1 c1, .slice a2 n2 c2, .int .i32 s] w fun e w' => RetB (fun _ => True) e ∧ w' = w := by
  unfold maxLen at h0 h1 h2
  go_enter Try.func10, Try.ntmps10
  go_wp2
  all_goals (go_ret; exact ⟨RetB.mk _ trivial, rfl⟩)

/-- What 'edgeRowInDomain' says yes to. -/
def Dom (n0 n1 n2 : Nat) (s : Int) (lo hi : Int) (y : Nat → Int) : Prop :=
  0 ≤ s ∧ s + 1 < n0 ∧ (hi ≤ lo ∨ (0 ≤ lo ∧ hi ≤ n1 ∧ hi ≤ n2 ∧ ∀ i : Nat, lo ≤ i → (i : Int) + 1 < hi → y i ≤ y (i + 1)))

/-- Outside 0 .. n0 - 2: no. -/
theorem dom_out (a0 a1 a2 : Option Addr) (n0 c0 n1 c1 n2 c2 : Nat) (s : Int) (w : World) (h0 : n0 ≤ maxLen) (hs : -2147483648 ≤ s ∧ s ≤ 2147483647) (h : s < 0 ∨ (n0 : Int) - 1 ≤ s) :
    Calls Try.prog 8 #[.slice a0 n0 c0, .slice a1 n1 c1, .slice a2 n2 c2, .int .i32 s] w fun e w' => e = .returned (.bool false) ∧ w' = w := by
  unfold maxLen at h0
  obtain ⟨hs1, hs2⟩ := hs
  by_cases g : s < 0
  · clear h
    go_enter Try.func8, Try.ntmps8
    go_wp2
    go_ret; exact ⟨rfl, rfl⟩
  · have h' : (n0 : Int) - 1 ≤ s := by omega
    clear h
    go_enter Try.func8, Try.ntmps8
    go_wp2
    go_ret; exact ⟨rfl, rfl⟩

/-- An empty or turned range: yes. -/
theorem dom_empty (a1 a2 : Option Addr) (b0 o0 n0 c0 n1 c1 n2 c2 k : Nat) (lo hi : Int) (w : World) (h0 : n0 ≤ maxLen) (hk : k + 1 < n0) (hk2 : k < 2147483647)
    (hlo : w.cell? ⟨b0, o0 + k, none⟩ = some (.int .i32 lo)) (hhi : w.cell? ⟨b0, o0 + (k + 1), none⟩ = some (.int .i32 hi))
    (blo : -2147483648 ≤ lo ∧ lo ≤ 2147483647) (bhi : -2147483648 ≤ hi ∧ hi ≤ 2147483647) (h : hi ≤ lo) :
    Calls Try.prog 8 #[.slice (some ⟨b0, o0, none⟩) n0 c0, .slice a1 n1 c1, .slice a2 n2 c2, .int .i32 k] w fun e w' => e = .returned (.bool true) ∧ w' = w := by
  unfold maxLen at h0
  obtain ⟨blo1, blo2⟩ := blo
  obtain ⟨bhi1, bhi2⟩ := bhi
  go_enter Try.func8, Try.ntmps8
  go_wp2
  go_ret; exact ⟨rfl, rfl⟩

/-- A range that leaves the two rows: no. -/
theorem dom_off (a1 a2 : Option Addr) (b0 o0 n0 c0 n1 c1 n2 c2 k : Nat) (lo hi : Int) (w : World) (h0 : n0 ≤ maxLen) (h1 : n1 ≤ maxLen) (h2 : n2 ≤ maxLen) (hk : k + 1 < n0) (hk2 : k < 2147483647)
    (hlo : w.cell? ⟨b0, o0 + k, none⟩ = some (.int .i32 lo)) (hhi : w.cell? ⟨b0, o0 + (k + 1), none⟩ = some (.int .i32 hi))
    (blo : -2147483648 ≤ lo ∧ lo ≤ 2147483647) (bhi : -2147483648 ≤ hi ∧ hi ≤ 2147483647) (h : lo < hi) (g : lo < 0 ∨ (n1 : Int) < hi ∨ (n2 : Int) < hi) :
    Calls Try.prog 8 #[.slice (some ⟨b0, o0, none⟩) n0 c0, .slice a1 n1 c1, .slice a2 n2 c2, .int .i32 k] w fun e w' => e = .returned (.bool false) ∧ w' = w := by
  unfold maxLen at h0 h1 h2
  obtain ⟨blo1, blo2⟩ := blo
  obtain ⟨bhi1, bhi2⟩ := bhi
  by_cases g1 : lo < 0
  · clear g
    go_enter Try.func8, Try.ntmps8
    go_wp2
    go_ret; exact ⟨rfl, rfl⟩
  · by_cases g2 : (n1 : Int) < hi
    · clear g
      go_enter Try.func8, Try.ntmps8
      go_wp2
      go_ret; exact ⟨rfl, rfl⟩
    · have g3 : (n2 : Int) < hi := by omega
      clear g
      go_enter Try.func8, Try.ntmps8
      go_wp2
      go_ret; exact ⟨rfl, rfl⟩

set_option maxHeartbeats 1000000 in
/-- A range within the two rows: yes where its bytes are in order. -/
theorem dom_in (a2 : Option Addr) (b0 o0 n0 c0 b1 o1 n1 c1 n2 c2 k : Nat) (l h : Nat) (y : Nat → Int) (w : World) (h0 : n0 ≤ maxLen) (h1 : n1 ≤ maxLen) (h2 : n2 ≤ maxLen) (hk : k + 1 < n0) (hk2 : k < 2147483647)
    (hlo : w.cell? ⟨b0, o0 + k, none⟩ = some (.int .i32 l)) (hhi : w.cell? ⟨b0, o0 + (k + 1), none⟩ = some (.int .i32 h))
    (bh : h ≤ 2147483647) (hlt : l < h) (g1 : h ≤ n1) (g2 : h ≤ n2) (hy : ∀ i, i < n1 → w.cell? ⟨b1, o1 + i, none⟩ = some (.int .u8 (y i))) :
    Calls Try.prog 8 #[.slice (some ⟨b0, o0, none⟩) n0 c0, .slice (some ⟨b1, o1, none⟩) n1 c1, .slice a2 n2 c2, .int .i32 k] w fun e w' => RetB (fun r => r = true → ∀ i : Nat, l ≤ i → i + 1 < h → y i ≤ y (i + 1)) e ∧ ∃ n, w' = w.drewN n := by
  unfold maxLen at h0 h1 h2
  go_enter Try.func8, Try.ntmps8
  go_wp2
  go_loopw [11] (fun i wr => ∃ j : Nat, l ≤ j ∧ j < h ∧ i = .int .i64 j ∧ (∀ i : Nat, l ≤ i → i + 1 ≤ j → y i ≤ y (i + 1)) ∧ ∃ n, wr = w.drewN n) (fun i _ => h - (intOf i).toNat)
  case atStart => exact ⟨l, Nat.le_refl _, hlt, rfl, fun i a b => by omega, 0, rfl⟩
  case round =>
    obtain ⟨j, hj1, hj2, rfl, hs, n, rfl⟩ := hrel
    have HS : Hid (∀ i : Nat, l ≤ i → i + 1 ≤ j → y i ≤ y (i + 1)) := hs
    clear hs
    by_cases hl : j + 1 < h
    · have c1 := hy j (by omega)
      have c2 := hy (j + 1) (by omega)
      clear hy hlo hhi
      go_wp2
      go_quiet (fail)
      go_wp2
      · go_ret
        exact ⟨RetB.mk _ (by intro h; cases h), n + nq, by simp⟩
      · go_roundw
        case rel =>
          refine ⟨j + 1, by omega, by omega, by go_num, fun i a b => ?_, _, rfl⟩
          by_cases e : i = j
          · subst e; assumption
          · exact HS.out i a (by omega)
        case measure => simp [intOf]; omega
    · clear hy hlo hhi
      go_wp2
      go_ret
      exact ⟨RetB.mk _ fun _ i a b => HS.out i a (by omega), _, rfl⟩

end Go.Proofs.Qxb6601898a.Ed
