import Derived.Test.Qxb6602321aFlL
namespace Go.Proofs.Qxb6602321a.Fl
open Go.ChangeShapes Go.WideShapes Go.ChangeAt Go.RowKit
set_option linter.unusedVariables false

/-! ### Limbs -/

/-- The number in n limbs of 32 bits. -/
def LV (a : Nat → Nat) : Nat → Nat
  | 0 => 0
  | n + 1 => LV a n + a n * 2 ^ (32 * n)

def upd (a : Nat → Nat) (k v : Nat) : Nat → Nat := fun i => if i = k then v else a i

theorem LV_congr {a b : Nat → Nat} : ∀ {n : Nat}, (∀ i, i < n → a i = b i) → LV a n = LV b n := by
  intro n
  induction n with
  | zero => intro _; rfl
  | succ n ih =>
    intro h
    show LV a n + a n * _ = LV b n + b n * _
    rw [ih (fun i hi => h i (by omega)), h n (by omega)]

theorem LV_upd {a : Nat → Nat} {k v : Nat} : ∀ {n : Nat}, k < n → LV (upd a k v) n + a k * 2 ^ (32 * k) = LV a n + v * 2 ^ (32 * k) := by
  intro n
  induction n with
  | zero => intro h; omega
  | succ n ih =>
    intro h
    show LV (upd a k v) n + upd a k v n * 2 ^ (32 * n) + _ = LV a n + a n * 2 ^ (32 * n) + _
    by_cases e : k = n
    · subst e
      have h1 : LV (upd a k v) k = LV a k := LV_congr (fun i hi => by unfold upd; rw [if_neg (by omega)])
      have h2 : upd a k v k = v := by unfold upd; rw [if_pos rfl]
      rw [h1, h2]; omega
    · have h1 := ih (by omega)
      have h2 : upd a k v n = a n := by unfold upd; rw [if_neg (fun h => e h.symm)]
      rw [h2]; omega

theorem LV_lt {a : Nat → Nat} : ∀ {n : Nat}, (∀ i, i < n → a i < 2 ^ 32) → LV a n < 2 ^ (32 * n) := by
  intro n
  induction n with
  | zero => intro _; show 0 < 1; omega
  | succ n ih =>
    intro h
    have h1 := ih (fun i hi => h i (by omega))
    have h2 := h n (by omega)
    show LV a n + a n * 2 ^ (32 * n) < _
    rw [show 32 * (n + 1) = 32 + 32 * n by omega, Nat.pow_add]
    have h3 : (a n + 1) * 2 ^ (32 * n) ≤ 2 ^ 32 * 2 ^ (32 * n) := Nat.mul_le_mul_right _ (by omega)
    rw [Nat.add_mul, Nat.one_mul] at h3
    omega

/-- The limbs' bits in all. -/
def LB : Nat := veil 2240 0
theorem LB_eq : LB = 32 * 70 := by unfold LB; rw [veil_eq]

structure LRow (w : World) (g : Nat) (a : Nat → Nat) : Prop where
  row : w.rowIs g 31 70 (fun i => .int .u64 (a i))
  lt : ∀ i, i < 70 → a i < 2 ^ 32

theorem LRow.set {w : World} {g : Nat} {a : Nat → Nat} (h : LRow w g a) (k : Nat) {v : Nat} (hv : v < 2 ^ 32) : LRow (w.setCell ⟨g, k, none⟩ (.int .u64 v)) g (upd a k v) := by
  refine ⟨(h.row.set k _).congr (fun i hi => ?_), fun i hi => ?_⟩
  · show (if i = k then _ else _) = Value.int .u64 ((upd a k v i : Nat) : Int)
    unfold upd
    split <;> rfl
  · unfold upd
    split
    · exact hv
    · exact h.lt i hi

theorem grown_set (w : World) (a : Addr) (u : Value) : w.grownBy (w.setCell a u) (some a.block) :=
  ⟨rfl, rfl, rfl, by simp [World.setCell], fun k _ hk => Below.heap_setCell _ _ _ _ (fun e => hk (by rw [e]))⟩

theorem carry {a v t P L L' : Nat} (ht : t = a + v) (h : L' + a * P = L + t % 2 ^ 32 * P) : L' + t / 2 ^ 32 * (2 ^ 32 * P) = L + v * P := by
  have h1 : t = t / 2 ^ 32 * 2 ^ 32 + t % 2 ^ 32 := by omega
  have h2 : t * P = t / 2 ^ 32 * (2 ^ 32 * P) + t % 2 ^ 32 * P := by
    conv => lhs; rw [h1]
    rw [Nat.add_mul, Nat.mul_assoc]
  rw [ht, Nat.add_mul, ← ht] at h2
  omega

set_option maxRecDepth 20000 in
theorem addLimb_any (g : Nat) (a : Nat → Nat) (k v : Nat) (w : World) (h : LRow w g a) (hv : v < 2 ^ 63) (hk : k ≤ 70) (htot : LV a 70 + v * 2 ^ (32 * k) < 2 ^ LB) :
    Calls Try.prog 26 #[.slice (some ⟨g, 0, none⟩) 70 70, .int .i64 k, .int .u64 v] w fun e w' => e = .returned (.tuple #[]) ∧ (∃ a', LRow w' g a' ∧ LV a' 70 = LV a 70 + v * 2 ^ (32 * k)) ∧ w.grownBy w' (some g) := by
  obtain ⟨tot, ht⟩ : ∃ tot, tot = LV a 70 + v * 2 ^ (32 * k) := ⟨_, rfl⟩
  rw [← ht] at htot ⊢
  have HT := hide htot
  have HS : Hid (LRow w g a ∧ LV a 70 + v * 2 ^ (32 * k) = tot) := ⟨h, ht.symm⟩
  clear h ht htot
  go_enter Try.func26, Try.ntmps26
  go_wp2_with fail
  go_loopw [1, 2] (fun x y wr => ∃ (k v : Nat) (a : Nat → Nat), x = .int .i64 k ∧ y = .int .u64 v ∧ k ≤ 70 ∧ v < 9223372036854775808 ∧ Hid (LRow wr g a ∧ LV a 70 + v * 2 ^ (32 * k) = tot) ∧ Hid (w.grownBy wr (some g))) (fun x _ _ => 70 - (intOf x).toNat)
  case atStart => exact ⟨k, v, a, rfl, rfl, hk, by omega, HS, ⟨rfl, rfl, rfl, Nat.le_refl _, fun _ _ _ => rfl⟩⟩
  case round =>
    obtain ⟨k, v, a, rfl, rfl, hk, hv, HS, G⟩ := hrel
    by_cases hv0 : v = 0
    · subst hv0
      have hv1 : (((0 : Nat) : Int) != 0) = false := rfl
      go_wp2_with fail
      refine bodyPost_end (results_none rfl _ _ _) rfl ?_
      exact ⟨rfl, ⟨a, HS.out.1, by have := HS.out.2; omega⟩, G.out⟩
    · have hv1 : ((v : Int) != 0) = true := by simp; omega
      by_cases hlt : k < 70
      · have c1 : wr.cell? ⟨g, k, none⟩ = some (.int .u64 (a k)) := HS.out.1.row.cell hlt
        have f1 := HS.out.1.row.frozen k
        have ha := HS.out.1.lt k hlt
        obtain ⟨t, ht⟩ : ∃ t, t = a k + v := ⟨_, rfl⟩
        have hb : bits .and .u64 ((a k : Int) + v) 4294967295 = ((t % 4294967296 : Nat) : Int) := by
          have := bits_and_u64_nat t 4294967295 (by omega) (by omega)
          rw [show (4294967295 : Nat) = 2 ^ 32 - 1 from rfl, Nat.and_two_pow_sub_one_eq_mod] at this
          rw [ht] at this ⊢
          rw [← Int.natCast_add]
          exact this
        have HT2 := hide ht
        have HV0 := hide hv0
        clear ht hv0
        go_wp2_with fail
        go_roundw
        case rel =>
          refine ⟨k + 1, t / 2 ^ 32, upd a k (t % 2 ^ 32), by go_num, ?_, by omega, ?_, ⟨HS.out.1.set k (Nat.mod_lt _ (by decide)), ?_⟩, ?_⟩
          · have := HT2.out
            congr 1
            omega
          · have := HT2.out
            omega
          · have h1 := LV_upd (a := a) (k := k) (v := t % 2 ^ 32) hlt
            have h2 := HS.out.2
            rw [show 32 * (k + 1) = 32 + 32 * k by omega, Nat.pow_add, carry HT2.out h1]
            exact h2
          · exact G.out.trans (grown_set wr ⟨g, k, none⟩ _)
        case measure => simp [intOf]; omega
      · exfalso
        have hk70 : k = 70 := by omega
        have h2 := HS.out.2
        have h3 := HT.out
        rw [hk70, ← LB_eq] at h2
        have h4 : 1 * 2 ^ LB ≤ v * 2 ^ LB := Nat.mul_le_mul_right _ (by omega)
        omega

end Go.Proofs.Qxb6602321a.Fl
