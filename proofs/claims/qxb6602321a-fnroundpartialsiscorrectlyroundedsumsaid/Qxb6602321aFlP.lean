import Derived.Test.Qxb6602321aFlO
namespace Go.Proofs.Qxb6602321a.Fl
open Go.ChangeShapes Go.WideShapes Go.ChangeAt Go.RowKit
set_option linter.unusedVariables false

/-! ### Reading limbs -/

theorem LV_split {a : Nat → Nat} {k : Nat} : ∀ {n : Nat}, k < n → ∃ H, LV a n = LV a k + (a k + H * 2 ^ 32) * 2 ^ (32 * k) := by
  intro n
  induction n with
  | zero => intro h; omega
  | succ n ih =>
    intro h
    by_cases e : k = n
    · subst e
      exact ⟨0, by show LV a k + a k * _ = _; simp⟩
    · obtain ⟨H, hH⟩ := ih (by omega)
      obtain ⟨d, hd⟩ : ∃ d, n = k + 1 + d := ⟨n - k - 1, by omega⟩
      refine ⟨H + a n * 2 ^ (32 * d), ?_⟩
      show LV a n + a n * 2 ^ (32 * n) = _
      rw [hH]
      have : 2 ^ (32 * n) = 2 ^ (32 * d) * 2 ^ 32 * 2 ^ (32 * k) := by
        rw [← Nat.pow_add, ← Nat.pow_add]; congr 1; omega
      rw [this, Nat.add_mul H, ← Nat.add_assoc (a k), Nat.add_mul (a k + H * 2 ^ 32), Nat.add_assoc (LV a k)]
      congr 2
      rw [Nat.mul_assoc, Nat.mul_assoc, Nat.mul_assoc]

/-- A bit. -/
def bt (a : Nat → Nat) (j : Nat) : Nat := a (j / 32) / 2 ^ (j % 32) % 2

theorem bt_eq {a : Nat → Nat} {n j : Nat} (ha : ∀ i, i < n → a i < 2 ^ 32) (hj : j < 32 * n) : bt a j = LV a n / 2 ^ j % 2 := by
  obtain ⟨k, hk⟩ : ∃ k, k = j / 32 := ⟨_, rfl⟩
  obtain ⟨o, ho⟩ : ∃ o, o = j % 32 := ⟨_, rfl⟩
  have hkn : k < n := by omega
  obtain ⟨H, hH⟩ := LV_split (a := a) hkn
  have hL := LV_lt (a := a) (n := k) (fun i hi => ha i (by omega))
  have e1 : LV a n / 2 ^ (32 * k) = a k + H * 2 ^ 32 := by
    rw [hH, Nat.add_mul_div_right _ _ (Nat.two_pow_pos _), Nat.div_eq_of_lt hL, Nat.zero_add]
  obtain ⟨c, hc⟩ : ∃ c, 32 = c + 1 + o := ⟨31 - o, by omega⟩
  have e2 : H * 2 ^ 32 = H * 2 ^ c * 2 * 2 ^ o := by rw [hc, Nat.pow_add, Nat.pow_succ, Nat.mul_assoc, Nat.mul_assoc, Nat.mul_assoc]
  have e3 : LV a n / 2 ^ j = a k / 2 ^ o + H * 2 ^ c * 2 := by
    rw [show j = 32 * k + o by omega, Nat.pow_add, ← Nat.div_div_eq_div_mul, e1, e2, Nat.add_mul_div_right _ _ (Nat.two_pow_pos _)]
  unfold bt
  rw [← hk, ← ho, e3]
  omega

theorem bt_lt (a : Nat → Nat) (j : Nat) : bt a j < 2 := Nat.mod_lt _ (by decide)

theorem LV_less {a b : Nat → Nat} {k : Nat} : ∀ {n : Nat}, k < n → (∀ i, i < k → a i < 2 ^ 32) → a k < b k → (∀ i, k < i → i < n → a i = b i) → LV a n < LV b n := by
  intro n
  induction n with
  | zero => intro h; omega
  | succ n ih =>
    intro h ha hlt he
    show LV a n + a n * 2 ^ (32 * n) < LV b n + b n * 2 ^ (32 * n)
    by_cases e : k = n
    · subst e
      have h1 := LV_lt ha
      have h2 : (a k + 1) * 2 ^ (32 * k) ≤ b k * 2 ^ (32 * k) := Nat.mul_le_mul_right _ hlt
      rw [Nat.add_mul, Nat.one_mul] at h2
      omega
    · have := ih (by omega) ha hlt (fun i h1 h2 => he i h1 (by omega))
      rw [he n (by omega) (by omega)]
      omega

def CmpRet (x y : Nat) (e : Ending) : Prop := (x < y ∧ e = .returned (.int .i64 (-1))) ∨ (y < x ∧ e = .returned (.int .i64 1)) ∨ (x = y ∧ e = .returned (.int .i64 0))

theorem grown_drewN (w : World) (k : Nat) (row : Option Nat) : w.grownBy (w.drewN k) row := ⟨rfl, rfl, rfl, Nat.le_refl _, fun _ _ _ => rfl⟩
theorem grown_refl (w : World) (row : Option Nat) : w.grownBy w row := ⟨rfl, rfl, rfl, Nat.le_refl _, fun _ _ _ => rfl⟩

set_option maxRecDepth 20000 in
theorem cmpMag_any (g h : Nat) (a b : Nat → Nat) (w : World) (ha : LRow w g a) (hb : LRow w h b) :
    Calls Try.prog 22 #[.slice (some ⟨g, 0, none⟩) 70 70, .slice (some ⟨h, 0, none⟩) 70 70] w fun e w' => CmpRet (LV a 70) (LV b 70) e ∧ ∃ k, w' = w.drewN k := by
  have HA := hide ha
  have HB := hide hb
  clear ha hb
  go_enter Try.func22, Try.ntmps22
  go_wp2_with fail
  go_loopw [5] (fun u wr => ∃ j : Nat, j ≤ 70 ∧ u = .int .i64 ((j : Int) - 1) ∧ Hid (∀ i, j ≤ i → i < 70 → a i = b i) ∧ ∃ k, wr = w.drewN k) (fun u _ => (intOf u + 1).toNat)
  case atStart => exact ⟨70, by omega, rfl, fun i h1 h2 => by omega, 0, rfl⟩
  case round =>
    obtain ⟨j, hj, rfl, HE, kd, hw⟩ := hrel
    subst hw
    cases j with
    | zero =>
      go_wp2_with fail
      go_ret
      exact ⟨.inr (.inr ⟨LV_congr (fun i hi => HE.out i (by omega) hi), rfl⟩), _, rfl⟩
    | succ k =>
      have hu : ((k + 1 : Nat) : Int) - 1 = k := by omega
      rw [hu]
      have c1 : w.cell? ⟨g, k, none⟩ = some (.int .u64 (a k)) := HA.out.row.cell (by omega)
      have c2 : w.cell? ⟨h, k, none⟩ = some (.int .u64 (b k)) := HB.out.row.cell (by omega)
      have r1 := HA.out.lt k (by omega)
      have r2 := HB.out.lt k (by omega)
      by_cases e1 : a k = b k
      · have e1' := hide e1
        have n1 : ((a k : Int) != (b k : Int)) = false := by rw [e1]; simp
        clear e1
        go_wp2_with fail
        go_quiet (fail)
        go_wp2_with fail
        go_roundw
        case rel =>
          refine ⟨k, by omega, by go_num, fun i h1 h2 => ?_, _, rfl⟩
          by_cases e : i = k
          · rw [e]; exact e1'.out
          · exact HE.out i (by omega) h2
        case measure => simp [intOf]
      · have n1 : ((a k : Int) != (b k : Int)) = true := by simp; omega
        by_cases e2 : b k < a k
        · go_wp2_with fail
          go_quiet (fail)
          go_wp2_with fail
          go_quiet (fail)
          go_wp2_with fail
          go_ret
          exact ⟨.inr (.inl ⟨LV_less (k := k) (by omega) (fun i hi => HB.out.lt i (by omega)) e2 (fun i h1 h2 => (HE.out i (by omega) h2).symm), rfl⟩), _, by rw [World.drewN_drewN, World.drewN_drewN]⟩
        · go_wp2_with fail
          go_quiet (fail)
          go_wp2_with fail
          go_quiet (fail)
          go_wp2_with fail
          go_ret
          exact ⟨.inl ⟨LV_less (k := k) (by omega) (fun i hi => HA.out.lt i (by omega)) (by omega) (fun i h1 h2 => HE.out i (by omega) h2), rfl⟩, _, by rw [World.drewN_drewN, World.drewN_drewN]⟩

set_option maxRecDepth 20000 in
theorem bitAt_any (g j : Nat) (a : Nat → Nat) (w : World) (ha : LRow w g a) (hj : j < 2240) :
    Calls Try.prog 24 #[.slice (some ⟨g, 0, none⟩) 70 70, .int .i64 j] w fun e w' => e = .returned (.int .u64 (bt a j)) ∧ w' = w := by
  obtain ⟨k, hk⟩ : ∃ k : Nat, (j : Int) / 32 = (k : Int) := ⟨j / 32, by omega⟩
  obtain ⟨o, ho⟩ : ∃ o : Nat, (j : Int) % 32 = (o : Int) := ⟨j % 32, by omega⟩
  have c1 : w.cell? ⟨g, k, none⟩ = some (.int .u64 (a k)) := ha.row.cell (by omega)
  have r1 := ha.lt k (by omega)
  obtain ⟨q, hq⟩ : ∃ q, q = a k / 2 ^ o := ⟨_, rfl⟩
  have hd : (a k : Int) / 2 ^ o = (q : Int) := by
    have hp : (2 : Int) ^ o = ((2 ^ o : Nat) : Int) := by simp
    rw [hp, ← Int.natCast_ediv, hq]
  have hq2 : q ≤ a k := by rw [hq]; exact Nat.div_le_self _ _
  have hb := bits_and_u64_nat q 1 (by omega) (by omega)
  rw [Nat.and_one_is_mod] at hb
  obtain ⟨r, hr⟩ : ∃ r, r = q % 2 := ⟨_, rfl⟩
  rw [← hr] at hb
  have hb : bits .and .u64 (q : Int) 1 = (r : Int) := hb
  have HR : Hid (bt a j = r) := by
    show bt a j = _
    unfold bt
    rw [show j / 32 = k by omega, show j % 32 = o by omega, ← hq, hr]
  clear hq hr
  clear ha
  go_enter Try.func24, Try.ntmps24
  go_wp2_with fail
  go_ret
  refine ⟨?_, rfl⟩
  rw [HR.out]; rfl

end Go.Proofs.Qxb6602321a.Fl
