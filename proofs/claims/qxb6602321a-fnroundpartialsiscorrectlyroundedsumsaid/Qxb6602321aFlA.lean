import Derived.Laws.FloatArith
namespace Go.Proofs.Qxb6602321a.Fl
open Ieee
set_option linter.unusedVariables false

/-! ### Rounding to nearest, ties to even, of a quotient of naturals -/

/-- n / g to the nearest, between two the even one. -/
def RNE (n g : Nat) : Nat := n / g + (if g < 2 * (n % g) ∨ (g = 2 * (n % g) ∧ n / g % 2 = 1) then 1 else 0)

theorem rne_mul {n g c : Nat} (hc : 0 < c) : RNE (n * c) (g * c) = RNE n g := by
  unfold RNE
  rw [Nat.mul_div_mul_right _ _ hc, Nat.mul_mod_mul_right, ← Nat.mul_assoc]
  have h1 : g * c < 2 * (n % g) * c ↔ g < 2 * (n % g) := Nat.mul_lt_mul_right hc
  have h2 : g * c = 2 * (n % g) * c ↔ g = 2 * (n % g) := ⟨fun h => Nat.eq_of_mul_eq_mul_right hc h, fun h => congrArg (· * c) h⟩
  simp only [h1, h2]

theorem rne_ratio {x g y h : Nat} (hg : 0 < g) (hh : 0 < h) (e : x * h = y * g) : RNE x g = RNE y h := by
  rw [← rne_mul (n := x) (g := g) hh, e, Nat.mul_comm g h, rne_mul hg]

theorem rne_one (n : Nat) : RNE n 1 = n := by
  unfold RNE
  simp [Nat.mod_one]

theorem rne_dvd {n g : Nat} (hg : 0 < g) : RNE (n * g) g = n := by
  have := rne_mul (n := n) (g := 1) hg
  rw [Nat.one_mul] at this
  rw [this, rne_one]

theorem cut_even (neg : Bool) (n drop : Nat) : Toward.even.cut neg n drop = RNE n (2 ^ drop) := by
  unfold Toward.cut RNE
  simp only [Nat.one_shiftLeft]
  have tot : ∀ c : Prop, [Decidable c] → ∀ b : Bool, (b = true ↔ c) → b.toNat = if c then 1 else 0 := by
    intro c _ b h
    cases b with
    | true => rw [if_pos (h.1 rfl)]; rfl
    | false => rw [if_neg (fun hc => by have := h.2 hc; cases this)]; rfl
  by_cases h : drop ≤ n.log2 + 2
  · rw [Nat.min_eq_left h]
    congr 1
    apply tot
    simp [Bool.or_eq_true, Bool.and_eq_true]
  · have h' : n.log2 + 2 ≤ drop := by omega
    rw [Nat.min_eq_right h']
    have hlt : n < 2 ^ (n.log2 + 1) := Nat.lt_log2_self
    have h2 : 2 ^ (n.log2 + 2) = 2 * 2 ^ (n.log2 + 1) := by rw [Nat.pow_succ 2 (n.log2 + 1)]; omega
    have h3 : 2 ^ (n.log2 + 2) ≤ 2 ^ drop := Nat.pow_le_pow_right (by omega) h'
    rw [Nat.div_eq_of_lt (by omega), Nat.mod_eq_of_lt (by omega), Nat.div_eq_of_lt (by omega), Nat.mod_eq_of_lt (by omega)]
    have h4 : ¬ 2 ^ (n.log2 + 2) < 2 * n := by omega
    have h5 : ¬ 2 ^ (n.log2 + 2) = 2 * n := by omega
    have h6 : ¬ 2 ^ drop < 2 * n := by omega
    have h7 : ¬ 2 ^ drop = 2 * n := by omega
    simp [h4]
    rw [Nat.mod_eq_of_lt (by omega)]
    omega

/-! ### The rung of a magnitude, in units of 2^-1074 -/

/-- The place of the last digit kept. -/
def E (M : Nat) : Nat := M.log2 - 52
def rg (M : Nat) : Nat := if M = 0 then 0 else E M * 2 ^ 52 + RNE M (2 ^ E M)

theorem log2_mul_pow {m : Nat} (hm : m ≠ 0) (k : Nat) : (m * 2 ^ k).log2 = m.log2 + k := by
  induction k with
  | zero => simp
  | succ k ih =>
    rw [Nat.pow_succ, ← Nat.mul_assoc, Nat.mul_comm _ 2, Nat.log2_two_mul (Nat.mul_ne_zero hm (by have := Nat.two_pow_pos k; omega)), ih]
    omega

theorem least : double.leastPlace = -1074 := by decide
theorem fbits : double.fractionBits = 52 := rfl
theorem binade52 : double.binade = 2 ^ 52 := rfl

theorem nearest_val (neg : Bool) (mag : Nat) (place : Int) (M : Nat) (hm : mag ≠ 0) (hM : mag * 2 ^ (place + 1074).toNat = M * 2 ^ (-(place + 1074)).toNat) :
    double.nearest neg mag place = double.word neg (min (rg M) double.infRung) := by
  have hM0 : M ≠ 0 := by
    intro e
    rw [e, Nat.zero_mul] at hM
    have := Nat.two_pow_pos (place + 1074).toNat
    rcases Nat.mul_eq_zero.1 hM with h | h <;> omega
  have hlog : (mag.log2 : Int) + (place + 1074) = M.log2 := by
    have h1 := congrArg Nat.log2 hM
    rw [log2_mul_pow hm, log2_mul_pow hM0] at h1
    omega
  unfold Format.nearest
  rw [if_neg hm, least, fbits]
  have hlast : max (place + (mag.log2 : Int) - (52 : Nat)) (-1074) = (E M : Int) - 1074 := by
    unfold E
    omega
  simp only [hlast, cut_even]
  unfold rg
  rw [if_neg hM0, binade52]
  have e1 : ((E M : Int) - 1074 - -1074).toNat = E M := by omega
  have e2 : RNE (mag <<< (place - ((E M : Int) - 1074)).toNat) (2 ^ ((E M : Int) - 1074 - place).toNat) = RNE M (2 ^ E M) := by
    refine rne_ratio (Nat.two_pow_pos _) (Nat.two_pow_pos _) ?_
    rw [Nat.shiftLeft_eq]
    by_cases ha : 0 ≤ place + 1074
    · have e3 : (-(place + 1074)).toNat = 0 := by omega
      rw [e3, Nat.pow_zero, Nat.mul_one] at hM
      rw [← hM]
      rw [Nat.mul_assoc, Nat.mul_assoc, ← Nat.pow_add, ← Nat.pow_add]
      congr 2
      omega
    · have e3 : (place + 1074).toNat = 0 := by omega
      rw [e3, Nat.pow_zero, Nat.mul_one] at hM
      rw [hM]
      rw [Nat.mul_assoc, Nat.mul_assoc, ← Nat.pow_add, ← Nat.pow_add]
      congr 2
      omega
  rw [e1, e2]

/-! ### The magnitude of a rung -/

def mg (r : Nat) : Nat := if r < 2 ^ 52 then r else (2 ^ 52 + r % 2 ^ 52) * 2 ^ (r / 2 ^ 52 - 1)
/-- A word's sign. -/
def sg (b : Nat) : Bool := b / 2 ^ 63 % 2 == 1
def rung (b : Nat) : Nat := b % 2 ^ 63
/-- A word of a finite number. -/
def Fin' (b : Nat) : Prop := rung b < 2047 * 2 ^ 52
/-- Its value, in units of 2^-1074. -/
def V (b : Nat) : Int := if sg b then -(mg (rung b) : Int) else mg (rung b)

theorem signW : double.signWeight = 2 ^ 63 := rfl
theorem infR : double.infRung = 2047 * 2 ^ 52 := rfl

theorem read_fin {b : Nat} (h : Fin' b) : ∃ m i, double.read b = .number (sg b) m i ∧ -1074 ≤ i ∧ m * 2 ^ (i + 1074).toNat = mg (rung b) := by
  unfold Format.read
  rw [signW, infR, binade52, least]
  unfold Fin' at h
  unfold rung at h ⊢
  unfold mg
  simp only
  by_cases h1 : b % 2 ^ 63 < 2 ^ 52
  · rw [if_pos h1, if_pos h1]
    exact ⟨_, _, rfl, by omega, by simp⟩
  · rw [if_neg h1, if_pos h, if_neg h1]
    refine ⟨_, _, rfl, by omega, ?_⟩
    congr 2
    omega

theorem signed_eq (s : Bool) (m k : Nat) : signed s m k = (if s then -((m : Int) * 2 ^ k) else (m : Int) * 2 ^ k) := by
  unfold signed
  rw [Nat.shiftLeft_eq]
  cases s <;> simp

theorem signed_nat (s : Bool) (m k : Nat) : signed s m k = (if s then -((m * 2 ^ k : Nat) : Int) else ((m * 2 ^ k : Nat) : Int)) := by
  unfold signed
  rw [Nat.shiftLeft_eq]

/-- A sum at a common place. -/
theorem signed_V {b m : Nat} {i base : Int} (hm : m * 2 ^ (i + 1074).toNat = mg (rung b)) (hb : -1074 ≤ base) (hi : base ≤ i) : signed (sg b) m (i - base).toNat * ((2 ^ (base + 1074).toNat : Nat) : Int) = V b := by
  rw [signed_nat]
  unfold V
  have e : m * 2 ^ (i - base).toNat * 2 ^ (base + 1074).toNat = mg (rung b) := by
    rw [← hm, Nat.mul_assoc, ← Nat.pow_add]
    congr 2
    omega
  cases sg b with
  | true => simp only [if_true]; rw [Int.neg_mul, ← Int.natCast_mul, e]
  | false => simp only [Bool.false_eq_true, if_false]; rw [← Int.natCast_mul, e]

theorem order_eq {x y : Nat} (hx : Fin' x) (hy : Fin' y) : double.order x y = some (compare (V x) (V y)) := by
  obtain ⟨m, i, ex, hi, hm⟩ := read_fin hx
  obtain ⟨n, j, ey, hj, hn⟩ := read_fin hy
  unfold Format.order
  rw [ex, ey]
  simp only [Datum.order]
  congr 1
  have h1 := signed_V (b := x) (base := min i j) hm (by omega) (by omega)
  have h2 := signed_V (b := y) (base := min i j) hn (by omega) (by omega)
  rw [← h1, ← h2]
  have hp : (0 : Int) < ((2 ^ (min i j + 1074).toNat : Nat) : Int) := by have := Nat.two_pow_pos (min i j + 1074).toNat; omega
  simp only [compare, compareOfLessAndEq]
  have c1 : ∀ a c : Int, a * ((2 ^ (min i j + 1074).toNat : Nat) : Int) < c * ((2 ^ (min i j + 1074).toNat : Nat) : Int) ↔ a < c := fun a c => Int.mul_lt_mul_right hp
  have c2 : ∀ a c : Int, a * ((2 ^ (min i j + 1074).toNat : Nat) : Int) = c * ((2 ^ (min i j + 1074).toNat : Nat) : Int) ↔ a = c := fun a c => ⟨fun h => Int.eq_of_mul_eq_mul_right (by omega) h, fun h => by rw [h]⟩
  simp only [c1, c2]

/-- The word nearest to a number of units. -/
def Wd (neg : Bool) (M : Nat) : Nat := double.word neg (min (rg M) (2047 * 2 ^ 52))

theorem wd_zero (neg : Bool) : Wd neg 0 = double.word neg 0 := by simp [Wd, rg]

theorem nearest_wd (neg : Bool) (mag : Nat) (place : Int) (M : Nat) (hM : mag * 2 ^ (place + 1074).toNat = M * 2 ^ (-(place + 1074)).toNat) : double.nearest neg mag place = Wd neg M := by
  by_cases hm : mag = 0
  · subst hm
    have : M = 0 := by
      rw [Nat.zero_mul] at hM
      have := Nat.two_pow_pos (-(place + 1074)).toNat
      rcases Nat.mul_eq_zero.1 hM.symm with h | h <;> omega
    subst this
    unfold Format.nearest
    rw [if_pos rfl, wd_zero]
  · rw [nearest_val neg mag place M hm hM]
    rfl

theorem sum_wd {s t : Bool} {m n : Nat} {i j : Int} (hi : -1074 ≤ i) (hj : -1074 ≤ j) {A B : Int}
    (hA : signed s m (i - min i j).toNat * ((2 ^ (min i j + 1074).toNat : Nat) : Int) = A) (hB : signed t n (j - min i j).toNat * ((2 ^ (min i j + 1074).toNat : Nat) : Int) = B) :
    ((Datum.number s m i).sum (.number t n j)).map double.write = some (Wd (if A + B = 0 then s && t else decide (A + B < 0)) (A + B).natAbs) := by
  simp only [Datum.sum, Option.map_some, Format.write]
  obtain ⟨T, hT⟩ : ∃ T, T = signed s m (i - min i j).toNat + signed t n (j - min i j).toNat := ⟨_, rfl⟩
  rw [← hT]
  have hp := Nat.two_pow_pos (min i j + 1074).toNat
  have hAB : A + B = T * ((2 ^ (min i j + 1074).toNat : Nat) : Int) := by rw [← hA, ← hB, hT, Int.add_mul]
  have e0 : (A + B = 0) ↔ T = 0 := by
    rw [hAB]
    constructor
    · intro h
      rcases Int.mul_eq_zero.1 h with h | h <;> omega
    · intro h; rw [h, Int.zero_mul]
  have e1 : (A + B < 0) ↔ T < 0 := by
    rw [hAB]
    have hp' : (0 : Int) < ((2 ^ (min i j + 1074).toNat : Nat) : Int) := by omega
    have := Int.mul_lt_mul_right (b := T) (c := 0) hp'
    rw [Int.zero_mul] at this
    exact this
  simp only [e0, e1]
  rw [nearest_wd _ _ _ (A + B).natAbs]
  rw [hAB, Int.natAbs_mul, Int.natAbs_natCast]
  have e3 : (-(min i j + 1074)).toNat = 0 := by omega
  rw [e3, Nat.pow_zero, Nat.mul_one]

theorem add_wd {x y : Nat} (hx : Fin' x) (hy : Fin' y) : double.add x y = some (Wd (if V x + V y = 0 then sg x && sg y else decide (V x + V y < 0)) (V x + V y).natAbs) := by
  obtain ⟨m, i, ex, hi, hm⟩ := read_fin hx
  obtain ⟨n, j, ey, hj, hn⟩ := read_fin hy
  unfold Format.add
  rw [ex, ey]
  exact sum_wd hi hj (signed_V (b := x) hm (by omega) (by omega)) (signed_V (b := y) hn (by omega) (by omega))

theorem signed_not (s : Bool) (m k : Nat) : signed (!s) m k = -signed s m k := by
  unfold signed
  cases s <;> simp

theorem sub_wd {x y : Nat} (hx : Fin' x) (hy : Fin' y) : double.sub x y = some (Wd (if V x - V y = 0 then sg x && !sg y else decide (V x - V y < 0)) (V x - V y).natAbs) := by
  obtain ⟨m, i, ex, hi, hm⟩ := read_fin hx
  obtain ⟨n, j, ey, hj, hn⟩ := read_fin hy
  unfold Format.sub
  rw [ex, ey]
  simp only [Datum.opposite]
  have h := sum_wd (s := sg x) (t := !sg y) (m := m) (n := n) hi hj (A := V x) (B := -V y) (signed_V (b := x) hm (by omega) (by omega)) (by rw [signed_not, Int.neg_mul, signed_V (b := y) hn (by omega) (by omega)])
  rw [← Int.sub_eq_add_neg] at h
  exact h

end Go.Proofs.Qxb6602321a.Fl
