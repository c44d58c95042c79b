import Derived.Test.Qxb6602321aFlH
namespace Go.Proofs.Qxb6602321a.Fl
open Go.ChangeShapes Go.WideShapes Go.ChangeAt Go.RowKit
set_option linter.unusedVariables false

/-- Cells of an argument. -/
structure Arg (w : World) (ap : Option Addr) (b o n : Nat) (f : Nat → Value) : Prop where
  at' : 0 < n → ap = some ⟨b, o, none⟩
  lt : ∀ i, i < n → w.cell? ⟨b, o + i, none⟩ = some (f i)

/-- What 'partialsOK' says yes to. -/
structure OKp (p : Nat → Nat) (n : Nat) : Prop where
  fin : ∀ k, k < n → Fin' (p k)
  nz : ∀ k, k < n → 0 < k → V (p k) ≠ 0
  ov : ∀ k, k + 1 < n → V (p k) ≠ 0 → ∃ t, mg (rung (p k)) < 2 ^ t ∧ 2 ^ t ∣ mg (rung (p (k + 1)))
  top : 0 < n → V (p (n - 1)) ≠ 0 → mg (rung (p (n - 1))) < 2 ^ T

theorem mg_ne {x : Nat} (h : V x ≠ 0) : 0 < mg (rung x) := by
  by_cases e : mg (rung x) = 0
  · exact absurd (by rw [V_eq, e]; unfold sgn; cases sg x <;> simp) h
  · omega

/-- The size by the place. -/
theorem Dec.lt {x m : Nat} {k : Int} (h : Dec x m k) (h0 : V x ≠ 0) : 0 < k + 1127 ∧ mg (rung x) < 2 ^ (k + 1127).toNat := by
  have hp := mg_ne h0
  have hv := h.val
  have hm := h.hi
  by_cases ha : 0 ≤ k + 1074
  · refine ⟨by omega, ?_⟩
    rw [show (-(k + 1074)).toNat = 0 by omega, Nat.pow_zero, Nat.mul_one] at hv
    rw [hv, show (k + 1127).toNat = 53 + (k + 1074).toNat by omega, Nat.pow_add]
    exact Nat.mul_lt_mul_of_pos_right hm (Nat.two_pow_pos _)
  · rw [show (k + 1074).toNat = 0 by omega, Nat.pow_zero, Nat.mul_one] at hv
    have h1 : 0 < k + 1127 := by
      by_cases e : 0 < k + 1127
      · exact e
      · exfalso
        have h2 : 2 ^ 53 ≤ 2 ^ (-(k + 1074)).toNat := Nat.pow_le_pow_right (by omega) (by omega)
        have h3 : 1 * 2 ^ (-(k + 1074)).toNat ≤ mg (rung x) * 2 ^ (-(k + 1074)).toNat := Nat.mul_le_mul_right _ hp
        omega
    refine ⟨h1, ?_⟩
    have h2 : mg (rung x) * 2 ^ (-(k + 1074)).toNat < 2 ^ (k + 1127).toNat * 2 ^ (-(k + 1074)).toNat := by
      rw [hv, ← Nat.pow_add, show (k + 1127).toNat + (-(k + 1074)).toNat = 53 by omega]
      exact hm
    exact Nat.lt_of_mul_lt_mul_right h2

theorem ov_of {x y m m' j : Nat} {ka kb : Int} (hx : Dec x m ka) (hy : Dec y m' kb) (h0 : V x ≠ 0) (hj : 2 ^ j ∣ m') (h : ka + 52 < kb + j) : ∃ t, mg (rung x) < 2 ^ t ∧ 2 ^ t ∣ mg (rung y) := by
  obtain ⟨h1, h2⟩ := hx.lt h0
  refine ⟨(kb + j + 1074).toNat, Nat.lt_of_lt_of_le h2 (Nat.pow_le_pow_right (by omega) (by omega)), ?_⟩
  obtain ⟨c, hc⟩ := hj
  have hv := hy.val
  by_cases hb : 0 ≤ kb + 1074
  · rw [show (-(kb + 1074)).toNat = 0 by omega, Nat.pow_zero, Nat.mul_one] at hv
    refine ⟨c, ?_⟩
    rw [hv, hc, show (kb + j + 1074).toNat = j + (kb + 1074).toNat by omega, Nat.pow_add, Nat.mul_right_comm]
  · rw [show (kb + 1074).toNat = 0 by omega, Nat.pow_zero, Nat.mul_one] at hv
    refine ⟨c, ?_⟩
    have h3 : mg (rung y) * 2 ^ (-(kb + 1074)).toNat = 2 ^ (kb + j + 1074).toNat * c * 2 ^ (-(kb + 1074)).toNat := by
      rw [hv, hc, Nat.mul_right_comm, ← Nat.pow_add]
      congr 2
      omega
    exact Nat.eq_of_mul_eq_mul_right (Nat.two_pow_pos _) h3

def OkRet (p : Nat → Nat) (n : Nat) (e : Ending) : Prop := e = .returned (.bool false) ∨ (e = .returned (.bool true) ∧ OKp p n)

set_option maxRecDepth 20000 in
set_option maxHeartbeats 1000000 in
theorem ok_any (p : Nat → Nat) {w : World} {ap : Option Addr} {b o n c : Nat} (hn : n ≤ 1048576) (h : Arg w ap b o n (fun i => .float .f64 (p i))) :
    Calls Try.prog 8 #[.slice ap n c] w fun e w' => OkRet p n e ∧ (w' = w ∨ w' = w.drew) := by
  have A := hide h
  clear h
  go_enter Try.func8, Try.ntmps8
  go_wp2_with fail
  go_loopw [3] (fun u wr => ∃ k : Nat, k ≤ n ∧ u = .int .i64 k ∧ Hid (∀ i, i < k → Fin' (p i) ∧ (0 < i → V (p i) ≠ 0)) ∧ wr = w) (fun u _ => n - (intOf u).toNat)
  case atStart => exact ⟨0, by omega, rfl, fun i hi => by omega, rfl⟩
  case round =>
    obtain ⟨k, hk, rfl, HF, hw⟩ := hrel
    have hw := hw.symm
    subst hw
    by_cases hlt : k < n
    · obtain rfl := A.out.at' (by omega)
      have c1 : w.cell? ⟨b, o + k, none⟩ = some (.float .f64 (p k)) := A.out.lt k hlt
      by_cases hf : Fin' (p k)
      · go_wp2_with fail
        refine (finite_yes (p k) w hf).mono ?_
        rintro _ w' ⟨rfl, hw⟩
        have hw := hw.symm
        subst hw
        by_cases hz : V (p k) = 0
        · have o1 : (FloatKind.f64.format.order (p k) 0 == some .eq) = true := eql_t hf fin_zero (by rw [V_zero]; exact hz)
          by_cases hk0 : (0 : Int) < k
          · go_wp2_with fail
            go_ret
            exact ⟨.inl rfl, .inl rfl⟩
          · go_wp2_with fail
            go_roundw
            case rel =>
              refine ⟨k + 1, by omega, by go_num, fun i hi => ?_, by trivial⟩
              by_cases e : i = k
              · rw [e]; exact ⟨hf, fun h => by omega⟩
              · exact HF.out i (by omega)
            case measure => simp [intOf]; omega
        · have o1 : (FloatKind.f64.format.order (p k) 0 == some .eq) = false := eql_f hf fin_zero (by rw [V_zero]; exact hz)
          have HZ := hide hz
          have HFK := hide hf
          clear hz hf
          go_wp2_with fail
          go_roundw
          case rel =>
            refine ⟨k + 1, by omega, by go_num, fun i hi => ?_, by trivial⟩
            by_cases e : i = k
            · rw [e]; exact ⟨HFK.out, fun h => HZ.out⟩
            · exact HF.out i (by omega)
          case measure => simp [intOf]; omega
      · go_wp2_with fail
        refine (finite_no (p k) w hf).mono ?_
        rintro _ w' ⟨rfl, hw⟩
        go_wp2_with fail
        go_ret
        exact ⟨.inl rfl, hw⟩
    · have hkn : n = k := by omega
      subst hkn
      go_wp2_with fail
      go_loopw [4] (fun u wr => ∃ k : Nat, (k = 0 ∨ k + 1 ≤ n) ∧ u = .int .i64 k ∧ Hid (∀ i, i < k → V (p i) ≠ 0 → ∃ t, mg (rung (p i)) < 2 ^ t ∧ 2 ^ t ∣ mg (rung (p (i + 1)))) ∧ wr = w) (fun u _ => n - (intOf u).toNat)
      case atStart => exact ⟨0, .inl rfl, rfl, fun i hi => by omega, rfl⟩
      case round =>
        obtain ⟨k, hk, rfl, HO, hw⟩ := hrel
        have hw := hw.symm
        subst hw
        by_cases hlt : k + 1 < n
        · obtain rfl := A.out.at' (by omega)
          have c1 : w.cell? ⟨b, o + k, none⟩ = some (.float .f64 (p k)) := A.out.lt k (by omega)
          have c2 : w.cell? ⟨b, o + (k + 1), none⟩ = some (.float .f64 (p (k + 1))) := A.out.lt (k + 1) (by omega)
          have F1 := hide (HF.out k (by omega)).1
          have F2 := hide (HF.out (k + 1) (by omega)).1
          have N2 := hide ((HF.out (k + 1) (by omega)).2 (by omega))
          have hltI : (k : Int) + 1 < n := by omega
          by_cases hz : V (p k) = 0
          · have o1 : (FloatKind.f64.format.order (p k) 0 == some .eq) = true := eql_t F1.out fin_zero (by rw [V_zero]; exact hz)
            have HZ := hide hz
            clear hz
            go_wp2_with fail
            go_roundw
            case rel =>
              refine ⟨k + 1, by omega, by go_num, fun i hi hv => ?_, by trivial⟩
              by_cases e : i = k
              · rw [e] at hv; exact absurd HZ.out hv
              · exact HO.out i (by omega) hv
            case measure => simp [intOf]; omega
          · have o1 : (FloatKind.f64.format.order (p k) 0 == some .eq) = false := eql_f F1.out fin_zero (by rw [V_zero]; exact hz)
            have HZ := hide hz
            clear hz
            go_wp2_with fail
            refine (dec_any (p k) w F1.out HZ.out).mono ?_
            rintro _ w' ⟨⟨m, ka, rfl, D1⟩, hw⟩
            have hw := hw.symm
            subst hw
            have D1' := hide D1
            have ka1 := D1.kl
            have ka2 := D1.kh
            clear D1
            go_wp2_with fail
            refine (dec_any (p (k + 1)) w F2.out N2.out).mono ?_
            rintro _ w' ⟨⟨m', kb, rfl, D2⟩, hw⟩
            have hw := hw.symm
            subst hw
            have D2' := hide D2
            have kb1 := D2.kl
            have kb2 := D2.kh
            clear D2
            go_wp2_with fail
            refine (low_any m' kb w (by have := D2'.out.lo; omega) D2'.out.hi kb1 kb2).mono ?_
            rintro _ w' ⟨⟨j, rfl, hj, hj2⟩, hw⟩
            have hw := hw.symm
            subst hw
            have HJ := hide hj
            clear hj
            by_cases hge : kb + j ≤ ka + 52
            · go_wp2_with fail
              go_ret
              exact ⟨.inl rfl, .inl rfl⟩
            · have hge' : ka + 52 < kb + j := by omega
              go_wp2_with fail
              go_roundw
              case rel =>
                refine ⟨k + 1, by omega, by go_num, fun i hi hv => ?_, by trivial⟩
                by_cases e : i = k
                · rw [e]; exact ov_of D1'.out D2'.out HZ.out HJ.out hge'
                · exact HO.out i (by omega) hv
              case measure => simp [intOf]; omega
        · have hltI : (n : Int) ≤ (k : Int) + 1 := by omega
          by_cases hn0 : n = 0
          · have hn0' : (n : Int) ≤ 0 := by omega
            go_wp2_with fail
            go_ret
            exact ⟨.inr ⟨rfl, ⟨fun k h => by omega, fun k h h0 => by omega, fun k h hv => by omega, fun h => by omega⟩⟩, .inl rfl⟩
          · obtain rfl := A.out.at' (by omega)
            obtain ⟨N, hN⟩ : ∃ N, n = N + 1 := ⟨n - 1, by omega⟩
            subst hN
            have c1 : w.cell? ⟨b, o + N, none⟩ = some (.float .f64 (p N)) := A.out.lt N (by omega)
            have F1 := hide (HF.out N (by omega)).1
            by_cases hz : V (p N) = 0
            · have o1 : (FloatKind.f64.format.order (p N) 0 != some .eq) = false := neq_f F1.out fin_zero (by rw [V_zero]; exact hz)
              have HZ := hide hz
              clear hz
              go_wp2_with fail
              go_ret
              refine ⟨.inr ⟨rfl, ⟨fun k h => (HF.out k h).1, fun k h h0 => (HF.out k h).2 h0, fun i h hv => HO.out i (by omega) hv, fun h hv => ?_⟩⟩, .inl rfl⟩
              exact absurd HZ.out hv
            · have o1 : (FloatKind.f64.format.order (p N) 0 != some .eq) = true := neq_t F1.out fin_zero (by rw [V_zero]; exact hz)
              have HZ := hide hz
              clear hz
              go_wp2_with fail
              refine (dec_any (p N) w F1.out HZ.out).mono ?_
              rintro _ w' ⟨⟨m, ka, rfl, D1⟩, hw⟩
              have hw := hw.symm
              subst hw
              have D1' := hide D1
              have ka1 := D1.kl
              have ka2 := D1.kh
              clear D1
              by_cases hge : 1022 < ka + 52
              · go_wp2_with fail
                go_ret
                exact ⟨.inl rfl, .inl rfl⟩
              · go_wp2_with fail
                go_ret
                refine ⟨.inr ⟨rfl, ⟨fun k h => (HF.out k h).1, fun k h h0 => (HF.out k h).2 h0, fun i h hv => HO.out i (by omega) hv, fun h hv => ?_⟩⟩, .inl rfl⟩
                have h1 := (D1'.out.lt HZ.out).2
                have hT := T_eq
                exact Nat.lt_of_lt_of_le h1 (Nat.pow_le_pow_right (by omega) (by omega))

end Go.Proofs.Qxb6602321a.Fl
