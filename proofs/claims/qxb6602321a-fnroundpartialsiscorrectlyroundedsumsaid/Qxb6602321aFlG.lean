import Derived.Test.Qxb6602321aFlF
namespace Go.Proofs.Qxb6602321a.Fl
open Go.ChangeShapes Go.WideShapes Go.ChangeAt Go.RowKit
set_option linter.unusedVariables false

/-- The bits in a value. -/
def bitsOf : Value → Nat
  | .float _ b => b
  | _ => 0

/-- It stops ahead of that. -/
theorem Way.notlow {x b : Nat} {k : Int} (h : Way x b k) (hx0 : 0 < mg (rung x)) (hb : V b < P (53 + B)) (h1 : P (52 + B) ≤ V b) : k ≠ -1127 := by
  intro e
  have hB := B_eq
  have hv := h.val
  rw [e, show ((-1127 : Int)).toNat = 0 from rfl, Nat.pow_zero, Nat.mul_one, show (-(-1127 : Int)).toNat = 53 + B by omega] at hv
  have h2 : 1 * 2 ^ (53 + B) ≤ mg (rung x) * 2 ^ (53 + B) := Nat.mul_le_mul_right _ hx0
  rw [V_pos h.pos, hv] at hb
  unfold P at hb
  omega

set_option maxRecDepth 20000 in
theorem dec_any (x : Nat) (w : World) (hx : Fin' x) (h0 : V x ≠ 0) : Calls Try.prog 18 #[.float .f64 x] w fun e w' => DecRet x e ∧ w' = w := by
  have hx0 : 0 < mg (rung x) := by
    by_cases e : mg (rung x) = 0
    · exact absurd (by rw [V_eq, e]; unfold sgn; cases sg x <;> simp) h0
    · omega
  have HX := hide hx
  have HX0 := hide hx0
  by_cases hneg : V x < 0
  · have o1 : (FloatKind.f64.format.order x 0 == some .lt) = true := lss_t hx fin_zero (by rw [V_zero]; exact hneg)
    have hsx : sg x = true := by
      cases e : sg x with
      | true => rfl
      | false => rw [V_pos e] at hneg; omega
    obtain ⟨b0, hb0⟩ : ∃ b0, b0 = x ^^^ 2 ^ 63 := ⟨_, rfl⟩
    have o2 : ∀ w, (Op.unary .neg (.float .f64 x)).run Try.prog w = .ok (.float .f64 b0) w := fun w => by rw [hb0]; rfl
    have W0 : Hid (Way x b0 ((0 : Nat) : Int)) := by
      refine ⟨by rw [hb0]; exact neg_fin hx, by rw [hb0, (neg_parts x).1, hsx]; rfl, by rw [hb0, (neg_parts x).2]; exact hx0, by rw [hb0, (neg_parts x).2]; rfl⟩
    clear hx h0 hx0 hneg hsx hb0
    go_enter Try.func18, Try.ntmps18
    go_wp2_with fail
    go_loopw [4, 5] (fun u v wr => ∃ (b k : Nat), u = .float .f64 b ∧ v = .int .i64 k ∧ Hid (Way x b k) ∧ wr = w) (fun u _ _ => mg (rung (bitsOf u)))
    case atStart => exact ⟨_, 0, rfl, rfl, W0, rfl⟩
    case round =>
      obtain ⟨b, k, rfl, rfl, W, hw⟩ := hrel
      have hw := hw.symm
      subst hw
      clear W0
      have hks := W.out.small HX.out (by omega)
      by_cases hbig : P (53 + B) ≤ V b
      · have o3 : (FloatKind.f64.format.order b 4845873199050653696 == some .gt || FloatKind.f64.format.order b 4845873199050653696 == some .eq) = true := geq_t W.out.fin fin_c53 (by show V c53 ≤ V b; rw [V_c53]; exact hbig)
        obtain ⟨b', hdiv, g1, g2, g3⟩ := half W.out.fin W.out.pos hbig
        have o4 : ∀ w, (binOp .quo 25 (.float .f64 b) (.float .f64 4611686018427387904)).run Try.prog w = .ok (.float .f64 b') w := run_div hdiv
        have W2 : Hid (Way x b' (k + 1)) := W.out.up (by omega) g1 g2 g3
        have G3 := hide g3
        have NE := hide W2.out.ne
        clear hbig hdiv g1 g2 g3
        go_wp2_with fail
        go_roundw
        case rel => exact ⟨b', k + 1, rfl, by go_num, W2, by trivial⟩
        case measure =>
          simp only [bitsOf]
          have := G3.out
          have := NE.out
          omega
      · have o3 : (FloatKind.f64.format.order b 4845873199050653696 == some .gt || FloatKind.f64.format.order b 4845873199050653696 == some .eq) = false := geq_f W.out.fin fin_c53 (by show V b < V c53; rw [V_c53]; omega)
        have HB : Hid (V b < P (53 + B)) := by show V b < P (53 + B); omega
        clear hbig
        go_wp2_with fail
        go_loopw [4, 5] (fun u v wr => ∃ (b : Nat) (k : Int), u = .float .f64 b ∧ v = .int .i64 k ∧ Hid (Way x b k) ∧ Hid (V b < P (53 + B)) ∧ wr = w) (fun u _ _ => 2 ^ (53 + B) - mg (rung (bitsOf u)))
        case atStart => exact ⟨b, k, rfl, rfl, W, HB, rfl⟩
        case round =>
          obtain ⟨b, k, rfl, rfl, W, HB, hw⟩ := hrel
          have hw := hw.symm
          subst hw
          have hbd := W.out.bounds HX.out HX0.out HB.out
          obtain ⟨hb1, hb2⟩ := hbd
          by_cases hsm : V b < P (52 + B)
          · have o3 : (FloatKind.f64.format.order b 4841369599423283200 == some .lt) = true := lss_t W.out.fin fin_c52 (by show V b < V c52; rw [V_c52]; exact hsm)
            obtain ⟨b', hmul, g1, g2, g3⟩ := dbl W.out.fin W.out.pos hsm
            have o4 : ∀ w, (binOp .mul 25 (.float .f64 b) (.float .f64 4611686018427387904)).run Try.prog w = .ok (.float .f64 b') w := run_mul hmul
            have W2 : Hid (Way x b' (k - 1)) := W.out.down g1 g2 g3
            have HB2 : Hid (V b' < P (53 + B)) := by
              show V b' < P (53 + B)
              have e : P (53 + B) = 2 * P (52 + B) := by rw [show 53 + B = 52 + B + 1 by omega, P_succ]
              rw [V_pos g2, g3]
              rw [V_pos W.out.pos] at hsm
              omega
            have NE := hide W.out.ne
            have G3 : Hid (mg (rung b') = 2 * mg (rung b) ∧ mg (rung b) < 2 ^ (53 + B)) := by
              refine ⟨g3, ?_⟩
              have := HB.out
              rw [V_pos W.out.pos] at this
              unfold P at this
              omega
            clear hsm hmul g1 g2 g3
            go_wp2_with fail
            go_roundw
            case rel => exact ⟨b', k - 1, rfl, by go_num, W2, HB2, by trivial⟩
            case measure =>
              simp only [bitsOf]
              have h1 := G3.out.1
              have h2 := G3.out.2
              have h3 := NE.out
              omega
          · have o3 : (FloatKind.f64.format.order b 4841369599423283200 == some .lt) = false := lss_f W.out.fin fin_c52 (by show V c52 ≤ V b; rw [V_c52]; omega)
            obtain ⟨m, hm, hm2, hd⟩ := W.out.done HX.out HX0.out (by omega) HB.out
            have o4 : ∀ w, (convert 25 31 (.float .f64 b)).run Try.prog w = .ok (.int .u64 m) w := fun w => run_convert_float_int w 25 31 .f64 .u64 b m (by kernel_rfl) Try.underlying31 (by
              unfold floatToIntVal
              have h1 : (FloatKind.f64.decode b).toInt .zero = some (m : Int) := toInt_val W.out.fin W.out.pos hm
              rw [h1]
              simp only
              have e1 : IntKind.u64.min = 0 := by decide
              have e2 : IntKind.u64.max = 18446744073709551615 := by decide
              rw [if_pos (by rw [e1, e2]; omega)])
            have HD : Hid (k ≠ -1127 → Dec x m k) := hd
            have HK : Hid (k ≠ -1127) := by
              intro e
              exact W.out.notlow HX0.out HB.out (by omega) e
            clear hm hm2 hd hsm
            go_wp2_with fail
            go_ret2
            exact ⟨⟨m, k, rfl, HD.out HK.out⟩, rfl⟩

  · have o1 : (FloatKind.f64.format.order x 0 == some .lt) = false := lss_f hx fin_zero (by rw [V_zero]; omega)
    have hsx : sg x = false := by
      cases e : sg x with
      | false => rfl
      | true =>
        exfalso
        rw [V_eq, e] at hneg
        unfold sgn at hneg
        simp only [if_true] at hneg
        omega
    have W0 : Hid (Way x x ((0 : Nat) : Int)) := ⟨hx, hsx, hx0, rfl⟩
    clear hx h0 hx0 hneg hsx
    go_enter Try.func18, Try.ntmps18
    go_wp2_with fail
    go_loopw [4, 5] (fun u v wr => ∃ (b k : Nat), u = .float .f64 b ∧ v = .int .i64 k ∧ Hid (Way x b k) ∧ wr = w) (fun u _ _ => mg (rung (bitsOf u)))
    case atStart => exact ⟨_, 0, rfl, rfl, W0, rfl⟩
    case round =>
      obtain ⟨b, k, rfl, rfl, W, hw⟩ := hrel
      have hw := hw.symm
      subst hw
      clear W0
      have hks := W.out.small HX.out (by omega)
      by_cases hbig : P (53 + B) ≤ V b
      · have o3 : (FloatKind.f64.format.order b 4845873199050653696 == some .gt || FloatKind.f64.format.order b 4845873199050653696 == some .eq) = true := geq_t W.out.fin fin_c53 (by show V c53 ≤ V b; rw [V_c53]; exact hbig)
        obtain ⟨b', hdiv, g1, g2, g3⟩ := half W.out.fin W.out.pos hbig
        have o4 : ∀ w, (binOp .quo 25 (.float .f64 b) (.float .f64 4611686018427387904)).run Try.prog w = .ok (.float .f64 b') w := run_div hdiv
        have W2 : Hid (Way x b' (k + 1)) := W.out.up (by omega) g1 g2 g3
        have G3 := hide g3
        have NE := hide W2.out.ne
        clear hbig hdiv g1 g2 g3
        go_wp2_with fail
        go_roundw
        case rel => exact ⟨b', k + 1, rfl, by go_num, W2, by trivial⟩
        case measure =>
          simp only [bitsOf]
          have := G3.out
          have := NE.out
          omega
      · have o3 : (FloatKind.f64.format.order b 4845873199050653696 == some .gt || FloatKind.f64.format.order b 4845873199050653696 == some .eq) = false := geq_f W.out.fin fin_c53 (by show V b < V c53; rw [V_c53]; omega)
        have HB : Hid (V b < P (53 + B)) := by show V b < P (53 + B); omega
        clear hbig
        go_wp2_with fail
        go_loopw [4, 5] (fun u v wr => ∃ (b : Nat) (k : Int), u = .float .f64 b ∧ v = .int .i64 k ∧ Hid (Way x b k) ∧ Hid (V b < P (53 + B)) ∧ wr = w) (fun u _ _ => 2 ^ (53 + B) - mg (rung (bitsOf u)))
        case atStart => exact ⟨b, k, rfl, rfl, W, HB, rfl⟩
        case round =>
          obtain ⟨b, k, rfl, rfl, W, HB, hw⟩ := hrel
          have hw := hw.symm
          subst hw
          have hbd := W.out.bounds HX.out HX0.out HB.out
          obtain ⟨hb1, hb2⟩ := hbd
          by_cases hsm : V b < P (52 + B)
          · have o3 : (FloatKind.f64.format.order b 4841369599423283200 == some .lt) = true := lss_t W.out.fin fin_c52 (by show V b < V c52; rw [V_c52]; exact hsm)
            obtain ⟨b', hmul, g1, g2, g3⟩ := dbl W.out.fin W.out.pos hsm
            have o4 : ∀ w, (binOp .mul 25 (.float .f64 b) (.float .f64 4611686018427387904)).run Try.prog w = .ok (.float .f64 b') w := run_mul hmul
            have W2 : Hid (Way x b' (k - 1)) := W.out.down g1 g2 g3
            have HB2 : Hid (V b' < P (53 + B)) := by
              show V b' < P (53 + B)
              have e : P (53 + B) = 2 * P (52 + B) := by rw [show 53 + B = 52 + B + 1 by omega, P_succ]
              rw [V_pos g2, g3]
              rw [V_pos W.out.pos] at hsm
              omega
            have NE := hide W.out.ne
            have G3 : Hid (mg (rung b') = 2 * mg (rung b) ∧ mg (rung b) < 2 ^ (53 + B)) := by
              refine ⟨g3, ?_⟩
              have := HB.out
              rw [V_pos W.out.pos] at this
              unfold P at this
              omega
            clear hsm hmul g1 g2 g3
            go_wp2_with fail
            go_roundw
            case rel => exact ⟨b', k - 1, rfl, by go_num, W2, HB2, by trivial⟩
            case measure =>
              simp only [bitsOf]
              have h1 := G3.out.1
              have h2 := G3.out.2
              have h3 := NE.out
              omega
          · have o3 : (FloatKind.f64.format.order b 4841369599423283200 == some .lt) = false := lss_f W.out.fin fin_c52 (by show V c52 ≤ V b; rw [V_c52]; omega)
            obtain ⟨m, hm, hm2, hd⟩ := W.out.done HX.out HX0.out (by omega) HB.out
            have o4 : ∀ w, (convert 25 31 (.float .f64 b)).run Try.prog w = .ok (.int .u64 m) w := fun w => run_convert_float_int w 25 31 .f64 .u64 b m (by kernel_rfl) Try.underlying31 (by
              unfold floatToIntVal
              have h1 : (FloatKind.f64.decode b).toInt .zero = some (m : Int) := toInt_val W.out.fin W.out.pos hm
              rw [h1]
              simp only
              have e1 : IntKind.u64.min = 0 := by decide
              have e2 : IntKind.u64.max = 18446744073709551615 := by decide
              rw [if_pos (by rw [e1, e2]; omega)])
            have HD : Hid (k ≠ -1127 → Dec x m k) := hd
            have HK : Hid (k ≠ -1127) := by
              intro e
              exact W.out.notlow HX0.out HB.out (by omega) e
            clear hm hm2 hd hsm
            go_wp2_with fail
            go_ret2
            exact ⟨⟨m, k, rfl, HD.out HK.out⟩, rfl⟩

end Go.Proofs.Qxb6602321a.Fl
