import Derived.Test.Qxb6602321aFlT
namespace Go.Proofs.Qxb6602321a.Fl
open Go.ChangeShapes Go.WideShapes Go.ChangeAt Go.RowKit
set_option linter.unusedVariables false

theorem below_grown {w w' : World} (h : w.grownBy w' none) : Below w.heap.size w w' := ⟨h.os, h.tape, h.output, h.size, fun k hk => h.block k hk (by simp)⟩

/-- The two answers. -/
structure Pair (z z' : Nat) : Prop where
  eq : (FloatKind.f64.format.order z z' == some .eq) = true
  sign : ∃ r : Bool, (∀ w, Calls Try.prog 12 #[.float .f64 z] w fun e w' => e = .returned (.bool r) ∧ w' = w) ∧ (∀ w, Calls Try.prog 12 #[.float .f64 z'] w fun e w' => e = .returned (.bool r) ∧ w' = w)

theorem pair_of {p : Nat → Nat} {n z z' : Nat} (hp : p 0 < 2 ^ 64) (fz : Fin' z) (vz : V z = R (pre (fun k => V (p k)) n)) (z0 : pre (fun k => V (p k)) n = 0 → z = p 0) (fz' : Fin' z') (z0' : pre (fun k => V (p k)) n = 0 → z' = p 0)
    (vz' : pre (fun k => V (p k)) n ≠ 0 → V z' = R (pre (fun k => V (p k)) n)) : Pair z z' := by
  by_cases h : pre (fun k => V (p k)) n = 0
  · have e1 := z0 h
    have e2 := z0' h
    subst e1
    subst e2
    obtain ⟨r, hr⟩ := negz_any (p 0) fz hp
    exact ⟨eql_t fz fz rfl, r, hr, hr⟩
  · have hne := R_ne h
    have v' := vz' h
    exact ⟨eql_t fz fz' (by rw [vz, v']), false, fun w => negz_ne z w fz (by rw [vz]; exact hne), fun w => negz_ne z' w fz' (by rw [v']; exact hne)⟩

theorem pair_zero : Pair 0 0 := ⟨eql_t fin_zero fin_zero rfl, false, negz_pz, negz_pz⟩

set_option maxRecDepth 20000 in
set_option maxHeartbeats 1000000 in
theorem law3 (p : Nat → Nat) {w : World} {ap : Option Addr} {b o n c : Nat} (h : Arg w ap b o n (fun i => .float .f64 (p i))) (hp : ∀ i, i < n → p i < 2 ^ 64) (hm : n ≤ maxLen) :
    Calls Try.prog 3 #[.slice ap n c] w fun e w' => e = .returned (.bool true) ∧ Below w.heap.size w w' := by
  have A := hide h
  have HP := hide hp
  unfold maxLen at hm
  clear h hp
  go_enter Try.func3, Try.ntmps3
  by_cases hn : n ≤ 1048576
  · go_wp2_with fail
    refine (zz7_t w hn).mono ?_
    rintro _ w' ⟨rfl, hw⟩
    have hw := hw.symm
    subst hw
    by_cases h4 : (4096 : Int) < n
    · go_wp2_with fail
      go_ret
      exact ⟨rfl, Below.refl _ _⟩
    · go_wp2_with fail
      refine (ok_any p hn A.out).mono ?_
      rintro e w' ⟨hret, hw⟩
      have G0 : Hid (w.grownBy w' none) := by
        rcases hw with rfl | rfl
        · exact grown_refl _ _
        · exact ⟨rfl, rfl, rfl, Nat.le_refl _, fun _ _ _ => rfl⟩
      clear hw
      rcases hret with rfl | ⟨rfl, hok⟩
      · go_wp2_with fail
        go_ret
        exact ⟨rfl, below_grown G0.out⟩
      · have OK := hide hok
        have A1 : Hid (Arg w' ap b o n (fun i => .float .f64 (p i))) := A.out.grown G0.out
        clear hok
        go_wp2_with fail
        refine (copy_any p hn A1.out).mono ?_
        rintro _ w1 ⟨ap1, c1, rfl, g1, hrow⟩
        have HROW := hide hrow
        have G1 : Hid (w.grownBy w1 none) := G0.out.trans g1
        clear g1 hrow
        by_cases hn0 : n = 0
        · subst hn0
          have P0 := pair_zero
          have o1 := P0.eq
          obtain ⟨r, hr1, hr2⟩ := P0.sign
          have R1 := hide hr1
          clear hr1 hr2 P0
          go_wp2_with fail
          refine (zzrp_zero ap1 c1 w1).mono ?_
          rintro _ w' ⟨rfl, hw⟩
          have hw := hw.symm
          subst hw
          go_wp2_with fail
          refine (model_zero ap1 c1 w1).mono ?_
          rintro _ w' ⟨rfl, hw⟩
          have hw := hw.symm
          subst hw
          go_wp2_with fail
          refine (R1.out w1).mono ?_
          rintro _ w' ⟨rfl, hw⟩
          have hw := hw.symm
          subst hw
          go_wp2_with fail
          refine (R1.out w1).mono ?_
          rintro _ w' ⟨rfl, hw⟩
          have hw := hw.symm
          subst hw
          go_wp2_with fail
          go_ret
          exact ⟨rfl, below_grown G1.out⟩
        · have hn1 : 0 < n := by omega
          obtain ⟨g, rfl, hr⟩ := HROW.out hn1
          have HR := hide hr
          clear hr HROW
          go_wp2_with fail
          refine (zzrp_any p hn hn1 HR.out OK.out).mono ?_
          rintro _ w' ⟨⟨z, rfl, z1, z2, z3⟩, k, rfl⟩
          have Z : Hid (Fin' z ∧ V z = R (pre (fun k => V (p k)) n) ∧ (pre (fun k => V (p k)) n = 0 → z = p 0)) := ⟨z1, z2, z3⟩
          clear z1 z2 z3
          have HR2 : Hid ((w1.drewN k).rowIs g 25 n (fun i => .float .f64 (p i))) := row_grown HR.out (grown_drewN _ _ _)
          have G2 : Hid (w.grownBy (w1.drewN k) none) := G1.out.trans (grown_drewN _ _ _)
          go_wp2_with fail
          refine (model_any p (by omega) hn1 HR2.out OK.out).mono ?_
          rintro _ w2 ⟨⟨z', rfl, z1, z2, z3⟩, g2⟩
          have PP := pair_of (HP.out 0 hn1) Z.out.1 Z.out.2.1 Z.out.2.2 z1 z2 z3
          have G3 : Hid (w.grownBy w2 none) := G2.out.trans g2
          clear z1 z2 z3 g2
          have o1 := PP.eq
          obtain ⟨r, hr1, hr2⟩ := PP.sign
          have R1 := hide hr1
          have R2 := hide hr2
          clear hr1 hr2 PP
          go_wp2_with fail
          refine (R1.out w2).mono ?_
          rintro _ w' ⟨rfl, hw⟩
          have hw := hw.symm
          subst hw
          go_wp2_with fail
          refine (R2.out w2).mono ?_
          rintro _ w' ⟨rfl, hw⟩
          have hw := hw.symm
          subst hw
          go_wp2_with fail
          go_ret
          exact ⟨rfl, below_grown G3.out⟩
  · go_wp2_with fail
    refine (zz7_f w (by omega)).mono ?_
    rintro _ w' ⟨rfl, hw⟩
    have hw := hw.symm
    subst hw
    go_wp2_with fail
    go_ret
    exact ⟨rfl, Below.refl _ _⟩

end Go.Proofs.Qxb6602321a.Fl
