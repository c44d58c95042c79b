import Derived.Test.Qxb6602321aFlS
namespace Go.Proofs.Qxb6602321a.Fl
open Go.ChangeShapes Go.WideShapes Go.ChangeAt Go.RowKit
set_option linter.unusedVariables false

theorem zz7_t {ap : Option Addr} {n c : Nat} (w : World) (hn : n ≤ 1048576) : Calls Try.prog 7 #[.slice ap n c] w fun e w' => e = .returned (.bool true) ∧ w' = w := by
  go_enter Try.func7, Try.ntmps7
  go_wp2_with fail
  go_ret
  exact ⟨rfl, rfl⟩

theorem zz7_f {ap : Option Addr} {n c : Nat} (w : World) (hn : 1048576 < n) : Calls Try.prog 7 #[.slice ap n c] w fun e w' => e = .returned (.bool false) ∧ w' = w := by
  go_enter Try.func7, Try.ntmps7
  go_wp2_with fail
  go_ret
  exact ⟨rfl, rfl⟩

theorem Arg.grown {w w' : World} {ap : Option Addr} {b o n : Nat} {f : Nat → Value} (h : Arg w ap b o n f) (hg : w.grownBy w' none) : Arg w' ap b o n f :=
  ⟨h.at', fun i hi => hg.cell (h.lt i hi) (by simp)⟩

def CpRet (w : World) (n : Nat) (f : Nat → Value) (e : Ending) (w' : World) : Prop := ∃ ap c, e = .returned (.slice ap n c) ∧ w.grownBy w' none ∧ (0 < n → ∃ g, ap = some ⟨g, 0, none⟩ ∧ w'.rowIs g 25 n f)

set_option maxRecDepth 20000 in
set_option maxHeartbeats 1000000 in
theorem copy_any (p : Nat → Nat) {w : World} {ap : Option Addr} {b o n c : Nat} (hn : n ≤ 1048576) (h : Arg w ap b o n (fun i => .float .f64 (p i))) :
    Calls Try.prog 9 #[.slice ap n c] w fun e w' => CpRet w n (fun i => .float .f64 (p i)) e w' := by
  have A := hide h
  have q22 : ∀ (w : World) (a : Option Addr) (n c n' c' : Nat), (binOp .eql 22 (.slice a n c) (.slice none n' c')).run Try.prog w = .ok (.bool a.isNone) w := fun w a n c n' c' => Lib.run_eql_slice_nil w _ _ a n c n' c' Try.underlying22
  cases ap with
  | none =>
    have hn0 : n = 0 := by
      by_cases e : n = 0
      · exact e
      · have := h.at' (by omega); cases this
    subst hn0
    clear h
    go_enter Try.func9, Try.ntmps9
    go_wp2_with fail
    go_ret
    exact ⟨none, 0, rfl, grown_refl _ _, fun h => by omega⟩
  | some x =>
    clear h
    go_enter Try.func9, Try.ntmps9
    go_wp2_with (at_make; (with_reducible refine wpList_mk ?_ (.tmp 8) (.tmp 8) 22 ?_ 25 (.float .f64 0) 8 Try.underlying22 info25 ?_ .i64 .i64 n ?_ ?_ ?_ ?_ ?_); rfl; rfl; rfl; rfl; rfl; omega; omega; intro w1 g1 hg1 hr1 G1)
    have S0 : Hid (∃ cs, w1.rowIs g1 25 n cs ∧ ∀ k, k < 0 → cs k = .float .f64 (p k)) := ⟨_, hr1.out, fun k hk => by omega⟩
    clear hr1
    go_loopw [4] (fun u wr => ∃ k : Nat, k ≤ n ∧ u = .int .i64 k ∧ Hid (∃ cs, wr.rowIs g1 25 n cs ∧ ∀ j, j < k → cs j = .float .f64 (p j)) ∧ Hid (w.grownBy wr none)) (fun u _ => n - (intOf u).toNat)
    case atStart => exact ⟨0, by omega, rfl, S0, G1⟩
    case round =>
      obtain ⟨k, hk, rfl, HR, G⟩ := hrel
      clear S0 G1
      by_cases hlt : k < n
      · have hx := A.out.at' (by omega)
        obtain rfl : x = ⟨b, o, none⟩ := by injection hx
        have c1 : wr.cell? ⟨b, o + k, none⟩ = some (.float .f64 (p k)) := (A.out.grown G.out).lt k hlt
        obtain ⟨cs, hcs, hck⟩ := HR.out
        have c2 : wr.cell? ⟨g1, k, none⟩ = some (cs k) := hcs.cell hlt
        have f2 := hcs.frozen k
        have HCS := hide hcs
        have HCK := hide hck
        clear hcs hck hx
        have st : ∀ (w : World) (a : Addr) (z : Nat), (store a (.float .f64 z)).run Try.prog w = stored Try.prog w a (.float .f64 z) .plain := fun w a z => run_store Try.prog w a _ _ rfl
        go_wp2_with fail
        go_roundw
        case rel =>
          refine ⟨k + 1, by omega, by go_num, ⟨_, HCS.out.set k _, fun j hj => ?_⟩, grown_write G.out hg1 _⟩
          show (if j = k then Value.float .f64 (p k) else cs j) = .float .f64 (p j)
          by_cases e : j = k
          · rw [if_pos e, e]
          · rw [if_neg e]; exact HCK.out j (by omega)
        case measure => simp [intOf]; omega
      · have hkn : n = k := by omega
        subst hkn
        go_wp2_with fail
        go_ret
        obtain ⟨cs, hcs, hck⟩ := HR.out
        exact ⟨_, _, rfl, G.out, fun _ => ⟨g1, rfl, hcs.congr (fun i hi => hck i hi)⟩⟩

theorem zzrp_zero (ap : Option Addr) (c : Nat) (w : World) : Calls Try.prog 10 #[.slice ap 0 c] w fun e w' => e = .returned (.float .f64 0) ∧ w' = w := by
  go_enter Try.func10, Try.ntmps10
  go_wp2_with fail
  refine (rp_zero ap c w).mono ?_
  rintro _ w' ⟨rfl, hw⟩
  have hw := hw.symm
  subst hw
  go_wp2_with fail
  go_ret
  exact ⟨rfl, rfl⟩

theorem zzrp_any (p : Nat → Nat) {w : World} {g n c : Nat} (hn : n ≤ 1048576) (hn0 : 0 < n) (hr : w.rowIs g 25 n (fun i => .float .f64 (p i))) (hok : OKp p n) :
    Calls Try.prog 10 #[.slice (some ⟨g, 0, none⟩) n c] w fun e w' => RpRet p n e ∧ ∃ k, w' = w.drewN k := by
  have C : Hid (Calls Try.prog 20 #[.slice (some ⟨g, 0, none⟩) n c] w fun e w' => RpRet p n e ∧ ∃ k, w' = w.drewN k) := rp_any p hn hn0 (fun i hi => by rw [Nat.zero_add]; exact hr.cell hi) hok
  clear hr hok
  go_enter Try.func10, Try.ntmps10
  go_wp2_with fail
  refine C.out.mono ?_
  rintro _ w' ⟨⟨z, rfl, R1⟩, k, rfl⟩
  have R2 := hide R1
  clear R1
  go_wp2_with fail
  go_ret
  exact ⟨⟨z, rfl, R2.out⟩, k, rfl⟩

/-! ### The sign of a zero -/

theorem negz_ne (x : Nat) (w : World) (hx : Fin' x) (h : V x ≠ 0) : Calls Try.prog 12 #[.float .f64 x] w fun e w' => e = .returned (.bool false) ∧ w' = w := by
  have o1 : (FloatKind.f64.format.order x 0 == some .eq) = false := eql_f hx fin_zero (by rw [V_zero]; exact h)
  clear hx h
  go_enter Try.func12, Try.ntmps12
  go_wp2_with fail
  go_ret
  exact ⟨rfl, rfl⟩

theorem div_pz : Ieee.double.div 4607182418800017408 0 = some 9218868437227405312 := by decide +kernel
theorem div_nz : Ieee.double.div 4607182418800017408 9223372036854775808 = some 18442240474082181120 := by decide +kernel

theorem negz_pz (w : World) : Calls Try.prog 12 #[.float .f64 0] w fun e w' => e = .returned (.bool false) ∧ w' = w := by
  have o1 : (FloatKind.f64.format.order 0 0 == some .eq) = true := by decide +kernel
  have o2 := run_div div_pz
  have o3 : (FloatKind.f64.format.order 9218868437227405312 0 == some .lt) = false := by decide +kernel
  go_enter Try.func12, Try.ntmps12
  go_wp2_with fail
  go_ret
  exact ⟨rfl, rfl⟩

theorem negz_nz (w : World) : Calls Try.prog 12 #[.float .f64 9223372036854775808] w fun e w' => e = .returned (.bool true) ∧ w' = w := by
  have o1 : (FloatKind.f64.format.order 9223372036854775808 0 == some .eq) = true := by decide +kernel
  have o2 := run_div div_nz
  have o3 : (FloatKind.f64.format.order 18442240474082181120 0 == some .lt) = true := by decide +kernel
  go_enter Try.func12, Try.ntmps12
  go_wp2_with fail
  go_ret
  exact ⟨rfl, rfl⟩

theorem zero_words {x : Nat} (hlt : x < 2 ^ 64) (h : V x = 0) : x = 0 ∨ x = 9223372036854775808 := by
  have h1 := mg_zero h
  have h2 : rung x = 0 := mg_inj (by rw [h1, mg_small (by omega)])
  unfold rung at h2
  omega

theorem negz_any (x : Nat) (hx : Fin' x) (hlt : x < 2 ^ 64) : ∃ r : Bool, ∀ w, Calls Try.prog 12 #[.float .f64 x] w fun e w' => e = .returned (.bool r) ∧ w' = w := by
  by_cases h : V x = 0
  · rcases zero_words hlt h with rfl | rfl
    · exact ⟨false, negz_pz⟩
    · exact ⟨true, negz_nz⟩
  · exact ⟨false, fun w => negz_ne x w hx h⟩

end Go.Proofs.Qxb6602321a.Fl
