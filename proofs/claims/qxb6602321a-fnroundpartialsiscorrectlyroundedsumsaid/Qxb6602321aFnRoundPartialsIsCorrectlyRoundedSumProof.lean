/-
  THE PROOF OF 'Rows.FnRoundPartialsIsCorrectlyRoundedSumSaid'.
-/
import Derived.Test.Qxb6602321aRows
import Derived.Test.Qxb6602321aFlU
import Derived.WalkKit
import Derived.ProofKit
import Derived.OpenShut
import Derived.ChangeOld
import Derived.Below
import Derived.Deep.Slices
namespace Go.Proofs.Qxb6602321a.fnRoundPartialsIsCorrectlyRoundedSum
open Go.ChangeShapes Go.WideShapes Go.ChangeAt Go.RowKit
open Go.Proofs.Qxb6602321a.Fl
open Go.Deep (open_slice1)
set_option linter.unusedVariables false

theorem own : ownKnob Try.prog.godebug = none := by kernel_rfl
theorem laidOut : laidOutB Try.prog = true := by kernel_rfl

/-- A slice that came in, its cells by the index. -/
theorem arg_of {w : World} {a : Option Addr} {len : Nat} {f : Nat → Value} (h : (a = none ∧ len = 0) ∨ ∃ x, a = some x ∧ ∀ i, i < len → w.cell? (x.add i) = some (f i)) : ∃ b o, Arg w a b o len f := by
  rcases h with ⟨rfl, rfl⟩ | ⟨x, rfl, hc⟩
  · exact ⟨0, 0, fun h => by omega, fun i hi => by omega⟩
  · by_cases hl : len = 0
    · subst hl
      exact ⟨0, 0, fun h => by omega, fun i hi => by omega⟩
    · obtain ⟨b, off, spot⟩ := x
      have h0 := hc 0 (by omega)
      have hspot : spot = none := by simpa [Addr.add] using World.cell?_spot h0
      subst hspot
      refine ⟨b, off, fun _ => rfl, fun i hi => ?_⟩
      have := hc i hi
      rwa [Addr.add_lit] at this

/-- A float's cell. -/
theorem trod_f64 {H : Type} {enc : TypeId × Value → H} {P : Program} {w : World} {base : Nat} {spare : Nat → Bool} {held : Bool} {fuel : Nat} {t : TypeId} {v : Value} {x : DataW H × List MemPlace}
    (ht : P.underlying t = some (.float .f64)) (h : DataW.trod enc P w base spare held fuel t [v] = some x) : ∃ b, v = .float .f64 b ∧ b < 2 ^ 64 := by
  cases fuel with
  | zero => simp [DataW.trod] at h
  | succ n =>
    unfold DataW.trod at h
    rw [ht] at h
    split at h <;> simp_all
    rename_i b hk
    subst hk
    exact of_decide_eq_true h.1.2

set_option maxRecDepth 100000 in
theorem lifted (os : Os) (started : os.Started) (H : Type) (enc : TypeId × Value → H) :
    ReturnsInHanded {} Try.checked os 3 .any (Rows.fnRoundPartialsIsCorrectlyRoundedSumSpec.pre6 enc Try.prog Try.f3 Rows.fnRoundPartialsIsCorrectlyRoundedSumRow.domain false) (Rows.fnRoundPartialsIsCorrectlyRoundedSumSpec.post enc Try.prog Try.f3 false true false false) := by
  refine returnsInHanded_of_change (C := Try.checked) own started (by kernel_rfl) Try.func3
    (ChangeSpec.witness6 (enc := enc) (C := Try.checked) false ⟨#[], #[.slice none 0 0], []⟩ 8 (by kernel_rfl) (by kernel_rfl) (by kernel_rfl) (by kernel_rfl)) ?_
  intro W base args ds gs before hval0 hW hcnd _
  have hval : ∀ (j : Nat) t v, Try.f3.params[j]? = some t → args[j]? = some v → Value.okWide Try.prog W .any base t v := hval0
  have hW' := hW
  obtain ⟨p, q, hA0, hV, rfl, hfz, hnd⟩ := hW
  have hA : DataW.TrodAll enc Try.prog W 0 (fun _ => true) true Try.f3.params.toList args.toList ds p := hA0
  rw [Try.params3] at hA hval
  obtain ⟨v0, vs0, d0, ds0, p0, q0, hargs, rfl, rfl, h0, r0⟩ := trodAll_cons hA
  obtain ⟨rfl, rfl, rfl⟩ := trodAll_nil r0
  obtain rfl : args = #[v0] := by cases args; simp_all
  obtain ⟨rfl, rfl⟩ := trodVars_none hV
  obtain ⟨a0, len0, cap0, rfl⟩ := okWide_slice Try.underlying22 (hval 0 22 v0 rfl rfl)
  have k0 := h0
  have lt0 : ∀ x ∈ p0, x.block < W.heap.size := by obtain ⟨m, hm⟩ := k0; exact DataW.trod_lt m _ _ _ hm
  obtain ⟨f0, w0, s0, m0⟩ : ∃ f : Nat → Nat, ((a0 = none ∧ len0 = 0) ∨ ∃ x, a0 = some x ∧ ∀ i, i < len0 → W.cell? (x.add i) = some (.float .f64 (f i))) ∧ (∀ i, i < len0 → f i < 2 ^ 64) ∧ len0 ≤ maxLen := by
    obtain ⟨fuel, hf⟩ := h0
    rcases open_slice1 Try.underlying22 (by kernel_rfl) hf with ⟨hcs, _⟩ | ⟨x, l, c, m, n, Vs, D, Pl, hcs, _, hl, hm, hmm, _, hcell⟩
    · simp [Value.cells] at hcs
      obtain ⟨rfl, rfl, rfl⟩ := hcs
      exact ⟨fun _ => 0, .inl ⟨rfl, rfl⟩, fun i hi => by omega, by unfold maxLen; omega⟩
    · simp [Value.cells] at hcs
      obtain ⟨rfl, rfl, rfl⟩ := hcs
      simp only [if_true] at hmm
      subst hmm
      have hex : ∀ i, ∃ b, i < m → Vs i = .float .f64 b ∧ b < 2 ^ 64 := fun i => by
        by_cases hi : i < m
        · obtain ⟨b, h1, h2⟩ := trod_f64 Try.underlying25 (hcell i hi).2
          exact ⟨b, fun _ => ⟨h1, h2⟩⟩
        · exact ⟨0, fun h => absurd h hi⟩
      refine ⟨fun i => Classical.choose (hex i), .inr ⟨_, rfl, fun i hi => ?_⟩, fun i hi => (Classical.choose_spec (hex i) (by omega)).2, by omega⟩
      rw [(hcell i (by omega)).1, (Classical.choose_spec (hex i) (by omega)).1]
  clear hA0 hval0
  obtain ⟨b0, o0, g0⟩ := arg_of w0
  refine (law3 f0 g0 s0 m0).mono fun e W' ⟨he, bel⟩ => ?_
  subst he
  exact ⟨_, rfl, _, _, _, [], _, [], hW', trodAll_mk1 (shut_bool Try.underlying4 _), (trodAll_cons_mk (Below.trod laidOut (by kernel_rfl) (of_decide_eq_true (by kernel_rfl)) k0 bel lt0) trodAll_mk0), rfl, bel.frame _, fun h => by cases h⟩

theorem over : Rows.fnRoundPartialsIsCorrectlyRoundedSumRow.holds Try.pinned (OpenSpec.ofChange Rows.fnRoundPartialsIsCorrectlyRoundedSumSpec) :=
  OpenClaim.holds_of_wide 3 Try.f3 rfl rfl rfl rfl rfl rfl rfl ⟨rfl, rfl, rfl, rfl, rfl⟩ rfl rfl rfl rfl rfl (by kernel_rfl) Try.func3 (by kernel_rfl)
    (of_decide_eq_true (by kernel_rfl)) (by unfold Func.isWrapper; first | (rw [if_pos (by decide +kernel)]; kernel_rfl) | (rw [if_neg (by decide +kernel)]; exact ⟨rfl, rfl⟩))
    (fun os started H enc _ => lifted os started H enc)

/-- ████ THE STATEMENT ████ -/
theorem proved : Rows.FnRoundPartialsIsCorrectlyRoundedSumSaid := over
#print axioms proved
end Go.Proofs.Qxb6602321a.fnRoundPartialsIsCorrectlyRoundedSum
