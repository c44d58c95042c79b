import Derived.Test.Qxb6602321aFlK
namespace Go.Proofs.Qxb6602321a.Fl
open Go.ChangeShapes Go.WideShapes Go.ChangeAt Go.RowKit
set_option linter.unusedVariables false

/-- What is known at the break. -/
structure Brk (p : Nat → Nat) (n i : Nat) (s : Int) (z l : Nat) : Prop where
  fz : Fin' z
  fl : Fin' l
  vz : V z = R s
  vl : V l = s - V z
  up : Upper p n i s
  ne : s ≠ 0

theorem Brk.tot {p : Nat → Nat} {n i z l : Nat} {s : Int} (h : Brk p n i s z l) : pre (fun k => V (p k)) n = s + pre (fun k => V (p k)) i := by have := h.up.eq; omega

theorem Brk.zero {p : Nat → Nat} {n z l : Nat} {s : Int} (h : Brk p n 0 s z l) : RpRet p n (.returned (.float .f64 z)) := by
  have ht := h.tot
  have e : pre (fun k => V (p k)) 0 = 0 := rfl
  rw [e, Int.add_zero] at ht
  exact ⟨z, rfl, h.fz, by rw [ht]; exact h.vz, fun h0 => absurd (by rw [← ht]; exact h0) h.ne⟩

/-- At a break above place 0: the facts on the rest. -/
theorem Brk.rest {p : Nat → Nat} {n j z l : Nat} {s : Int} (hok : OKp p n) (hj : j + 1 < n) (h : Brk p n (j + 1) s z l) (hl : V l ≠ 0) :
    ∃ t, Inx s (V z) t ∧ pre (fun k => V (p k)) (j + 1) < P t ∧ -P t < pre (fun k => V (p k)) (j + 1) ∧ (V (p j) = 0 → pre (fun k => V (p k)) (j + 1) = 0) ∧ (0 < V (p j) → 0 < pre (fun k => V (p k)) (j + 1)) ∧ (V (p j) < 0 → pre (fun k => V (p k)) (j + 1) < 0) ∧ pre (fun k => V (p k)) n ≠ 0 := by
  obtain ⟨t, a1, a2, a3⟩ := hok.next hj
  obtain ⟨r1, r2, r3, r4, r5⟩ := hok.rest j hj t a1 a2
  have hd := h.up.dv t (by omega) a3
  refine ⟨t, ⟨h.vz, by rw [← h.vl]; exact hl, hd⟩, r1, r2, r3, r4, r5, ?_⟩
  have := dvd_le hd h.ne
  rw [h.tot]
  omega

theorem Brk.keep {p : Nat → Nat} {n j z l : Nat} {s : Int} (hok : OKp p n) (hj : j + 1 < n) (h : Brk p n (j + 1) s z l) (hl : V l ≠ 0)
    (hc : ¬ ((V l < 0 ∧ V (p j) < 0) ∨ (0 < V l ∧ 0 < V (p j))) ∨ (2 * V l < P (Ez s) ∧ -P (Ez s) < 2 * V l)) : RpRet p n (.returned (.float .f64 z)) := by
  obtain ⟨t, hI, r1, r2, r3, r4, r5, r6⟩ := h.rest hok hj hl
  refine ⟨z, rfl, h.fz, ?_, fun h0 => absurd h0 r6⟩
  rw [h.tot]
  rw [h.vl] at hc hl
  refine (hI.stays r1 r2 ?_).symm
  rcases hc with hc | hc
  · by_cases e0 : V (p j) = 0
    · exact .inl (r3 e0)
    · by_cases e1 : 0 < V (p j)
      · have := r4 e1
        right; left; omega
      · have := r5 (by omega)
        right; right; left; omega
  · right; right; right
    exact hc

theorem Brk.turn {p : Nat → Nat} {n j z l x : Nat} {s : Int} (hok : OKp p n) (hj : j + 1 < n) (h : Brk p n (j + 1) s z l) (hl : V l ≠ 0)
    (hc : (V l < 0 ∧ V (p j) < 0) ∨ (0 < V l ∧ 0 < V (p j))) (ht : 2 * V l = P (Ez s) ∨ 2 * V l = -P (Ez s)) (fx : Fin' x) (vx : V x = V z + 2 * (s - V z)) : RpRet p n (.returned (.float .f64 x)) := by
  obtain ⟨t, hI, r1, r2, r3, r4, r5, r6⟩ := h.rest hok hj hl
  refine ⟨x, rfl, fx, ?_, fun h0 => absurd h0 r6⟩
  rw [h.tot, vx]
  have hG := P_pos (Ez s)
  rw [h.vl] at hc ht
  refine (hI.turns r1 r2 ?_).symm
  rcases hc with ⟨c1, c2⟩ | ⟨c1, c2⟩
  · have := r5 c2
    right; omega
  · have := r4 c2
    left; omega

set_option maxRecDepth 20000 in
set_option maxHeartbeats 2000000 in
theorem rp_any (p : Nat → Nat) {w : World} {b o n c : Nat} (hn : n ≤ 1048576) (hn0 : 0 < n) (ha : ∀ i, i < n → w.cell? ⟨b, o + i, none⟩ = some (.float .f64 (p i))) (hok : OKp p n) :
    Calls Try.prog 20 #[.slice (some ⟨b, o, none⟩) n c] w fun e w' => RpRet p n e ∧ ∃ k, w' = w.drewN k := by
  have A := hide ha
  have OK := hide hok
  obtain ⟨N, rfl⟩ : ∃ N, n = N + 1 := ⟨n - 1, by omega⟩
  have cN : w.cell? ⟨b, o + N, none⟩ = some (.float .f64 (p N)) := ha N (by omega)
  have U0 : Hid (Fin' (p N) ∧ Upper p (N + 1) N (V (p N)) ∧ (V (p N) ≠ 0 ∨ (N + 1 = 1 ∧ p N = p 0))) := by
    refine ⟨hok.fin N (by omega), hok.upper_top, ?_⟩
    by_cases e : N = 0
    · right; rw [e]; exact ⟨rfl, rfl⟩
    · left; exact hok.nz N (by omega) (by omega)
  clear ha hok
  go_enter Try.func20, Try.ntmps20
  go_wp2_with fail
  go_loopw [3, 4, 5] (fun u v x wr => ∃ (i b l : Nat), i < N + 1 ∧ u = .int .i64 i ∧ v = .float .f64 b ∧ x = .float .f64 l ∧ Hid (Fin' b ∧ Upper p (N + 1) i (V b) ∧ (V b ≠ 0 ∨ (N + 1 = 1 ∧ b = p 0))) ∧ ∃ k, wr = w.drewN k) (fun u _ _ _ => (intOf u).toNat)
  case atStart => exact ⟨N, p N, 0, by omega, by go_num, rfl, rfl, U0, 0, rfl⟩
  case round =>
    obtain ⟨i, h, l, hi, rfl, rfl, rfl, U, kd, hw⟩ := hrel
    subst hw
    clear U0 cN
    cases i with
    | zero =>
      go_wp2_with fail
      go_ret
      refine ⟨⟨h, rfl, U.out.1, ?_, fun h0 => ?_⟩, _, rfl⟩
      · have e := U.out.2.1.eq
        have e0 : pre (fun k => V (p k)) 0 = 0 := rfl
        rw [e0, Int.sub_zero] at e
        rw [← e, V_rep]
      · have e := U.out.2.1.eq
        have e0 : pre (fun k => V (p k)) 0 = 0 := rfl
        rw [e0, Int.sub_zero, h0] at e
        rcases U.out.2.2 with h1 | h1
        · exact absurd e h1
        · exact h1.2
    | succ i =>
      obtain ⟨z, d, l', hz, hd, hl, fz, fl, vz, vl, hu, hne⟩ := round_step OK.out (by omega) U.out.1 U.out.2.1
      have o1 := run_add hz
      have o2 := run_sub hd
      have o3 := run_sub hl
      have ci : w.cell? ⟨b, o + i, none⟩ = some (.float .f64 (p i)) := A.out i (by omega)
      have BR : Hid (Brk p (N + 1) i (V h + V (p i)) z l') := ⟨fz, fl, vz, vl, hu, hne⟩
      clear hz hd hl fz fl vz vl hu hne
      by_cases hl0 : V l' = 0
      · have o4 : (FloatKind.f64.format.order l' 0 != some .eq) = false := neq_f BR.out.fl fin_zero (by rw [V_zero]; exact hl0)
        have HL := hide hl0
        clear hl0
        go_wp2_with fail
        go_quiet (fail)
        go_wp2_with fail
        go_roundw
        case rel =>
          have e : V z = V h + V (p i) := by have := BR.out.vl; have := HL.out; omega
          exact ⟨i, z, l', by omega, by go_num, rfl, rfl, ⟨BR.out.fz, by rw [e]; exact BR.out.up, .inl (by rw [e]; exact BR.out.ne)⟩, _, rfl⟩
        case measure => simp [intOf]
      · have o4 : (FloatKind.f64.format.order l' 0 != some .eq) = true := neq_t BR.out.fl fin_zero (by rw [V_zero]; exact hl0)
        have HL := hide hl0
        clear hl0
        cases i with
        | zero =>
          have ci0 : w.cell? ⟨b, o, none⟩ = some (.float .f64 (p 0)) := ci
          go_wp2_with fail
          go_quiet (fail)
          go_wp2_with fail
          go_ret
          exact ⟨BR.out.zero, _, rfl⟩
        | succ j =>
          have cj : w.cell? ⟨b, o + j, none⟩ = some (.float .f64 (p j)) := A.out j (by omega)
          have FJ := hide (OK.out.fin j (by omega))
          obtain ⟨t, hI, _⟩ := BR.out.rest OK.out (by omega) HL.out
          obtain ⟨m, x, d2, hm, hx, hd2, fm, fx, fd, hcase⟩ := last_step hI BR.out.fz BR.out.fl BR.out.vl BR.out.up.lt BR.out.up.gt
          have q1 : ∀ w, (binOp .mul 25 (.float .f64 l') (.float .f64 4611686018427387904)).run Try.prog w = .ok (.float .f64 m) w := run_mul hm
          have q2 := run_add hx
          have q3 := run_sub hd2
          have HC := hide hcase
          have FX := hide fx
          have FM := hide fm
          have FD := hide fd
          clear hI hm hx hd2 fm fx fd hcase
          by_cases hl1 : V l' < 0
          · have r1 : (FloatKind.f64.format.order l' 0 == some .lt) = true := lss_t BR.out.fl fin_zero (by rw [V_zero]; exact hl1)
            have r3 : (FloatKind.f64.format.order l' 0 == some .gt) = false := gtr_f BR.out.fl fin_zero (by rw [V_zero]; omega)
            by_cases hp1 : V (p j) < 0
            · have r2 : (FloatKind.f64.format.order (p j) 0 == some .lt) = true := lss_t FJ.out fin_zero (by rw [V_zero]; exact hp1)
              have HS : Hid ((V l' < 0 ∧ V (p j) < 0) ∨ (0 < V l' ∧ 0 < V (p j))) := .inl ⟨hl1, hp1⟩
              clear hl1 hp1
              rcases HC.out with ⟨c1, c2, c3⟩ | ⟨c1, c2, c3⟩
              · have r4 : (FloatKind.f64.format.order d2 m == some .eq) = true := eql_t FD.out FM.out c2
                have C1 := hide c1
                have C3 := hide c3
                clear c1 c2 c3
                go_wp2_with fail
                go_quiet (fail)
                go_wp2_with fail
                go_ret
                exact ⟨BR.out.turn OK.out (by omega) HL.out HS.out C1.out FX.out C3.out, _, rfl⟩
              · have r4 : (FloatKind.f64.format.order d2 m == some .eq) = false := eql_f FD.out FM.out c3
                have C1 := hide c1
                have C2 := hide c2
                clear c1 c2 c3
                go_wp2_with fail
                go_quiet (fail)
                go_wp2_with fail
                go_ret
                exact ⟨BR.out.keep OK.out (by omega) HL.out (.inr ⟨C1.out, C2.out⟩), _, rfl⟩
            · have r2 : (FloatKind.f64.format.order (p j) 0 == some .lt) = false := lss_f FJ.out fin_zero (by rw [V_zero]; omega)
              have HS : Hid (¬ ((V l' < 0 ∧ V (p j) < 0) ∨ (0 < V l' ∧ 0 < V (p j)))) := by
                show ¬ _
                omega
              clear hl1 hp1
              go_wp2_with fail
              go_quiet (fail)
              go_wp2_with fail
              go_ret
              exact ⟨BR.out.keep OK.out (by omega) HL.out (.inl HS.out), _, rfl⟩
          · have hl2 : 0 < V l' := by have := HL.out; omega
            have r1 : (FloatKind.f64.format.order l' 0 == some .lt) = false := lss_f BR.out.fl fin_zero (by rw [V_zero]; omega)
            have r3 : (FloatKind.f64.format.order l' 0 == some .gt) = true := gtr_t BR.out.fl fin_zero (by rw [V_zero]; exact hl2)
            by_cases hp1 : 0 < V (p j)
            · have r2 : (FloatKind.f64.format.order (p j) 0 == some .gt) = true := gtr_t FJ.out fin_zero (by rw [V_zero]; exact hp1)
              have HS : Hid ((V l' < 0 ∧ V (p j) < 0) ∨ (0 < V l' ∧ 0 < V (p j))) := .inr ⟨hl2, hp1⟩
              clear hl1 hl2 hp1
              rcases HC.out with ⟨c1, c2, c3⟩ | ⟨c1, c2, c3⟩
              · have r4 : (FloatKind.f64.format.order d2 m == some .eq) = true := eql_t FD.out FM.out c2
                have C1 := hide c1
                have C3 := hide c3
                clear c1 c2 c3
                go_wp2_with fail
                go_quiet (fail)
                go_wp2_with fail
                go_ret
                exact ⟨BR.out.turn OK.out (by omega) HL.out HS.out C1.out FX.out C3.out, _, rfl⟩
              · have r4 : (FloatKind.f64.format.order d2 m == some .eq) = false := eql_f FD.out FM.out c3
                have C1 := hide c1
                have C2 := hide c2
                clear c1 c2 c3
                go_wp2_with fail
                go_quiet (fail)
                go_wp2_with fail
                go_ret
                exact ⟨BR.out.keep OK.out (by omega) HL.out (.inr ⟨C1.out, C2.out⟩), _, rfl⟩
            · have r2 : (FloatKind.f64.format.order (p j) 0 == some .gt) = false := gtr_f FJ.out fin_zero (by rw [V_zero]; omega)
              have HS : Hid (¬ ((V l' < 0 ∧ V (p j) < 0) ∨ (0 < V l' ∧ 0 < V (p j)))) := by
                show ¬ _
                omega
              clear hl1 hl2 hp1
              go_wp2_with fail
              go_quiet (fail)
              go_wp2_with fail
              go_ret
              exact ⟨BR.out.keep OK.out (by omega) HL.out (.inl HS.out), _, rfl⟩

end Go.Proofs.Qxb6602321a.Fl
