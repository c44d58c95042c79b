import Derived.Test.Qxb6602421aLabB
namespace Go.Proofs.Qxb6602421a.Lb
open Go.ChangeShapes Go.WideShapes Go.ChangeAt Go.RowKit
set_option linter.unusedVariables false

/-- It hands back v, grown to the bytes xs. -/
def RetStep (w w' : World) (base : Nat) (v : Value) (xs : List Int) (e : Ending) : Prop := ∃ v', e = .returned v' ∧ Own w' base v' xs ∧ Step w w' v v'

theorem lit_cells (w : World) (news : List Int) (cs : Array Value) (h : cs.toList = B news) : ∀ j, j < news.length → (w.alloc (.cells cs 5)).cell? ((⟨w.heap.size, 0, none⟩ : Addr).add j) = some (.int .u8 (news.getD j 0)) := by
  intro j hj
  rw [Addr.add_lit, Nat.zero_add, World.cell?_alloc_at cs 5 w.heap.size j rfl, ← Array.getElem?_toList, h, B_at hj]

theorem own_alloc {w : World} {base : Nat} {v : Value} {xs : List Int} (h : Own w base v xs) (o : Obj) : Own (w.alloc o) base v xs := World.ownsRow.alloc h o

set_option maxHeartbeats 1000000 in
theorem model_any (v : Value) (xs : List Int) (c : Int) (base : Nat) (w : World) (h : Own w base v xs) (hb : base ≤ w.heap.size) (hc0 : 0 ≤ c) (hc1 : c ≤ 255) (hn : xs.length ≤ 8388608) :
    Calls Try.prog 8 #[v, .int .u8 c] w fun e w' => RetStep w w' base v (xs ++ escB c) e := by
  have HO : Hid (Own w base v xs) := h
  clear h
  by_cases e1 : c = 46 ∨ c = 92
  · rw [escB_two e1]
    rcases e1 with rfl | rfl
    · go_enter Try.func8, Try.ntmps8
      go_wp2_with (at_builtin; (with_reducible refine wpList_append_mine ?_ (.tmp 14) (.tmp 16) ?_ base v xs ?_ (own_alloc HO.out _) ⟨w.heap.size, 0, none⟩ 2 2 ?_ [92, 46] ?_ (lit_cells w _ _ ?_) ?_ ?_ ?_); rfl; rfl; rfl; rfl; rfl; rfl; (simp; omega); (simp; omega); intro v' w' ho hst)
      go_ret
      exact ⟨_, rfl, ho.out, (Step.alloc _ _ _).trans hst.out⟩
    · go_enter Try.func8, Try.ntmps8
      go_wp2_with (at_builtin; (with_reducible refine wpList_append_mine ?_ (.tmp 14) (.tmp 16) ?_ base v xs ?_ (own_alloc HO.out _) ⟨w.heap.size, 0, none⟩ 2 2 ?_ [92, 92] ?_ (lit_cells w _ _ ?_) ?_ ?_ ?_); rfl; rfl; rfl; rfl; rfl; rfl; (simp; omega); (simp; omega); intro v' w' ho hst)
      go_ret
      exact ⟨_, rfl, ho.out, (Step.alloc _ _ _).trans hst.out⟩
  · have n1 : (c == 46) = false := by simp; omega
    have n2 : (c == 92) = false := by simp; omega
    by_cases e2 : 33 ≤ c ∧ c ≤ 126
    · rw [escB_bare ⟨e2.1, e2.2, by omega, by omega⟩]
      obtain ⟨e3, e4⟩ := e2
      clear e1
      go_enter Try.func8, Try.ntmps8
      go_wp2_with (at_builtin; (with_reducible refine wpList_append_mine ?_ (.tmp 24) (.tmp 26) ?_ base v xs ?_ (own_alloc HO.out _) ⟨w.heap.size, 0, none⟩ 1 1 ?_ [c] ?_ (lit_cells w _ _ ?_) ?_ ?_ ?_); rfl; rfl; rfl; rfl; rfl; rfl; (simp; omega); (simp; omega); intro v' w' ho hst)
      go_ret
      exact ⟨_, rfl, ho.out, (Step.alloc _ _ _).trans hst.out⟩
    · rw [escB_four e1 e2]
      clear e1
      have e5 : (decide (33 ≤ c) && decide (c ≤ 126)) = false := by simp; omega
      have e6 : c < 33 ∨ 126 < c := by omega
      clear e2
      rcases e6 with e6 | e6
      all_goals
        go_enter Try.func8, Try.ntmps8
        go_wp2_with fail
        go_loop [5, 6] (fun a b => ∃ h t : Int, 0 ≤ h ∧ h ≤ 2 ∧ 0 ≤ t ∧ t ≤ 255 ∧ a = .int .u8 h ∧ b = .int .u8 t ∧ 100 * h + t ≤ c ∧ c ≤ 100 * h + t) (fun _ b => (intOf b).toNat)
        case atStart => exact ⟨0, c, by omega, by omega, by omega, by omega, rfl, rfl, by omega, by omega⟩
        case round =>
          obtain ⟨h, t, h1, h2, h3, h4, rfl, rfl, h5, h6⟩ := hrel
          by_cases h7 : 100 ≤ t
          · go_wp2
            go_round
            case rel => exact ⟨h + 1, t - 100, by omega, by omega, by omega, by omega, by go_num, by go_num, by omega, by omega⟩
            case measure => simp [intOf]; omega
          · go_wp2_with fail
            go_loop [6, 7] (fun b a => ∃ q r : Int, 0 ≤ q ∧ q ≤ 9 ∧ 0 ≤ r ∧ r ≤ 99 ∧ a = .int .u8 q ∧ b = .int .u8 r ∧ 100 * h + 10 * q + r ≤ c ∧ c ≤ 100 * h + 10 * q + r ∧ 10 * q + r ≤ 99) (fun b _ => (intOf b).toNat)
            case atStart => exact ⟨0, t, by omega, by omega, by omega, by omega, rfl, rfl, by omega, by omega, by omega⟩
            case round =>
              obtain ⟨q, r, q1, q2, q3, q4, rfl, rfl, q5, q6, q7⟩ := hrel
              by_cases q8 : 10 ≤ r
              · go_wp2
                go_round
                case rel => exact ⟨q + 1, r - 10, by omega, by omega, by omega, by omega, by go_num, by go_num, by omega, by omega, by omega⟩
                case measure => simp [intOf]; omega
              · have D : Hid ([92, 48 + h, 48 + q, 48 + r] = [92, 48 + c / 100, 48 + c / 10 % 10, 48 + c % 10]) := by
                  have d1 : h = c / 100 := by omega
                  have d2 : q = c / 10 % 10 := by omega
                  have d3 : r = c % 10 := by omega
                  rw [← d1, ← d2, ← d3]; rfl
                go_wp2_with (at_builtin; (with_reducible refine wpList_append_mine ?_ (.tmp 41) (.tmp 48) ?_ base v xs ?_ (own_alloc HO.out _) ⟨w.heap.size, 0, none⟩ 4 4 ?_ [92, 48 + h, 48 + q, 48 + r] ?_ (lit_cells w _ _ ?_) ?_ ?_ ?_); rfl; rfl; rfl; rfl; rfl; rfl; (simp; omega); (simp; omega); intro v' w' ho hst)
                go_ret
                exact ⟨_, rfl, by rw [← D.out]; exact ho.out, (Step.alloc _ _ _).trans hst.out⟩

end Go.Proofs.Qxb6602421a.Lb
