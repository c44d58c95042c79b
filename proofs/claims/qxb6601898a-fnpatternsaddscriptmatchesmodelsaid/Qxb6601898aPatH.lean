import Derived.Test.Qxb6601898aPatG
import Derived.Deep.RegionWith
namespace Go.Proofs.Qxb6601898a.Pt
open Go.ChangeShapes Go.WideShapes Go.ChangeAt Go.RowKit Go.Maps
set_option linter.unusedVariables false

/-- It returns a bool. -/
def RB (e : Ending) : Prop := ∃ r : Bool, e = .returned (.bool r)
theorem RB.mk (r : Bool) : RB (.returned (.bool r)) := ⟨r, rfl⟩

section
variable {pats : Nat → ByteArray} {w : World} {a1 a2 a3 : Option Addr} {b1 o1 b2 o2 b3 o3 n1 n2 n3 k1 k2 k3 : Nat}

set_option maxRecDepth 20000 in
theorem zz11 (h1 : Arg w a1 b1 o1 n1 n1 (fun i => .string (pats i))) (hs : ∀ i, i < n1 → (pats i).size ≤ maxLen) (m1 : n1 ≤ maxLen) (m2 : n2 ≤ maxLen) (m3 : n3 ≤ maxLen) :
    Calls Try.prog 11 #[.slice a1 n1 k1, .slice a2 n2 k2, .slice a3 n3 k3] w fun e w' => RB e ∧ w' = w := by
  unfold maxLen at m1 m2 m3
  have A1 := hide h1
  have HS := hide hs
  clear h1 hs
  by_cases g1 : (1048576 : Int) < n1
  · go_enter Try.func11, Try.ntmps11
    go_wp2_with fail
    go_ret
    exact ⟨RB.mk _, rfl⟩
  · have g1' : (n1 : Int) ≤ 1048576 := by omega
    clear g1
    go_enter Try.func11, Try.ntmps11
    go_wp2_with fail
    go_loopw [7, 8] (fun u v wr => ∃ i t : Nat, i ≤ n1 ∧ t ≤ 1048576 ∧ u = .int .i64 t ∧ v = .int .i64 i ∧ wr = w) (fun _ v _ => n1 - (intOf v).toNat)
    case atStart => exact ⟨0, n1, by omega, by omega, by go_num, rfl, rfl⟩
    case round =>
      obtain ⟨i, t, hi, ht, rfl, rfl, hw⟩ := hrel
      have hw := hw.symm
      subst hw
      by_cases hlt : i < n1
      · obtain rfl := A1.out.at' (by omega)
        have c1 : w.cell? ⟨b1, o1 + i, none⟩ = some (.string (pats i)) := A1.out.lt i hlt
        have hz := HS.out i hlt
        unfold maxLen at hz
        by_cases g2 : (1048576 : Int) < (pats i).size
        · go_wp2_with fail
          go_ret
          exact ⟨RB.mk _, rfl⟩
        · by_cases g3 : (1048576 : Int) < t + (pats i).size
          · go_wp2_with fail
            go_ret
            exact ⟨RB.mk _, rfl⟩
          · go_wp2_with fail
            go_roundw
            case rel => exact ⟨i + 1, t + (pats i).size, by omega, by omega, by go_num, by go_num, by trivial⟩
            case measure => simp [intOf]; omega
      · go_wp2
        all_goals (go_ret; exact ⟨RB.mk _, rfl⟩)

set_option maxRecDepth 20000 in
theorem fit12 (h1 : Arg w a1 b1 o1 n1 n1 (fun i => .string (pats i))) (hs : ∀ i, i < n1 → (pats i).size ≤ maxLen) (m1 : n1 ≤ maxLen) :
    Calls Try.prog 12 #[.slice a1 n1 k1] w fun e w' => RB e ∧ w' = w := by
  unfold maxLen at m1
  have A1 := hide h1
  have HS := hide hs
  clear h1 hs
  by_cases g1 : (32768 : Int) < n1
  · go_enter Try.func12, Try.ntmps12
    go_wp2_with fail
    go_ret
    exact ⟨RB.mk _, rfl⟩
  · have g1' : (n1 : Int) ≤ 32768 := by omega
    clear g1
    go_enter Try.func12, Try.ntmps12
    go_wp2_with fail
    go_loopw [3, 4] (fun u v wr => ∃ i t : Nat, i ≤ n1 ∧ t ≤ 524288 ∧ u = .int .i64 t ∧ v = .int .i64 i ∧ wr = w) (fun _ v _ => n1 - (intOf v).toNat)
    case atStart => exact ⟨0, 16 * n1, by omega, by omega, by go_num, rfl, rfl⟩
    case round =>
      obtain ⟨i, t, hi, ht, rfl, rfl, hw⟩ := hrel
      have hw := hw.symm
      subst hw
      by_cases hlt : i < n1
      · obtain rfl := A1.out.at' (by omega)
        have c1 : w.cell? ⟨b1, o1 + i, none⟩ = some (.string (pats i)) := A1.out.lt i hlt
        have hz := HS.out i hlt
        unfold maxLen at hz
        by_cases g2 : (524288 : Int) < (pats i).size
        · go_wp2_with fail
          go_ret
          exact ⟨RB.mk _, rfl⟩
        · by_cases g3 : (524288 : Int) < t + (pats i).size
          · go_wp2_with fail
            go_ret
            exact ⟨RB.mk _, rfl⟩
          · go_wp2_with fail
            go_roundw
            case rel => exact ⟨i + 1, t + (pats i).size, by omega, by omega, by go_num, by go_num, by trivial⟩
            case measure => simp [intOf]; omega
      · go_wp2_with fail
        go_ret
        exact ⟨RB.mk _, rfl⟩

theorem len13 (N : Nat) (hN : N = min (min n1 n2) n3) : Calls Try.prog 13 #[.slice a1 n1 k1, .slice a2 n2 k2, .slice a3 n3 k3] w fun e w' => e = .returned (.int .i64 N) ∧ w' = w := by
  by_cases g1 : (n2 : Int) < n1
  · by_cases g2 : (n3 : Int) < n2
    · obtain rfl : N = n3 := by omega
      clear hN
      go_enter Try.func13, Try.ntmps13
      go_wp2_with fail
      go_ret
      exact ⟨rfl, rfl⟩
    · obtain rfl : N = n2 := by omega
      clear hN
      go_enter Try.func13, Try.ntmps13
      go_wp2_with fail
      go_ret
      exact ⟨rfl, rfl⟩
  · by_cases g2 : (n3 : Int) < n1
    · obtain rfl : N = n3 := by omega
      clear hN
      go_enter Try.func13, Try.ntmps13
      go_wp2_with fail
      go_ret
      exact ⟨rfl, rfl⟩
    · obtain rfl : N = n1 := by omega
      clear hN
      go_enter Try.func13, Try.ntmps13
      go_wp2_with fail
      go_ret
      exact ⟨rfl, rfl⟩
end

theorem Arg.le {w : World} {ap : Option Addr} {b o n m : Nat} {f : Nat → Value} (h : Arg w ap b o m m f) (hn : n ≤ m) : Arg w ap b o n m f := ⟨fun h0 => h.at' (by omega), hn, fun i hi => h.lt i (by omega)⟩

theorem Arg.below {w w' : World} {ap : Option Addr} {b o n m : Nat} {f : Nat → Value} (h : Arg w ap b o n m f) (hb : Below w.heap.size w w') : Arg w' ap b o n m f :=
  ⟨h.at', h.len, fun i hi => (hb.cell (p := ⟨b, o + i, none⟩) (World.block_lt_of_cell? w ⟨b, o + i, none⟩ (h.lt i hi))).trans (h.lt i hi)⟩

theorem mem_new (w : World) : Mem (w.alloc (.cells #[.slice none 0 0, .slice none 0 0, .map none] 38)) (w.heap.size + 1) w.heap.size [] nilS nilS [] none := by
  refine ⟨⟨by omega, ?_, ?_, nil_own _ _ _ _, nil_own _ _ _ _, rfl, fun k hk => by simp at hk, fun i j k hi => by simp at hi⟩, .inl ⟨rfl, rfl⟩, List.Pairwise.nil⟩
  · show w.heap.size + 1 ≤ (w.heap.push _).size
    simp
  · refine World.rowIs_alloc w #[.slice none 0 0, .slice none 0 0, .map none] 38 _ (fun i hi => ?_)
    match i, hi with
    | 0, _ => rfl
    | 1, _ => rfl
    | 2, _ => rfl

theorem run_owners (pats : Nat → ByteArray) (ids : Nat → Int) (js : Nat → Bool) (n : Nat) : ∀ x ∈ run pats ids js n, x.2.length ≤ n := by
  rw [run_eq]
  intro x hx
  obtain ⟨e, _, rfl⟩ := List.mem_map.1 hx
  rw [own_length]
  exact cnt_le _ _

set_option maxRecDepth 20000 in
set_option maxHeartbeats 4000000 in
theorem law5 (pats : Nat → ByteArray) (ids : Nat → Int) (js : Nat → Bool) {w : World} {a1 a2 a3 : Option Addr} {b1 o1 b2 o2 b3 o3 n1 n2 n3 k1 k2 k3 : Nat}
    (h1 : Arg w a1 b1 o1 n1 n1 (fun i => .string (pats i))) (h2 : Arg w a2 b2 o2 n2 n2 (fun i => .int .i64 (ids i))) (h3 : Arg w a3 b3 o3 n3 n3 (fun i => .bool (js i)))
    (hs : ∀ i, i < n1 → (pats i).size ≤ maxLen) (hw : ∀ i, i < n2 → (Lit.int .i64 (ids i)).wf = true) (m1 : n1 ≤ maxLen) (m2 : n2 ≤ maxLen) (m3 : n3 ≤ maxLen) :
    Calls Try.prog 5 #[.slice a1 n1 k1, .slice a2 n2 k2, .slice a3 n3 k3] w fun e w' => e = .returned (.bool true) ∧ Below w.heap.size w w' := by
  have A1 := hide h1
  have A2 := hide h2
  have A3 := hide h3
  have HS := hide hs
  have HW := hide hw
  have M1 := hide m1
  have M2 := hide m2
  have M3 := hide m3
  unfold maxLen at m1 m2 m3
  clear h1 h2 h3 hs hw
  obtain ⟨N, hN⟩ : ∃ N, N = min (min n1 n2) n3 := ⟨_, rfl⟩
  have l1 : N ≤ n1 := by omega
  have l2 : N ≤ n2 := by omega
  have l3 : N ≤ n3 := by omega
  have HN := hide hN
  clear hN
  go_enter Try.func5, Try.ntmps5
  go_wp2_with fail
  refine (zz11 A1.out HS.out M1.out M2.out M3.out).mono ?_
  rintro _ w' ⟨⟨r, rfl⟩, hw⟩
  have hw := hw.symm
  subst hw
  cases r with
  | false => go_wp2_with fail; go_ret; exact ⟨rfl, Below.refl _ _⟩
  | true =>
    by_cases g2 : (32768 : Int) < n2
    · go_wp2_with fail; go_ret; exact ⟨rfl, Below.refl _ _⟩
    by_cases g3 : (65536 : Int) < n3
    · go_wp2_with fail; go_ret; exact ⟨rfl, Below.refl _ _⟩
    go_wp2_with fail
    refine (fit12 A1.out HS.out M1.out).mono ?_
    rintro _ w' ⟨⟨r, rfl⟩, hw⟩
    have hw := hw.symm
    subst hw
    cases r with
    | false => go_wp2_with fail; go_ret; exact ⟨rfl, Below.refl _ _⟩
    | true =>
      go_wp2_with fail
      refine (len13 N HN.out).mono ?_
      rintro _ w' ⟨rfl, hw⟩
      have hw := hw.symm
      subst hw
      by_cases g4 : (4096 : Int) < N
      · go_wp2_with fail; go_ret; exact ⟨rfl, Below.refl _ _⟩
      go_wp2_with fail
      have MN := hide (mem_new w)
      have BN : Hid (Below w.heap.size w (w.alloc (.cells #[.slice none 0 0, .slice none 0 0, .map none] 38))) := (Below.refl _ _).alloc (Nat.le_refl _) _
      go_loopw [9] (fun u wr => ∃ j : Nat, j ≤ N ∧ u = .int .i64 j ∧ Hid (∃ lv ov vs mb, Mem wr (w.heap.size + 1) w.heap.size (run pats ids js j) lv ov vs mb) ∧ Hid (Below w.heap.size w wr)) (fun u _ => N - (intOf u).toNat)
      case atStart => exact ⟨0, by omega, rfl, ⟨_, _, _, _, MN⟩, BN⟩
      case round =>
        obtain ⟨j, hj, rfl, HM, HB⟩ := hrel
        clear MN BN
        by_cases hlt : j < N
        · obtain rfl := A1.out.at' (by omega)
          obtain rfl := A2.out.at' (by omega)
          obtain rfl := A3.out.at' (by omega)
          have c1 : wr.cell? ⟨b1, o1 + j, none⟩ = some (.string (pats j)) := (A1.out.below HB.out).lt j (by omega)
          have c2 : wr.cell? ⟨b2, o2 + j, none⟩ = some (.int .i64 (ids j)) := (A2.out.below HB.out).lt j (by omega)
          have c3 : wr.cell? ⟨b3, o3 + j, none⟩ = some (.bool (js j)) := (A3.out.below HB.out).lt j (by omega)
          have CA : Hid (Calls Try.prog 14 #[.pointer (some ⟨w.heap.size, 0, none⟩), .string (pats j), .int .i64 (ids j), .bool (js j)] wr.drew fun e w' => e = .returned (.tuple #[]) ∧ Hid (∃ lv ov vs mb, Mem w' (w.heap.size + 1) w.heap.size (run pats ids js (j + 1)) lv ov vs mb) ∧ Hid (Below w.heap.size w w')) := by
            obtain ⟨lv, ov, vs, mb, hm⟩ := HM.out
            refine (add_any _ _ _ lv ov vs mb (pats j) (ids j) (js j) wr.drew (hm.beside ⟨rfl, rfl, rfl, Nat.le_refl _, fun _ _ _ => rfl⟩) (HS.out j (by omega)) ?_ ?_ (HW.out j (by omega))).mono ?_
            · rw [run_length]
              have := cnt_le (fp pats) j
              omega
            · intro x hx
              have := run_owners pats ids js j x hx
              omega
            · rintro e w' ⟨rfl, hm', hb'⟩
              exact ⟨rfl, hm', HB.out.drew.trans hb'⟩
          clear HM HB
          go_wp2_with fail
          go_region_held (fun w' => w'.cell? ⟨b1, o1 + j, none⟩ = some (.string (pats j)) ∧ w'.cell? ⟨b2, o2 + j, none⟩ = some (.int .i64 (ids j)) ∧ w'.cell? ⟨b3, o3 + j, none⟩ = some (.bool (js j)))
            (first | exact ⟨c1, c2, c3⟩ | exact ⟨d1, d2, d3⟩)
            (first | (go_at_call 14; refine CA.out.mono ?_; rintro e w8 ⟨rfl, HM8, HB8⟩; have d1 : w8.cell? ⟨b1, o1 + j, none⟩ = some (.string (pats j)) := (A1.out.below HB8.out).lt j (by omega); have d2 : w8.cell? ⟨b2, o2 + j, none⟩ = some (.int .i64 (ids j)) := (A2.out.below HB8.out).lt j (by omega); have d3 : w8.cell? ⟨b3, o3 + j, none⟩ = some (.bool (js j)) := (A3.out.below HB8.out).lt j (by omega)))
          all_goals
            go_wp2_with fail
            go_roundw
            case rel => exact ⟨j + 1, by omega, by go_num, HM8, HB8⟩
            case measure => simp [intOf]; omega
        · have hjN : N = j := by omega
          subst hjN
          obtain ⟨lv, ov, vs, mb, hm⟩ := HM.out
          have CG : Hid (Calls Try.prog 15 #[.pointer (some ⟨w.heap.size, 0, none⟩), .slice a1 n1 k1, .slice a2 n2 k2, .slice a3 n3 k3, .int .i64 N] wr fun e w' => e = .returned (.bool true) ∧ wr.grownBy w' none) :=
            agree_any pats ids js N (by omega) hm (fun i hi => HS.out i (by omega)) ((A1.out.below HB.out).le l1) ((A2.out.below HB.out).le l2) ((A3.out.below HB.out).le l3)
          have hsz : w.heap.size ≤ wr.heap.size := by have := hm.core.sz; omega
          clear hm
          go_wp2_with fail
          refine CG.out.mono ?_
          rintro e w9 ⟨rfl, hw9⟩
          go_wp2_with fail
          go_ret
          exact ⟨rfl, HB.out.trans (below_grown hw9 hsz (fun k e => by cases e))⟩

end Go.Proofs.Qxb6601898a.Pt
