import Derived.Test.Qxb6601898aPatC
import Derived.Deep.DeepCutAuto
import Derived.Deep.Light
import Derived.Deep.RegionHeldLaw
import Derived.Deep.RegionLaw
namespace Go.Proofs.Qxb6601898a.Pt
open Go.ChangeShapes Go.WideShapes Go.ChangeAt Go.RowKit Go.Maps
set_option linter.unusedVariables false

/-- The memory of a Patterns that holds S. -/
structure Mem (w : World) (base Pb : Nat) (S : St) (lv ov : Value) (vs : List Value) (mb : Option Nat) : Prop where
  core : Core w base Pb lv ov mb (S.map (fun x => .string x.1)) vs (S.map (·.2))
  map : (mb = none ∧ S = []) ∨ ∃ b, mb = some b ∧ base ≤ b ∧ MapOK w b (S.map (·.1))
  uniq : S.Pairwise (fun x y => x.1 ≠ y.1)

theorem Mem.c0 {w : World} {base Pb : Nat} {S : St} {lv ov : Value} {vs : List Value} {mb : Option Nat} (h : Mem w base Pb S lv ov vs mb) : w.cell? ⟨Pb, 0, none⟩ = some lv := h.core.st.cell (i := 0) (by omega)
theorem Mem.c1 {w : World} {base Pb : Nat} {S : St} {lv ov : Value} {vs : List Value} {mb : Option Nat} (h : Mem w base Pb S lv ov vs mb) : w.cell? ⟨Pb, 1, none⟩ = some ov := h.core.st.cell (i := 1) (by omega)
theorem Mem.c2 {w : World} {base Pb : Nat} {S : St} {lv ov : Value} {vs : List Value} {mb : Option Nat} (h : Mem w base Pb S lv ov vs mb) : w.cell? ⟨Pb, 2, none⟩ = some (.map mb) := h.core.st.cell (i := 2) (by omega)
theorem Mem.f (i : Nat) {w : World} {base Pb : Nat} {S : St} {lv ov : Value} {vs : List Value} {mb : Option Nat} (h : Mem w base Pb S lv ov vs mb) : w.frozen? ⟨Pb, i, none⟩ = false := h.core.st.frozen i

/-- Beside it. -/
theorem Mem.beside {w w' : World} {base Pb : Nat} {S : St} {lv ov : Value} {vs : List Value} {mb : Option Nat} (h : Mem w base Pb S lv ov vs mb) (hg : w.grownBy w' none) : Mem w' base Pb S lv ov vs mb := by
  refine ⟨h.core.beside hg (off_none w), ?_, h.uniq⟩
  rcases h.map with h1 | ⟨b, h1, h2, h3⟩
  · exact .inl h1
  · exact .inr ⟨b, h1, h2, h3.kept hg (by simp)⟩

/-- 'p.ids = map[string]int{}' -/
theorem Mem.make {w : World} {base Pb : Nat} {lv ov : Value} {vs : List Value} (h : Mem w base Pb [] lv ov vs none) : Mem ((w.setCell ⟨Pb, 2, none⟩ (.map (some w.heap.size))).alloc (.map #[] 0)) base Pb [] lv ov vs (some w.heap.size) := by
  rw [← World.setCell_alloc_past _ _ _ _ (by have := h.core.pb; have := h.core.sz; omega)]
  have hm := MapOK.made w
  refine ⟨(h.core.beside (World.grownBy_alloc w _ none) (off_none w)).setMap, .inr ⟨w.heap.size, rfl, h.core.sz, hm.kept (grown_set _ _ _) ?_⟩, h.uniq⟩
  have h1 := h.core.pb
  have h2 := h.core.sz
  simp
  omega

open Go.WideMaps Go.WideElems in
theorem key_mk {p : ByteArray} (h : p.size ≤ maxLen) : keyOf Try.prog 9 (.string p) = some (keyL p) := keyOf_string_mk Try.underlying9 h

/-- From place Pb on. -/
theorem below_grown {w w' : World} {Pb : Nat} {row : Option Nat} (hg : w.grownBy w' row) (hP : Pb ≤ w.heap.size) (hr : ∀ k, row = some k → Pb ≤ k) : Below Pb w w' := (Below.refl Pb w).grown hg hP hr

theorem slice_form {w : World} {base : Nat} {e : TypeId} {size : Nat} {v : Value} {n : Nat} {xs : List Value} (h : w.ownsRow base e size v n xs) : ∃ a c, v = .slice a n c := by
  rcases h.2 with ⟨rfl, rfl⟩ | ⟨g, cap, cur, rfl, _⟩
  · exact ⟨none, 0, rfl⟩
  · exact ⟨_, _, rfl⟩

theorem off_map {w : World} {b n : Nat} {D : DataW Unit} (h : w.ownsMap Try.prog 9 (plainElem Try.prog 3) b n D) : Off w (some b) := by
  intro k e
  cases e
  obtain ⟨es, clk, hb, _⟩ := h
  exact .inl ⟨es, clk, hb⟩

theorem own_len {w : World} {base : Nat} {e : TypeId} {size : Nat} {v : Value} {n n' : Nat} {xs : List Value} (h : w.ownsRow base e size v n xs) (hn : n = n') : w.ownsRow base e size v n' xs := by rw [← hn]; exact h

theorem cell_one_at (w : World) (x : Value) (t : TypeId) {n : Nat} (hn : n = w.heap.size) : ∀ j u, [x][j]? = some u → (w.alloc (.cells #[x] t)).cell? ((⟨n, 0, none⟩ : Addr).add j) = some u := by
  subst hn
  exact cell_one_new w x t

theorem one_cell (x : Value) (h : x.oneCell' = true) : ∀ u ∈ [x], u.oneCell' = true := by
  intro u hu
  rw [List.mem_singleton.1 hu]; exact h

/-- The pattern's place, made where it lacked. -/
def Put (S S1 : St) (p : ByteArray) (k : Nat) : Prop :=
  ∃ h : k < S1.length, S1[k].1 = p ∧ (∀ id b, addPat S p id b = S1.set k (p, addOwner S1[k].2 id b)) ∧ S1.length ≤ S.length + 1 ∧ ((S1[k].2 = []) ∨ S1[k] ∈ S)

theorem put_found {S : St} {p : ByteArray} {k : Nat} (hu : S.Pairwise (fun x y => x.1 ≠ y.1)) (hk : k < S.length) (hp : S[k].1 = p) : Put S S p k := by
  refine ⟨hk, hp, fun id b => addPat_at hk hp (fun j hj hlt => ?_), by omega, .inr (List.getElem_mem hk)⟩
  rw [← hp]
  exact List.pairwise_iff_getElem.1 hu j k hj hk hlt

theorem put_new {S : St} {p : ByteArray} (hp : p ∉ S.map (·.1)) : Put S (S ++ [(p, [])]) p S.length := by
  refine ⟨by simp, by simp, fun id b => ?_, by simp, .inl (by simp)⟩
  rw [addPat_new (fun x hx e => hp (by rw [← e]; exact List.mem_map.2 ⟨x, hx, rfl⟩))]
  simp [addOwner]

theorem map_set1 {S : St} {k : Nat} (hk : k < S.length) (q : Owners) {β : Type} (f : ByteArray → β) : (S.set k (S[k].1, q)).map (fun x => f x.1) = S.map (fun x => f x.1) := by
  rw [List.map_set]
  apply List.ext_getElem?
  intro i
  by_cases e : i = k
  · subst e
    rw [List.getElem?_set_self (by simpa using hk)]
    simp [hk]
  · rw [List.getElem?_set_ne (fun h => e h.symm)]

/-- The owners of one pattern have turned. -/
theorem mem_set {w' : World} {base Pb : Nat} {S : St} {lv ov : Value} {vs' : List Value} {bb k : Nat} {q : Owners} (hk : k < S.length) (hc : Core w' base Pb lv ov (some bb) (S.map (fun x => .string x.1)) vs' ((S.map (·.2)).set k q)) (hbb : base ≤ bb) (hm : MapOK w' bb (S.map (·.1))) (hu : S.Pairwise (fun x y => x.1 ≠ y.1)) :
    Mem w' base Pb (S.set k (S[k].1, q)) lv ov vs' (some bb) := by
  refine ⟨?_, .inr ⟨bb, rfl, hbb, ?_⟩, ?_⟩
  · have e1 := map_set1 hk q (fun p => Value.string p)
    rw [e1, List.map_set]
    exact hc
  · have e1 := map_set1 hk q (fun p => p)
    rw [e1]
    exact hm
  · have h1 : (S.map (fun x => x.1)).Pairwise (· ≠ ·) := List.pairwise_map.2 hu
    rw [← map_set1 hk q (fun p => p)] at h1
    exact List.pairwise_map.1 h1

theorem js_end {S S1 : St} {p : ByteArray} {k j : Nat} {os : Owners} {x : Int} {y b : Bool} (hk : k < S1.length) (hkp : S1[k].1 = p) (hos : os = S1[k].2) (hlt : j < os.length) (hx : x = os[j].1) (hy : y = os[j].2) (hj : ∀ i, (h : i < os.length) → i < j → os[i].1 ≠ x)
    (hadd : addPat S p x b = S1.set k (p, addOwner S1[k].2 x b)) : addPat S p x b = S1.set k (S1[k].1, os.set j (os[j].1, y && b)) := by
  rw [hadd, ← hos, addOwner_at hlt hx.symm hj, hkp, hy, hx]

theorem info9 : (Try.prog.info? 9).map (fun i => (i.zero, i.size, i.bytes)) = some (some (.string ByteArray.empty), 1, 16) := by kernel_rfl
theorem info53 : (Try.prog.info? 53).map (fun i => (i.zero, i.size, i.bytes)) = some (some (.slice none 0 0), 1, 24) := by kernel_rfl
theorem info55 : (Try.prog.info? 55).map (fun i => (i.zero, i.size, i.bytes)) = some (some (.agg #[.int .i64 0, .bool false]), 2, 16) := by kernel_rfl

theorem news_two (w : World) (x y : Value) (t : TypeId) : ∀ j u, [x, y][j]? = some u → (w.alloc (.cells #[x, y] t)).drew.cell? ((⟨w.heap.size, 0, none⟩ : Addr).add j) = some u :=
  World.news_of_block (cs := #[x, y]) (t := t) (fr := (0, 0)) (by show (w.heap.push _)[w.heap.size]? = _; simp)
theorem two_cells (x y : Value) (hx : x.oneCell' = true) (hy : y.oneCell' = true) : ∀ u ∈ [x, y], u.oneCell' = true := by
  intro u hu
  simp only [List.mem_cons, List.not_mem_nil, or_false] at hu
  rcases hu with e | e <;> rw [e] <;> assumption
theorem grown_new (w : World) (o : Obj) (row : Option Nat) : w.grownBy (w.alloc o).drew row := (World.grownBy_alloc w o row).trans ⟨rfl, rfl, rfl, Nat.le_refl _, fun _ _ _ => rfl⟩
theorem cell_at {w : World} {base go co k n : Nat} {vs : List Value} {v : Value} (h : w.ownsRow base 53 1 (.slice (some ⟨go, 0, none⟩) n co) vs.length vs) (hn : vs.length = n) (hk : k < n) (hv : v = vs.getD k nilS) : w.cell? ⟨go, k, none⟩ = some v := by
  rw [hn] at h
  rw [h.cellAt k (by omega), hv]
  simp [List.getD_eq_getElem?_getD, show k < vs.length by omega]

/-- The new owner stands. -/
theorem add_end {S S1 : St} {p : ByteArray} {k j : Nat} {os : Owners} {id : Int} {b : Bool} {w wr w2 : World} {base Pb bb go co cap g2 cap2 : Nat} {lv : Value} {vs : List Value} {av : Option Addr}
    (hk : k < S1.length) (hkp : S1[k].1 = p) (hos : os = S1[k].2) (hadd : ∀ id b, addPat S p id b = S1.set k (p, addOwner S1[k].2 id b))
    (hm : Mem wr base Pb S1 lv (.slice (some ⟨go, 0, none⟩) S1.length co) vs (some bb)) (he : wr.ownsRow base 55 2 (.slice av os.length cap) os.length (oc os))
    (hj : ∀ i, (h : i < os.length) → i < j → os[i].1 ≠ id) (hlt : ¬ j < os.length) (hv : Value.slice av os.length cap = vs.getD k nilS) (hvl : vs.length = S1.length) (hbb : base ≤ bb) (hjl : j ≤ os.length)
    (hown : w2.ownsRow base 55 2 (.slice (some ⟨g2, 0, none⟩) (os.length + 1) cap2) (os.length + 1) (oc os ++ [.int .i64 id, .bool b])) (hg : wr.grownBy w2 (Value.slice av os.length cap).ownBlock)
    (hat : (Value.slice av os.length cap).ownBlock = some g2 ∨ g2 = (wr.alloc (.cells #[.int .i64 id, .bool b] 55)).drew.heap.size) (hB : Below Pb w wr) :
    (Ending.returned (.tuple #[]) = Ending.returned (.tuple #[])) ∧ (∃ lv' ov' vs' mb', Mem (w2.setCell ⟨go, k, none⟩ (.slice (some ⟨g2, 0, none⟩) (os.length + 1) cap2)) base Pb (addPat S p id b) lv' ov' vs' mb') ∧ Below Pb w (w2.setCell ⟨go, k, none⟩ (.slice (some ⟨g2, 0, none⟩) (os.length + 1) cap2)) := by
  have hb1 : (S1.map (·.2))[k]'(by simpa using hk) = os := by rw [List.getElem_map, ← hos]
  have hK : k < (S1.map (·.2)).length := by simpa using hk
  have h1 := hm.core.pushOwner (k := k) (g := g2) (cap := cap2) (id := id) (b := b) (w2 := w2) (v' := .slice (some ⟨g2, 0, none⟩) (os.length + 1) cap2) hK (by rw [hb1]) (by rw [hb1]; exact hown) (by rw [← hv]; exact hg)
    (by
      rw [← hv]
      rcases hat with e | e
      · exact .inl e
      · right
        have : (wr.alloc (.cells #[.int .i64 id, .bool b] 55)).drew.heap.size = wr.heap.size + 1 := by show (wr.heap.push _).size = _; simp
        omega) (by rw [hvl])
  rw [hb1] at h1
  have hm1 : MapOK wr bb (S1.map (·.1)) := by
    rcases hm.map with ⟨h, _⟩ | ⟨b', h, _, h3⟩
    · cases h
    · cases h; exact h3
  have hm2 := hm1.kept hg (hm1.ne_row he)
  have hP := hm.core.pb
  have hgo : base ≤ go := (own_block hm.core.own rfl).1
  have ha : addPat S p id b = S1.set k (S1[k].1, os ++ [(id, b)]) := by
    rw [hadd, ← hos, addOwner_new (fun x hx e => ?_), hkp]
    obtain ⟨i, hi, e2⟩ := List.getElem_of_mem hx
    exact hj i hi (by omega) (by rw [e2]; exact e)
  refine ⟨rfl, ⟨lv, .slice (some ⟨go, 0, none⟩) S1.length co, vs.set k (.slice (some ⟨g2, 0, none⟩) (os.length + 1) cap2), some bb, ?_⟩, ?_⟩
  · rw [ha]
    refine mem_set hk h1 hbb (hm2.kept (grown_set w2 ⟨go, k, none⟩ _) ?_) hm.uniq
    have := hm1.ne_row hm.core.own
    simpa [Value.ownBlock] using this
  · refine (hB.trans (below_grown (Pb := Pb) hg (by have := hm.core.sz; omega) (fun m e => ?_))).setCell (p := ⟨go, k, none⟩) (by show Pb ≤ go; omega) _
    have := (own_block he e).1
    omega

set_option maxRecDepth 20000 in
set_option maxHeartbeats 2000000 in
theorem add_any (base Pb : Nat) (S : St) (lv ov : Value) (vs : List Value) (mb : Option Nat) (p : ByteArray) (id : Int) (b : Bool) (w : World) (h : Mem w base Pb S lv ov vs mb) (hp : p.size ≤ maxLen) (hS : S.length ≤ 4096) (hO : ∀ x ∈ S, x.2.length ≤ 4096)
    (hid : (Lit.int .i64 id).wf = true) :
    Calls Try.prog 14 #[.pointer (some ⟨Pb, 0, none⟩), .string p, .int .i64 id, .bool b] w fun e w' => e = .returned (.tuple #[]) ∧ (∃ lv' ov' vs' mb', Mem w' base Pb (addPat S p id b) lv' ov' vs' mb') ∧ Below Pb w w' := by
  have HM := hide h
  have m0 := h.c0
  have m1 := h.c1
  have m2 := h.c2
  have f2 := h.f 2
  have HPB : Hid (Pb < base ∧ base ≤ w.heap.size) := ⟨h.core.pb, h.core.sz⟩
  have hPs : Pb < w.heap.size := by have := h.core.pb; have := h.core.sz; omega
  have hHP := hide hp
  have HSO : Hid (∀ x ∈ S, x.2.length ≤ 4096) := hO
  clear h hp hO
  have hmm := @run_makeMap Try.prog
  have q1 := fun r w => run_eql_map_nil (P := Try.prog) w 36 9 3 r Try.underlying36
  go_enter Try.func14, Try.ntmps14
  go_upto_if 16 with fail
  go_cut [] (fun wc => ∃ bb, Hid (Mem wc base Pb S lv ov vs (some bb)) ∧ Hid (Below Pb w wc))
  case first =>
    rcases HM.out.map with ⟨rfl, hS0⟩ | ⟨bb, rfl, hbb, hmap⟩
    · subst hS0
      go_wp2_with fail
      go_meet
      case rel => exact ⟨_, HM.out.make, ((Below.refl Pb w).setCell (p := ⟨Pb, 2, none⟩) (Nat.le_refl _) _).alloc (by rw [size_set]; exact Nat.le_of_lt hPs) _⟩
    · clear hmap
      go_wp2_with fail
      go_meet
      case rel => exact ⟨bb, HM, Below.refl _ _⟩
  case rest =>
    obtain ⟨bb, HM1, HB1⟩ := hcut
    clear m0 m1 m2 f2 HM
    have m0 := HM1.out.c0
    have m1 := HM1.out.c1
    have m2 := HM1.out.c2
    obtain ⟨_, hx, hbb, hmap⟩ : ∃ b, some bb = some b ∧ base ≤ b ∧ MapOK wc b (S.map (·.1)) := by
      rcases HM1.out.map with ⟨h1, _⟩ | h1
      · cases h1
      · exact h1
    cases hx
    obtain ⟨D, hD1, hD2, hD3, hD4⟩ := hmap
    have HD1 := hide hD1
    have HD2 := hide hD2
    have HD3 := hide hD3
    have HD4 := hide hD4
    clear hD1 hD2 hD3 hD4
    go_upto_if 31 with (at_lookup; (with_reducible refine wpList_lookup_own_ok_int _ ?_ (.tmp 25) (.tmp 26) 36 ?_ 9 3 .i64 law9 Try.underlying36 Try.underlying3 (zero3 _) bb _ D ?_ HD1.out (.string p) (keyL p) ?_ (key_mk hHP.out) ?_); rfl; rfl; rfl; rfl; intro c hat hwc)
    have HW := hide hat
    clear hat hwc
    obtain ⟨al, cl, hlv⟩ := slice_form HM1.out.core.list
    obtain ⟨ao, co, hov⟩ := slice_form HM1.out.core.own
    have hvl : vs.length = S.length := by have := HM1.out.core.len; simpa using this
    rw [List.length_map] at hlv
    rw [hvl] at hov
    subst hlv
    subst hov
    have HVL := hide hvl
    clear hvl
    obtain ⟨r, hr⟩ : ∃ r, r = has D (keyL p) := ⟨_, rfl⟩
    rw [← hr]
    have HR := hide hr
    clear hr
    go_cut [8] (fun a wc2 => ∃ (k : Nat) (S1 : St) (lv1 ov1 : Value) (vs1 : List Value), a = .int .i64 k ∧ Hid (Mem wc2 base Pb S1 lv1 ov1 vs1 (some bb)) ∧ Hid (Below Pb w wc2) ∧ Hid (Put S S1 p k))
    case first =>
      cases r with
      | true =>
        go_wp2_with fail
        go_meet
        case rel =>
          obtain ⟨k, hk, e⟩ := List.getElem_of_mem ((HD3.out p).1 HR.out.symm)
          have h1 := HW.out
          rw [← e, HD4.out k hk] at h1
          have hc : c = (k : Int) := by injection h1 with h1; injection h1 with _ h1; exact h1.symm
          exact ⟨k, S, _, _, vs, by rw [hc], HM1, HB1, put_found HM1.out.uniq (by simpa using hk) (by simpa using e)⟩
      | false =>
        have HIN : Hid (p ∉ S.map (·.1)) := fun h1 => by
          have h2 := (HD3.out p).2 h1
          rw [← HR.out] at h2
          cases h2
        have f0 := HM1.out.f 0
        have HT : Hid (Tidy D) := HD1.out.tidy law9
        have HD5 : Hid (wc.ownsMap Try.prog 9 (plainElem Try.prog 3) bb S.length D) := by have := HD1.out; rwa [List.length_map] at this
        have HIW : Hid (plainElem (H := Unit) Try.prog 3 (.int .i64 (S.length : Int)) = some (.lit (.int .i64 (S.length : Int)), [])) := plainElem_int Try.underlying3 (WalkArith.wf_i64 (by omega))
        obtain ⟨i9, hi9, hz90, hz91, hz92⟩ := info_parts info9
        obtain ⟨i53, hi53, hz530, hz531, hz532⟩ := info_parts info53
        have I9 : Hid (Try.prog.info? 9 = some i9 ∧ i9.zero = some (.string ByteArray.empty) ∧ i9.size = 1 ∧ i9.bytes = 16) := ⟨hi9, hz90, hz91, hz92⟩
        have I53 : Hid (Try.prog.info? 53 = some i53 ∧ i53.zero = some (.slice none 0 0) ∧ i53.size = 1 ∧ i53.bytes = 24) := ⟨hi53, hz530, hz531, hz532⟩
        clear hi9 hz90 hz91 hz92 hi53 hz530 hz531 hz532
        go_wp2_with (first
          | (at_mapUpdate; (with_reducible refine wpList_mapUpdate_own _ ?_ (.tmp 40) (.tmp 41) (.tmp 42) 36 ?_ 9 3 law9 Try.underlying36 (plainElem Try.prog 3) bb S.length D ?_ HD5.out ?_ (.string p) (.int .i64 (S.length : Int)) (keyL p) ?_ ?_ (key_mk hHP.out) (.lit (.int .i64 (S.length : Int))) [] HIW.out ?_); rfl; rfl; rfl; (unfold maxLen; omega); rfl; rfl; intro w1 hown1 hgrow1; have K1 : Hid (Core w1 base Pb (.slice al S.length cl) (.slice ao S.length co) (some bb) (S.map (fun x => .string x.1)) vs (S.map (·.2))) := HM1.out.core.beside hgrow1 (off_map HD5.out); have HN1 := hide hown1; have HG1 := hide hgrow1; clear hown1 hgrow1; have n0 := K1.out.st.cell (i := 0) (by omega); have n1 := K1.out.st.cell (i := 1) (by omega); have KL : Hid (w1.ownsRow base 9 1 (.slice al S.length cl) S.length (S.map (fun x => .string x.1))) := own_len K1.out.list (List.length_map _))
          | (at_builtin; (with_reducible refine wpList_append_lies _ ?_ (.tmp 47) (.tmp 49) 28 ?_ base 9 i9 (.string ByteArray.empty) 1 16 Try.underlying28 I9.out.1 I9.out.2.1 I9.out.2.2.1 I9.out.2.2.2 ?_ ?_ (.slice al S.length cl) S.length (S.map (fun x => .string x.1)) ?_ (KL.out.alloc _) ⟨w1.heap.size, 0, none⟩ 1 1 [.string p] ?_ ?_ (cell_one_at w1 _ 9 rfl) (one_cell _ ?_) ?_ ?_ ?_ ?_ _ rfl ?_); rfl; rfl; rfl; decide; rfl; rfl; rfl; rfl; decide; (unfold maxLen; omega); omega; (simp; exact Nat.le_succ_of_le K1.out.sz); intro g2 cap2 w2 hown2 hg2 hat2 hlt2; have G2 : Hid (w1.grownBy w2 (Value.slice al S.length cl).ownBlock) := (World.grownBy_alloc w1 _ _).trans hg2; have ST2 := hide (row_but K1.out.st K1.out.list K1.out.pb G2.out); have o0 := ST2.out.cell (i := 0) (by omega); have o1 := ST2.out.cell (i := 1) (by omega); have of0 := ST2.out.frozen 0; have of1 := ST2.out.frozen 1; have K2 : Hid (Core (w2.setCell ⟨Pb, 0, none⟩ (.slice (some ⟨g2, 0, none⟩) (S.length + 1) cap2)) base Pb (.slice (some ⟨g2, 0, none⟩) (S.length + 1) cap2) (.slice ao S.length co) (some bb) (S.map (fun x => .string x.1) ++ [.string p]) vs (S.map (·.2))) := K1.out.pushList (own_len hown2 (by simp)) G2.out; have KO : Hid ((w2.setCell ⟨Pb, 0, none⟩ (.slice (some ⟨g2, 0, none⟩) (S.length + 1) cap2)).ownsRow base 53 1 (.slice ao S.length co) S.length vs) := own_len K2.out.own HVL.out; clear hown2 hg2 hat2 hlt2 n0 n1)
          | (at_builtin; (with_reducible refine wpList_append_lies _ ?_ (.tmp 57) (.tmp 58) 35 ?_ base 53 i53 (.slice none 0 0) 1 24 Try.underlying35 I53.out.1 I53.out.2.1 I53.out.2.2.1 I53.out.2.2.2 ?_ ?_ (.slice ao S.length co) S.length vs ?_ (KO.out.alloc _) ⟨w2.heap.size, 0, none⟩ 1 1 [.slice none 0 0] ?_ ?_ (cell_one_at _ _ 53 (size_set _ _ _).symm) (one_cell _ ?_) ?_ ?_ ?_ ?_ _ rfl ?_); rfl; rfl; rfl; decide; rfl; rfl; rfl; rfl; decide; (unfold maxLen; omega); omega; exact Nat.le_trans K2.out.sz (World.grownBy_alloc _ _ none).size; intro g4 cap4 w4 hown4 hg4 hat4 hlt4; have G4 : Hid (World.grownBy (w2.setCell ⟨Pb, 0, none⟩ (.slice (some ⟨g2, 0, none⟩) (S.length + 1) cap2)) w4 (Value.slice ao S.length co).ownBlock) := (World.grownBy_alloc _ _ _).trans hg4; have ST4 := hide (row_but K2.out.st K2.out.own K2.out.pb G4.out); have p1 := ST4.out.cell (i := 1) (by omega); have pf1 := ST4.out.frozen 1; have K4 : Hid (Core (w4.setCell ⟨Pb, 1, none⟩ (.slice (some ⟨g4, 0, none⟩) (S.length + 1) cap4)) base Pb (.slice (some ⟨g2, 0, none⟩) (S.length + 1) cap2) (.slice (some ⟨g4, 0, none⟩) (S.length + 1) cap4) (some bb) (S.map (fun x => .string x.1) ++ [.string p]) (vs ++ [nilS]) (S.map (·.2) ++ [[]])) := K2.out.pushOwn (own_len hown4 (by rw [HVL.out])) G4.out; clear hown4 hg4 hat4 hlt4))
        go_meet
        case rel =>
          have hpk := put_ok HT.out HD2.out HD3.out HD4.out HIN.out
          have M1 : MapOK w1 bb (S.map (·.1) ++ [p]) := by
            refine ⟨_, ?_, hpk⟩
            have h1 := HN1.out
            rw [show ((S.map (·.1)).length : Int) = (S.length : Int) by rw [List.length_map], show (S.map (·.1) ++ [p]).length = S.length + 1 by simp]
            exact h1
          have hne : bb ≠ Pb := by have := K1.out.pb; omega
          have M2 := M1.kept G2.out (M1.ne_row K1.out.list)
          have M3 := M2.kept (grown_set w2 ⟨Pb, 0, none⟩ (.slice (some ⟨g2, 0, none⟩) (S.length + 1) cap2)) (by simpa using hne)
          have M4 := M3.kept G4.out (M3.ne_row K2.out.own)
          have M5 := M4.kept (grown_set w4 ⟨Pb, 1, none⟩ (.slice (some ⟨g4, 0, none⟩) (S.length + 1) cap4)) (by simpa using hne)
          refine ⟨S.length, S ++ [(p, [])], .slice (some ⟨g2, 0, none⟩) (S.length + 1) cap2, .slice (some ⟨g4, 0, none⟩) (S.length + 1) cap4, vs ++ [nilS], rfl, ⟨?_, .inr ⟨bb, rfl, hbb, ?_⟩, ?_⟩, ?_, put_new HIN.out⟩
          · simpa using K4.out
          · simpa using M5
          · rw [List.pairwise_append]
            refine ⟨HM1.out.uniq, by simp, fun x hx y hy => ?_⟩
            rw [List.mem_singleton.1 hy]
            intro e
            exact HIN.out (List.mem_map.2 ⟨x, hx, e⟩)
          · have hP := HM1.out.core.pb
            have hP2 := HM1.out.core.sz
            have b1 := HB1.out.trans (below_grown (Pb := Pb) HG1.out (by omega) (fun k e => by cases e; omega))
            have b2 := b1.trans (below_grown (Pb := Pb) G2.out (by have := K1.out.sz; omega) (fun k e => by have := (own_block K1.out.list e).1; omega))
            have b3 := b2.setCell (p := ⟨Pb, 0, none⟩) (Nat.le_refl _) (.slice (some ⟨g2, 0, none⟩) (S.length + 1) cap2)
            have b4 := b3.trans (below_grown (Pb := Pb) G4.out (by have := K2.out.sz; omega) (fun k e => by have := (own_block K2.out.own e).1; omega))
            exact b4.setCell (p := ⟨Pb, 1, none⟩) (Nat.le_refl _) _
    case rest =>
      obtain ⟨k, S1, lv1, ov1, vs1, rfl, HM2, HB2, HP⟩ := hcut
      clear m0 m1 m2 HM1 HD1 HD2 HD3 HD4 HW HR HVL HB1 hmm q1
      obtain ⟨hk, hkp, hadd, hlen, hold⟩ := HP.out
      have HKP := hide hkp
      have HADD := hide hadd
      have hno : S1[k].2.length ≤ 4096 := by
        rcases hold with e | e
        · rw [e]; simp
        · exact HSO.out _ e
      have hs1 : S1.length ≤ 4097 := by omega
      clear hkp hadd hold HP HSO hlen
      obtain ⟨ao1, co1, hov⟩ := slice_form HM2.out.core.own
      have hvl : vs1.length = S1.length := by have := HM2.out.core.len; simpa using this
      rw [hvl] at hov
      subst hov
      have HVL := hide hvl
      clear hvl
      obtain ⟨os, hos⟩ : ∃ os, os = S1[k].2 := ⟨_, rfl⟩
      rw [← hos] at hno
      have HOS := hide hos
      clear hos
      obtain ⟨v, hv⟩ : ∃ v, v = vs1.getD k nilS := ⟨_, rfl⟩
      have HV := hide hv
      have HE : Hid (wc.ownsRow base 55 2 v os.length (oc os)) := by
        have h1 := HM2.out.core.each k (by simpa using hk)
        rw [hv, HOS.out]
        simp only [List.getElem_map] at h1
        exact h1
      clear hv
      obtain ⟨go, hgo⟩ : ∃ go, ao1 = some ⟨go, 0, none⟩ := by
        obtain ⟨g, cap, e, _⟩ := HM2.out.core.own.form (by rw [HVL.out]; omega)
        injection e with e
        exact ⟨g, e⟩
      subst hgo
      have m1 := HM2.out.c1
      have cv : wc.cell? ⟨go, k, none⟩ = some v := by
        have h1 := HM2.out.core.own
        rw [HVL.out] at h1
        rw [h1.cellAt k (by omega), HV.out]
        simp [List.getD_eq_getElem?_getD, show k < vs1.length by rw [HVL.out]; exact hk]
      obtain ⟨av, cap, hv2⟩ := slice_form HE.out
      subst hv2
      go_wp2_with fail
      go_loopw [70] (fun u wr => ∃ j : Nat, j ≤ os.length ∧ u = .int .i64 j ∧ Hid (∀ i, (h : i < os.length) → i < j → os[i].1 ≠ id) ∧ Hid (wc.grownBy wr none)) (fun u _ => os.length - (intOf u).toNat)
      case atStart => exact ⟨0, by omega, rfl, fun i h1 h2 => by omega, ⟨rfl, rfl, rfl, Nat.le_refl _, fun _ _ _ => rfl⟩⟩
      case round =>
        obtain ⟨j, hj, rfl, HJ, HG⟩ := hrel
        have HM3 : Hid (Mem wr base Pb S1 lv1 (.slice (some ⟨go, 0, none⟩) S1.length co1) vs1 (some bb)) := HM2.out.beside HG.out
        have HE3 : Hid (wr.ownsRow base 55 2 (.slice av os.length cap) os.length (oc os)) := own_off HE.out HG.out (off_none _)
        by_cases hlt : j < os.length
        · obtain ⟨g, hav⟩ : ∃ g, av = some ⟨g, 0, none⟩ := by
            obtain ⟨g, cap', e, _⟩ := HE.out.form (by omega)
            injection e with e
            exact ⟨g, e⟩
          subst hav
          obtain ⟨x, hx⟩ : ∃ x, x = os[j].1 := ⟨_, rfl⟩
          obtain ⟨y, hy⟩ : ∃ y, y = os[j].2 := ⟨_, rfl⟩
          have cx : wr.cell? ⟨g, j * 2, none⟩ = some (.int .i64 x) := by
            rw [HE3.out.cellAt (j * 2) (by omega), Nat.mul_comm, oc_id hlt, hx]
          have cy : wr.cell? ⟨g, j * 2 + 1, none⟩ = some (.bool y) := by
            rw [HE3.out.cellAt (j * 2 + 1) (by omega), Nat.mul_comm, oc_js hlt, hy]
          have HX := hide hx
          have HY := hide hy
          clear hx hy m1 cv
          have n1 := HM3.out.c1
          have nv : wr.cell? ⟨go, k, none⟩ = some (.slice (some ⟨g, 0, none⟩) os.length cap) := by
            have h1 := HM3.out.core.own
            rw [HVL.out] at h1
            rw [h1.cellAt k (by omega), HV.out]
            simp [List.getD_eq_getElem?_getD, show k < vs1.length by rw [HVL.out]; exact hk]
          have s1 : Pb < wr.heap.size := by have := HM3.out.core.pb; have := HM3.out.core.sz; omega
          have s2 : go < wr.heap.size := (own_block HM3.out.core.own rfl).2.1
          have s3 : g < wr.heap.size := (own_block HE3.out rfl).2.1
          have ff := HE3.out.frozenAt (j * 2 + 1)
          by_cases hxi : x = id
          · subst hxi
            have hxx : (x == x) = true := by simp
            cases y with
            | true =>
              go_wp2_with fail
              go_region
              go_wp2_with fail
              refine bodyPost_ret (results_none rfl _ _ _) rfl ?_
              refine ⟨rfl, ⟨lv1, .slice (some ⟨go, 0, none⟩) S1.length co1, vs1, some bb, ?_⟩, ?_⟩
              · have hb1 : (S1.map (·.2))[k]'(by simpa using hk) = os := by rw [List.getElem_map, ← HOS.out]
                have h1 := HM3.out.core.setJs (b := true && b) (k := k) (by simpa using hk) (i := j) (by rw [hb1]; exact hlt) (by rw [← HV.out, hb1])
                simp only [hb1] at h1
                rw [js_end hk HKP.out HOS.out hlt HX.out HY.out HJ.out (HADD.out x b)]
                have hm1 : MapOK wr bb (S1.map (·.1)) := by
                  rcases HM3.out.map with ⟨h, _⟩ | ⟨b', h, _, h3⟩
                  · cases h
                  · cases h; exact h3
                have h2 := mem_set (q := os.set j (os[j].1, true && b)) hk (by rw [show (2 : Nat) * j + 1 = j * 2 + 1 by omega] at h1; exact h1) hbb (hm1.kept (grown_set wr ⟨g, j * 2 + 1, none⟩ (.bool (true && b))) (by have := hm1.ne_row HE3.out; simpa [Value.ownBlock] using this)) HM3.out.uniq
                exact (h2.beside (World.grownBy_alloc _ (.cells #[.int .i64 x, .bool true] 55) none)).beside ⟨rfl, rfl, rfl, Nat.le_refl _, fun _ _ _ => rfl⟩
              · have hP := HM3.out.core.pb
                have hg1 : base ≤ g := (own_block HE3.out rfl).1
                have b1 := HB2.out.trans (below_grown (Pb := Pb) HG.out (by have := HM2.out.core.pb; have := HM2.out.core.sz; omega) (fun k e => by cases e))
                exact ((b1.setCell (p := ⟨g, j * 2 + 1, none⟩) (by show Pb ≤ g; omega) _).alloc (by rw [size_set]; omega) _).drew
            | false =>
              go_wp2_with fail
              go_region
              go_wp2_with fail
              refine bodyPost_ret (results_none rfl _ _ _) rfl ?_
              refine ⟨rfl, ⟨lv1, .slice (some ⟨go, 0, none⟩) S1.length co1, vs1, some bb, ?_⟩, ?_⟩
              · have hb1 : (S1.map (·.2))[k]'(by simpa using hk) = os := by rw [List.getElem_map, ← HOS.out]
                have h1 := HM3.out.core.setJs (b := false && b) (k := k) (by simpa using hk) (i := j) (by rw [hb1]; exact hlt) (by rw [← HV.out, hb1])
                simp only [hb1] at h1
                rw [js_end hk HKP.out HOS.out hlt HX.out HY.out HJ.out (HADD.out x b)]
                have hm1 : MapOK wr bb (S1.map (·.1)) := by
                  rcases HM3.out.map with ⟨h, _⟩ | ⟨b', h, _, h3⟩
                  · cases h
                  · cases h; exact h3
                have h2 := mem_set (q := os.set j (os[j].1, false && b)) hk (by rw [show (2 : Nat) * j + 1 = j * 2 + 1 by omega] at h1; exact h1) hbb (hm1.kept (grown_set wr ⟨g, j * 2 + 1, none⟩ (.bool (false && b))) (by have := hm1.ne_row HE3.out; simpa [Value.ownBlock] using this)) HM3.out.uniq
                exact (h2.beside (World.grownBy_alloc _ (.cells #[.int .i64 x, .bool false] 55) none)).beside ⟨rfl, rfl, rfl, Nat.le_refl _, fun _ _ _ => rfl⟩
              · have hP := HM3.out.core.pb
                have hg1 : base ≤ g := (own_block HE3.out rfl).1
                have b1 := HB2.out.trans (below_grown (Pb := Pb) HG.out (by have := HM2.out.core.pb; have := HM2.out.core.sz; omega) (fun k e => by cases e))
                exact ((b1.setCell (p := ⟨g, j * 2 + 1, none⟩) (by show Pb ≤ g; omega) _).alloc (by rw [size_set]; omega) _).drew
          · have hne : (x == id) = false := by simpa using hxi
            have HXI := hide hxi
            clear hxi nv n1 ff
            go_wp2_with fail
            go_roundw
            case rel =>
              refine ⟨j + 1, by omega, by go_num, fun i h1 h2 => ?_, HG.out.trans (World.grownBy_alloc _ _ _)⟩
              by_cases e : i = j
              · subst e; rw [← HX.out]; exact HXI.out
              · exact HJ.out i h1 (by omega)
            case measure => simp [intOf]; omega
        · have n1 := HM3.out.c1
          have nv : wr.cell? ⟨go, k, none⟩ = some (.slice av os.length cap) := by
            have h1 := HM3.out.core.own
            rw [HVL.out] at h1
            rw [h1.cellAt k (by omega), HV.out]
            simp [List.getD_eq_getElem?_getD, show k < vs1.length by rw [HVL.out]; exact hk]
          have s1 : Pb < wr.heap.size := by have := HM3.out.core.pb; have := HM3.out.core.sz; omega
          have s2 : go < wr.heap.size := (own_block HM3.out.core.own rfl).2.1
          obtain ⟨i55, hi55, hz550, hz551, hz552⟩ := info_parts info55
          have I55 : Hid (Try.prog.info? 55 = some i55 ∧ i55.zero = some (.agg #[.int .i64 0, .bool false]) ∧ i55.size = 2 ∧ i55.bytes = 16) := ⟨hi55, hz550, hz551, hz552⟩
          clear hi55 hz550 hz551 hz552 m1 cv
          go_wp2_with fail
          have HN2 : Hid (∀ j u, [Value.int .i64 id, .bool b][j]? = some u → (wr.alloc (.cells #[.int .i64 id, .bool b] 55)).drew.cell? ((⟨wr.heap.size, 0, none⟩ : Addr).add j) = some u) := news_two wr _ _ 55
          have HC2 : Hid (∀ u ∈ [Value.int .i64 id, .bool b], u.oneCell' = true) := two_cells _ _ rfl rfl
          go_region_law (refine step_append_lies _ rfl (.tmp 106) (.tmp 110) 53 rfl base 55 i55 (.agg #[.int .i64 0, .bool false]) 2 16 Try.underlying53 I55.out.1 I55.out.2.1 I55.out.2.2.1 I55.out.2.2.2 rfl (by decide) (.slice av os.length cap) os.length (oc os) (by simp [Act.eval]) (HE3.out.alloc _) ⟨wr.heap.size, 0, none⟩ 1 1 [.int .i64 id, .bool b] (by simp [Act.eval]) rfl HN2.out HC2.out (by decide) (by unfold maxLen; omega) (by omega) (by simp; have := HM3.out.core.sz; omega) _ rfl ?_; intro g2 cap2 w2 hown2 hg2 hat2 hlt2; have G2 : Hid (wr.grownBy w2 (Value.slice av os.length cap).ownBlock) := (grown_new wr _ _).trans hg2; have OW2 := hide hown2; have AT2 := hide hat2; clear hown2 hg2 hat2 hlt2; have ST2 := hide (row_but HM3.out.core.st HE3.out HM3.out.core.pb G2.out); have OV2 := hide (own_but HM3.out.core.own HE3.out (by decide) G2.out); have o1 := ST2.out.cell (i := 1) (by omega); have of1 := ST2.out.frozen 1; have ov2 : w2.cell? ⟨go, k, none⟩ = some (.slice av os.length cap) := cell_at OV2.out HVL.out hk HV.out; have ovf : w2.frozen? ⟨go, k, none⟩ = false := (own_len OV2.out HVL.out).frozenAt k)
          all_goals (refine bodyPost_end (results_none rfl _ _ _) rfl ?_)
          all_goals exact add_end hk HKP.out HOS.out HADD.out HM3.out HE3.out HJ.out hlt HV.out HVL.out hbb hj OW2.out G2.out AT2.out (HB2.out.trans (below_grown (Pb := Pb) HG.out (by have := HM2.out.core.pb; have := HM2.out.core.sz; omega) (fun k e => by cases e)))

end Go.Proofs.Qxb6601898a.Pt
