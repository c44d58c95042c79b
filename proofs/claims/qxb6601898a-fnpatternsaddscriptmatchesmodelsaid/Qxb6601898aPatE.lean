import Derived.Test.Qxb6601898aPatD
namespace Go.Proofs.Qxb6601898a.Pt
open Go.ChangeShapes Go.WideShapes Go.ChangeAt Go.RowKit Go.Maps
set_option linter.unusedVariables false

variable {w : World} {base Pb : Nat} {S : St} {lv ov : Value} {vs : List Value} {mb : Option Nat}

theorem grown_drewN (w : World) (k : Nat) : w.grownBy (w.drewN k) none := by
  refine ⟨?_, ?_, ?_, ?_, fun _ _ _ => ?_⟩ <;> simp [World.drewN]

theorem list_any (h : Mem w base Pb S lv ov vs mb) : Calls Try.prog 17 #[.pointer (some ⟨Pb, 0, none⟩)] w fun e w' => e = .returned lv ∧ w' = w := by
  have m0 := h.c0
  clear h
  go_enter Try.func17, Try.ntmps17
  go_wp2_with fail
  go_ret
  exact ⟨rfl, rfl⟩

theorem Mem.vlen (h : Mem w base Pb S lv ov vs mb) : vs.length = S.length := by have := h.core.len; simpa using this

theorem ownersLen_any (h : Mem w base Pb S lv ov vs mb) : Calls Try.prog 18 #[.pointer (some ⟨Pb, 0, none⟩)] w fun e w' => e = .returned (.int .i64 S.length) ∧ w' = w := by
  have m1 := h.c1
  obtain ⟨ao, co, hov⟩ := slice_form h.core.own
  rw [h.vlen] at hov
  subst hov
  clear h
  go_enter Try.func18, Try.ntmps18
  go_wp2_with fail
  go_ret
  exact ⟨rfl, rfl⟩

theorem idsLen_any (h : Mem w base Pb S lv ov vs mb) : Calls Try.prog 19 #[.pointer (some ⟨Pb, 0, none⟩)] w fun e w' => e = .returned (.int .i64 S.length) ∧ w' = w := by
  have m2 := h.c2
  rcases h.map with ⟨rfl, hS0⟩ | ⟨bb, rfl, hbb, hmap⟩
  · subst hS0
    clear h
    go_enter Try.func19, Try.ntmps19
    go_wp2_with fail
    go_ret
    exact ⟨rfl, rfl⟩
  · obtain ⟨D, hD1, hD2, hD3, hD4⟩ := hmap
    have HD1 := hide hD1
    have HD2 := hide hD2
    clear h hD1 hD2 hD3 hD4
    go_enter Try.func19, Try.ntmps19
    go_wp2_with (at_len; (with_reducible refine wpList_len_own _ ?_ (.tmp 6) 36 ?_ 9 3 Try.underlying36 _ bb _ D ?_ HD1.out ?_); rfl; rfl; rfl)
    go_ret
    refine ⟨?_, rfl⟩
    rw [HD2.out, List.length_map]
    rfl

theorem id_any (h : Mem w base Pb S lv ov vs mb) {k : Nat} (hk : k < S.length) (p : ByteArray) (hp : S[k].1 = p) (hsz : p.size ≤ maxLen) : Calls Try.prog 20 #[.pointer (some ⟨Pb, 0, none⟩), .string p] w fun e w' => e = .returned (.tuple #[.int .i64 k, .bool true]) ∧ w' = w := by
  have m2 := h.c2
  rcases h.map with ⟨rfl, hS0⟩ | ⟨bb, rfl, hbb, hmap⟩
  · subst hS0; simp at hk
  · obtain ⟨D, hD1, hD2, hD3, hD4⟩ := hmap
    have HD1 := hide hD1
    have h3 : Hid (has D (keyL p) = true) := (hD3 p).2 (by rw [← hp]; exact List.mem_map.2 ⟨_, List.getElem_mem hk, rfl⟩)
    have h4 : Hid (∀ z, D.atKey (keyL p) z = .lit (.int .i64 k)) := fun z => by
      have := hD4 k (by simpa using hk) z
      simp only [List.getElem_map] at this
      rw [← hp]; exact this
    have hHP := hide hsz
    clear h hD1 hD2 hD3 hD4 hsz hp
    go_enter Try.func20, Try.ntmps20
    go_wp2_with (at_lookup; (with_reducible refine wpList_lookup_own_ok_int _ ?_ (.tmp 12) (.tmp 13) 36 ?_ 9 3 .i64 law9 Try.underlying36 Try.underlying3 (zero3 _) bb _ D ?_ HD1.out (.string p) (keyL p) ?_ (key_mk hHP.out) ?_); rfl; rfl; rfl; rfl; intro c hat hwc)
    go_ret2
    have h1 := hat
    rw [h4.out] at h1
    have hc : c = (k : Int) := by injection h1 with h1; injection h1 with _ h1; exact h1.symm
    rw [hc, h3.out]
    exact ⟨rfl, rfl⟩

/-- Where the k-th list of owners lies. -/
theorem Mem.at (h : Mem w base Pb S lv ov vs mb) {k : Nat} (hk : k < S.length) : ∃ go co v, ov = .slice (some ⟨go, 0, none⟩) S.length co ∧ w.cell? ⟨go, k, none⟩ = some v ∧ w.ownsRow base 55 2 v S[k].2.length (oc S[k].2) := by
  obtain ⟨go, cap, e, _⟩ := h.core.own.form (by rw [h.vlen]; omega)
  have h2 := h.core.own
  rw [e] at h2
  rw [h.vlen] at e h2
  refine ⟨go, cap, vs.getD k nilS, e, ?_, ?_⟩
  · rw [h2.cellAt k (by omega)]
    simp [List.getD_eq_getElem?_getD, show k < vs.length by rw [h.vlen]; exact hk]
  · have h1 := h.core.each k (by simpa using hk)
    simp only [List.getElem_map] at h1
    exact h1

theorem count_any (h : Mem w base Pb S lv ov vs mb) {k : Nat} (hk : k < S.length) (hS : S.length ≤ 4096) {m : Nat} (hm : S[k].2.length = m) : Calls Try.prog 21 #[.pointer (some ⟨Pb, 0, none⟩), .int .i64 k] w fun e w' => e = .returned (.int .i64 m) ∧ w' = w := by
  have m1 := h.c1
  obtain ⟨go, co, v, rfl, cv, hv⟩ := h.at hk
  obtain ⟨av, cap, hv2⟩ := slice_form hv
  rw [hm] at hv2
  subst hv2
  clear h hv hm
  go_enter Try.func21, Try.ntmps21
  go_wp2_with fail
  go_ret
  exact ⟨rfl, rfl⟩

theorem owner_any (h : Mem w base Pb S lv ov vs mb) {k i : Nat} (hk : k < S.length) (hS : S.length ≤ 4096) {os : Owners} (hm : S[k].2 = os) (hi : i < os.length) (hO : os.length ≤ 4096) {x : Int} {y : Bool} (hxy : os[i] = (x, y)) : Calls Try.prog 22 #[.pointer (some ⟨Pb, 0, none⟩), .int .i64 k, .int .i64 i] w fun e w' => e = .returned (.tuple #[.int .i64 x, .bool y]) ∧ w.grownBy w' none := by
  have m1 := h.c1
  obtain ⟨go, co, v, rfl, cv, hv⟩ := h.at hk
  rw [hm] at hv
  obtain ⟨g, cap, hv2, _⟩ := hv.form (by omega)
  subst hv2
  have cx : w.cell? ⟨g, i * 2, none⟩ = some (.int .i64 x) := by
    rw [hv.cellAt (i * 2) (by omega), Nat.mul_comm, oc_id hi, hxy]
  have cy : w.cell? ⟨g, i * 2 + 1, none⟩ = some (.bool y) := by
    rw [hv.cellAt (i * 2 + 1) (by omega), Nat.mul_comm, oc_js hi, hxy]
  clear h hv hm hxy
  go_enter Try.func22, Try.ntmps22
  go_wp2_with fail
  go_quiet (fail)
  go_wp2_with fail
  go_ret2
  exact ⟨rfl, grown_drewN _ _⟩

end Go.Proofs.Qxb6601898a.Pt
