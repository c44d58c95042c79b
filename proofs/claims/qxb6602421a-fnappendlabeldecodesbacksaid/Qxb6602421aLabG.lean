import Derived.Test.Qxb6602421aLabF
namespace Go.Proofs.Qxb6602421a.Lb
open Go.ChangeShapes Go.WideShapes Go.ChangeAt Go.RowKit
set_option linter.unusedVariables false

set_option maxRecDepth 4000 in
set_option maxHeartbeats 2000000 in
theorem law2_in (d l : Value) (xs ys : List Int) (w : World) (hd : Rd w d xs) (hl : Rd w l ys) (hsum : (xs.length : Int) + ys.length ≤ 1048576) (hby : ∀ i, 0 ≤ ys.getD i 0 ∧ ys.getD i 0 ≤ 255) :
    Calls Try.prog 4 #[d, l] w fun e w' => e = .returned (.bool true) ∧ Below w.heap.size w w' := by
  obtain ⟨n0, hn0⟩ : ∃ n, n = xs.length := ⟨_, rfl⟩
  obtain ⟨n1, hn1⟩ : ∃ n, n = ys.length := ⟨_, rfl⟩
  have N0 := hide hn0
  have N1 := hide hn1
  have HDR := hide hd
  have HLR := hide hl
  have HY := hide hby
  obtain ⟨a0, c0, e0, hlc0, hcm0, _⟩ := hd
  obtain ⟨a1, c1, e1, hlc1, hcm1, _⟩ := hl
  rw [← hn0] at e0 hsum
  rw [← hn1] at e1 hsum
  clear hlc0 hlc1 hcm0 hcm1 hn0 hn1 hby
  have s1 : (n0 : Int) ≤ 1048576 := by omega
  have s2 : (n1 : Int) ≤ 1048576 := by omega
  subst e0
  subst e1
  go_enter Try.func4, Try.ntmps4
  go_wp2_with fail
  refine (zz11 _ _ _ _ _ _ _ (by unfold maxLen; omega) (by unfold maxLen; omega)).mono ?_
  rintro e w' ⟨⟨r, rfl, _⟩, hw⟩
  have hw := hw.symm
  subst hw
  cases r
  · go_wp2_with fail
    go_ret
    exact ⟨rfl, Below.refl _ _⟩
  · go_wp2_with fail
    refine (clone_any _ xs w HDR.out (by have := N0.out; omega)).mono ?_
    rintro e w1 ⟨⟨v0, rfl, ho0⟩, hb1⟩
    have HO0 := hide ho0
    have HB1 := hide hb1
    have HL1 : Hid (Rd w1 (.slice a1 n1 c1) ys) := by
      obtain ⟨a, c, e, h1, h2, h3⟩ := HLR.out
      refine ⟨a, c, e, h1, h2, fun h => ?_⟩
      obtain ⟨b, o, e', hb, hc⟩ := h3 h
      exact ⟨b, o, e', Nat.lt_of_lt_of_le hb hb1.size, fun i hi => (hb1.cell (p := ⟨b, o + i, none⟩) hb).trans (hc i hi)⟩
    clear ho0 hb1
    go_wp2_with fail
    refine (clone_any _ ys w1 HL1.out (by have := N1.out; omega)).mono ?_
    rintro e w2 ⟨⟨v1, rfl, ho1⟩, hb2⟩
    have HO1 := hide ho1
    have HB2 : Hid (Below w.heap.size w w2) := HB1.out.trans (hb2.mono HB1.out.size)
    have HO02 : Hid (Own w2 w.heap.size v0 xs) := HO0.out.below hb2 (Nat.le_refl _)
    have HK0 : Hid (∀ k, v0.ownBlock = some k → w.heap.size ≤ k ∧ k < w1.heap.size) := HO0.out.lt
    have HK1 : Hid (∀ k, v1.ownBlock = some k → w1.heap.size ≤ k ∧ k < w2.heap.size) := ho1.lt
    have HSZ : Hid (w.heap.size ≤ w1.heap.size ∧ w1.heap.size ≤ w2.heap.size) := ⟨HB1.out.size, hb2.size⟩
    clear ho1 hb2 HO0 HB1 HL1 HDR HLR
    go_wp2_with fail
    refine (clone_any _ xs w2 HO02.out.rd (by have := N0.out; omega)).mono ?_
    rintro e w3 ⟨⟨v2, rfl, ho2⟩, hb3⟩
    have HO2 := hide ho2
    have HB3 : Hid (Below w.heap.size w w3) := HB2.out.trans (hb3.mono HB2.out.size)
    have HO03 : Hid (Own w3 w.heap.size v0 xs) := HO02.out.below hb3 (Nat.le_refl _)
    have HO13 : Hid (Own w3 w1.heap.size v1 ys) := HO1.out.below hb3 (Nat.le_refl _)
    have HK2 : Hid (∀ k, v2.ownBlock = some k → w2.heap.size ≤ k ∧ k < w3.heap.size) := ho2.lt
    have HRO : Hid (RdOff w3 v0 v1 ys) := HO13.out.rdOff (fun k hk e => by
      have h1 := HK1.out k hk
      have h2 := HK0.out k e
      omega)
    clear ho2 hb3 HO02 HO1
    go_wp2_with fail
    refine (zzappend_any _ _ xs ys w.heap.size w3 HO03.out HB3.out.size HRO.out HY.out (by have := N1.out; omega) (by have := N0.out; omega)).mono ?_
    rintro e w4 ⟨v', rfl, ho, hst⟩
    have HG := hide ho
    have HK : Hid (Own w4 w2.heap.size v2 xs) := by
      refine hst.kept HO2.out ?_
      cases h9 : v2.ownBlock with
      | none => exact .inl rfl
      | some kk =>
        refine .inr fun e => ?_
        have h1 := HK2.out kk h9
        have h2 := HK0.out kk e.symm
        have h3 := HSZ.out
        omega
    have HL4 : Hid (Own w4 w1.heap.size v1 ys) := by
      refine hst.kept HO13.out ?_
      cases h9 : v1.ownBlock with
      | none => exact .inl rfl
      | some kk =>
        refine .inr fun e => ?_
        have h1 := HK1.out kk h9
        have h2 := HK0.out kk e.symm
        omega
    have HB4 : Hid (Below w.heap.size w w4) := HB3.out.trans (hst.below HB3.out.size (fun k hk => (HK0.out k hk).1))
    clear ho hst HO2 HO03 HO13 HRO HK0 HK1 HK2 HSZ HB2 HB3
    obtain ⟨p1, q1, e1, _, _, _⟩ := HL4.out.rd
    obtain ⟨p2, q2, e2, _, _, _⟩ := HK.out.rd
    rw [← N1.out] at e1
    rw [← N0.out] at e2
    subst e1
    subst e2
    obtain ⟨E, hE⟩ : ∃ E, E = (esc ys).length := ⟨_, rfl⟩
    have HE := hide hE
    have hlen : (xs ++ esc ys).length = n0 + E := by rw [List.length_append, ← N0.out, ← hE]
    have t1 : n1 ≤ E := by have := (esc_len ys).1; have := N1.out; omega
    have t2 : E ≤ 4 * n1 := by have := (esc_len ys).2; have := N1.out; omega
    clear hE
    rcases HG.out.2 with ⟨hv, hz⟩ | ⟨g, cap, cur, hv, hbg, hgg, hnc, hcm, hcs, htake⟩
    · rw [hlen] at hz
      have e3 : n0 = 0 := by omega
      have e4 : E = 0 := by omega
      have e5 : n1 = 0 := by omega
      have hx0 : xs = [] := List.eq_nil_of_length_eq_zero (by have := N0.out; omega)
      have hy0 : ys = [] := List.eq_nil_of_length_eq_zero (by have := N1.out; omega)
      have HR1 : Hid (Rd w4 (.slice none 0 0) xs) := by rw [hx0]; exact ⟨none, 0, rfl, by simp, by unfold maxLen; omega, fun h => by simp at h⟩
      have HR2 : Hid (∀ (ao : Option Addr), True → Rd w4 (.slice ao 0 0) (esc ys)) := by
        intro ao _; rw [hy0]; exact ⟨ao, 0, rfl, by simp [esc], by unfold maxLen; omega, fun h => by simp [esc] at h⟩
      clear hlen hz hx0 hy0
      subst e3
      subst e4
      subst e5
      subst hv
      go_wp2_with fail
      refine (equal_any _ _ xs w4 HR1.out HK.out.rd).mono ?_
      rintro e w5 ⟨rfl, nn, hw⟩
      subst hw
      go_wp2_with fail
      refine (decode_any _ ys (w4.drewN nn) ?hr HY.out ?hn).mono ?_
      case hn => have := N1.out; omega
      case hr => exact HR2.out _ trivial
      rintro e w6 ⟨⟨vb, rfl, hob⟩, hb6⟩
      have HOB := hide hob
      have HB6 := hide hb6
      have HL6 : Hid (Own w6 w1.heap.size (.slice p1 0 q1) ys) := Own.below (w := w4.drewN nn) HL4.out hb6 (Nat.le_refl _)
      clear hob hb6
      go_wp2_with fail
      refine (equal_any _ _ ys w6 HOB.out.rd HL6.out.rd).mono ?_
      rintro e w7 ⟨rfl, mm, hw⟩
      have HBG : Hid (Below w.heap.size w w7) := by
        rw [hw]
        exact below_drewN ((below_drewN HB4.out nn).trans (HB6.out.mono (below_drewN HB4.out nn).size)) _
      clear hw
      go_wp2_with fail
      go_ret
      exact ⟨rfl, HBG.out⟩
    · rw [hlen] at hv hnc
      have hcells : ∀ i, i < n0 + E → w4.cell? ⟨g, i, none⟩ = some (.int .u8 ((xs ++ esc ys).getD i 0)) := by
        intro i hi
        have h1 := HG.out
        rw [hv] at h1
        have h2 := World.ownsRow.cellAt (n := n0 + E) (by unfold Own at h1; rw [hlen] at h1; exact h1) i (by omega)
        rw [h2, B_at (by omega)]
      have hgl : g < w4.heap.size := (Array.getElem?_eq_some_iff.1 hgg).1
      unfold maxLen at hcm
      have HR1 : Hid (Rd w4 (.slice (some ⟨g, 0, none⟩) n0 cap) xs) := by
        refine ⟨some ⟨g, 0, none⟩, cap, by rw [N0.out], by have := N0.out; omega, by unfold maxLen; omega, fun _ => ⟨g, 0, rfl, hgl, fun i hi => ?_⟩⟩
        rw [Nat.zero_add, hcells i (by have := N0.out; omega)]
        simp [List.getElem?_append_left hi]
      have HR2 : Hid (∀ ao c', (0 < E → ao = some ⟨g, n0, none⟩) → E ≤ c' → c' ≤ 9223372036854775807 → Rd w4 (.slice ao E c') (esc ys)) := by
        intro ao c' hao hc1 hc2
        refine ⟨ao, c', by rw [HE.out], by have := HE.out; omega, by unfold maxLen; omega, fun h => ⟨g, n0, hao (by have := HE.out; omega), hgl, fun i hi => ?_⟩⟩
        rw [hcells (n0 + i) (by have := HE.out; omega)]
        have h5 : n0 + i = xs.length + i := by have := N0.out; omega
        rw [h5]
        simp [List.getElem?_append_right]
      clear htake hcs hgg hbg hcells cur
      clear hlen
      subst hv
      go_wp2_with fail
      refine (equal_any _ _ xs w4 HR1.out HK.out.rd).mono ?_
      rintro e w5 ⟨rfl, nn, hw⟩
      subst hw
      go_wp2_with fail
      all_goals
        refine (decode_any _ ys (w4.drewN nn) (HR2.out _ _ (fun h => by first | rfl | (exfalso; omega)) (by omega) (by omega)) HY.out (by have := N1.out; omega)).mono ?_
        rintro e w6 ⟨⟨vb, rfl, hob⟩, hb6⟩
        have HOB := hide hob
        have HB6 := hide hb6
        have HL6 : Hid (Own w6 w1.heap.size (.slice p1 n1 q1) ys) := Own.below (w := w4.drewN nn) HL4.out hb6 (Nat.le_refl _)
        clear hob hb6
        go_wp2_with fail
        refine (equal_any _ _ ys w6 HOB.out.rd HL6.out.rd).mono ?_
        rintro e w7 ⟨rfl, mm, hw⟩
        have HBG : Hid (Below w.heap.size w w7) := by
          rw [hw]
          exact below_drewN ((below_drewN HB4.out nn).trans (HB6.out.mono (below_drewN HB4.out nn).size)) _
        clear hw
        go_wp2_with fail
        go_ret
        exact ⟨rfl, HBG.out⟩

theorem law2_big (a0 a1 : Option Addr) (n0 c0 n1 c1 : Nat) (w : World) (h0 : n0 ≤ maxLen) (h1 : n1 ≤ maxLen) (h : (1048576 : Int) < (n0 : Int) + n1) :
    Calls Try.prog 4 #[.slice a0 n0 c0, .slice a1 n1 c1] w fun e w' => e = .returned (.bool true) ∧ Below w.heap.size w w' := by
  have H0 := hide h0
  have H1 := hide h1
  unfold maxLen at h0 h1
  have hd : (1048576 : Int) < n0 ∨ ((n0 : Int) ≤ 1048576 ∧ (1048576 : Int) < n1) ∨ ((n0 : Int) ≤ 1048576 ∧ (n1 : Int) ≤ 1048576) := by omega
  rcases hd with g | ⟨g, g'⟩ | ⟨g, g'⟩
  all_goals
    go_enter Try.func4, Try.ntmps4
    go_wp2_with fail
    refine (zz11 _ _ _ _ _ _ _ H0.out H1.out).mono ?_
    rintro e w' ⟨⟨r, rfl, _⟩, hw⟩
    have hw := hw.symm
    subst hw
    cases r
    all_goals
      go_wp2_with fail
      go_ret
      exact ⟨rfl, Below.refl _ _⟩

end Go.Proofs.Qxb6602421a.Lb
