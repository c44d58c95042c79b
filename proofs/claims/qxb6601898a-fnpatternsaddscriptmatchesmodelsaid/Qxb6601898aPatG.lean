import Derived.Test.Qxb6601898aPatF
namespace Go.Proofs.Qxb6601898a.Pt
open Go.ChangeShapes Go.WideShapes Go.ChangeAt Go.RowKit Go.Maps
set_option linter.unusedVariables false

/-- Cells of an argument. -/
structure Arg (w : World) (ap : Option Addr) (b o n m : Nat) (f : Nat → Value) : Prop where
  at' : 0 < n → ap = some ⟨b, o, none⟩
  len : n ≤ m
  lt : ∀ i, i < n → w.cell? ⟨b, o + i, none⟩ = some (f i)

theorem Arg.cell {w w' : World} {ap : Option Addr} {b o n m : Nat} {f : Nat → Value} (h : Arg w ap b o n m f) (hg : w.grownBy w' none) {i : Nat} (hi : i < n) : w'.cell? ⟨b, o + i, none⟩ = some (f i) := hg.cell (h.lt i hi) (by simp)

theorem Arg.off {w : World} {ap : Option Addr} {b o n m : Nat} {f : Nat → Value} (h : Arg w ap b o n m f) (hn : 0 < n) {g : Nat} (hg : w.heap.size ≤ g) : b ≠ g := by
  have : b < w.heap.size := World.block_lt_of_cell? w ⟨b, o + 0, none⟩ (h.lt 0 hn)
  omega

theorem grown_on {w wr : World} (h : w.grownBy wr none) (k : Nat) : w.grownBy (wr.drewN k) none := h.trans (grown_drewN wr k)

theorem beq_str {a b : ByteArray} : (a.toList == b.toList) = decide (a = b) := by
  rw [Bool.eq_iff_iff]
  simp
  constructor
  · exact fun h => bytes_inj (by simpa [ByteArray.toList_eq] using h)
  · exact fun h => by rw [h]

section
variable {pats : Nat → ByteArray} (ids : Nat → Int) (js : Nat → Bool)

theorem rk_lt {n j : Nat} (hj : j < n) : rk pats j < (run pats ids js n).length := by
  rw [run_length]
  exact cnt_lt _ (Nat.lt_of_le_of_lt (frst_le pats j) hj) (frst_fp pats j)

theorem run_rk {n j : Nat} (hj : j < n) : (run pats ids js n)[rk pats j]?.map (·.1) = some (pats j) ∧ ((run pats ids js n)[rk pats j]'(rk_lt ids js hj)).2 = own pats ids js n (pats j) := by
  have h := run_at pats ids js (Nat.lt_of_le_of_lt (frst_le pats j) hj) (frst_fp pats j)
  rw [frst_pat pats j] at h
  refine ⟨by unfold rk; rw [h]; rfl, ?_⟩
  have h2 := List.getElem?_eq_getElem (rk_lt (pats := pats) ids js hj)
  have h3 : (run pats ids js n)[rk pats j]? = some (pats j, own pats ids js n (pats j)) := h
  rw [h3] at h2
  injection h2 with h2
  rw [← h2]

variable {ids js}
theorem own_get {n j pos : Nat} (hj : j < n) (hq : fq pats ids j = true) (hp : pos = cnt (isO pats ids (pats j)) j) {h : pos < (own pats ids js n (pats j)).length} : (own pats ids js n (pats j))[pos] = (ids j, wnt pats ids js n j) := by
  have h1 := own_at pats ids js hj (fq_at hq)
  rw [← hp, List.getElem?_eq_getElem h] at h1
  injection h1

theorem fq_of_fp {j : Nat} (h : fp pats j = true) : fq pats ids j = true := by
  rw [fq_iff]
  intro e he hc
  exact (fp_iff pats j).1 h e he hc.1

theorem list_cell {w : World} {base Pb D gl cl k n : Nat} {ov : Value} {vs : List Value} {mb : Option Nat} {p : ByteArray} (h : Mem w base Pb (run pats ids js n) (.slice (some ⟨gl, 0, none⟩) D cl) ov vs mb) (hl : (run pats ids js n).length = D)
    (hp : (run pats ids js n)[k]?.map (·.1) = some p) : w.cell? ⟨gl, k, none⟩ = some (.string p) := by
  obtain ⟨x, hx, hxp⟩ := Option.map_eq_some_iff.1 hp
  have hk : k < D := by rw [← hl]; exact (List.getElem?_eq_some_iff.1 hx).1
  have h1 := h.core.list
  rw [List.length_map, hl] at h1
  rw [h1.cellAt k (by omega), List.getElem?_map, hx]
  simp only [Option.map_some, hxp]

theorem Own.cellRk {w : World} {g n i D : Nat} {j : Nat} (h : Own pats ids w g D n i) (hj : j < n) (hD : cnt (fp pats) n = D) : w.cell? ⟨g, rk pats j, none⟩ = some (.int .i64 (cnt (isO pats ids (pats j)) i)) := by
  subst hD
  have := h.cell (Nat.lt_of_le_of_lt (frst_le pats j) hj) (frst_fp pats j)
  rw [frst_pat pats j] at this
  exact this

theorem own_last {w : World} {g n D k : Nat} (HM : (run pats ids js n).length = D) (hD : D = cnt (fp pats) n) (h : Own pats ids w g D n n) (hk : k < D) : ∃ tot, (∃ h : k < (run pats ids js n).length, ((run pats ids js n)[k]).2.length = tot) ∧ w.cell? ⟨g, k, none⟩ = some (.int .i64 (tot : Nat)) := by
  obtain ⟨j, hj, hf, e⟩ := run_place pats ids js (n := n) (k := k) (by rw [HM]; exact hk)
  subst hD
  refine ⟨cnt (isO pats ids (pats j)) n, ⟨by rw [HM]; exact hk, ?_⟩, ?_⟩
  · have h1 := run_at pats ids js hj hf
    rw [← e, List.getElem?_eq_getElem (by rw [HM]; exact hk)] at h1
    injection h1 with h1
    rw [h1, own_length]
  · rw [e]
    exact h.cell hj hf
end

set_option maxRecDepth 20000 in
set_option maxHeartbeats 4000000 in
theorem agree_any (pats : Nat → ByteArray) (ids : Nat → Int) (js : Nat → Bool) (n : Nat) (hn : n ≤ 4096) {w : World} {base Pb : Nat} {lv ov : Value} {vs : List Value} {mb : Option Nat} (h : Mem w base Pb (run pats ids js n) lv ov vs mb)
    (hsz : ∀ i, i < n → (pats i).size ≤ maxLen)
    {a1 a2 a3 : Option Addr} {b1 o1 b2 o2 b3 o3 n1 n2 n3 k1 k2 k3 : Nat} (h1 : Arg w a1 b1 o1 n n1 (fun i => .string (pats i))) (h2 : Arg w a2 b2 o2 n n2 (fun i => .int .i64 (ids i))) (h3 : Arg w a3 b3 o3 n n3 (fun i => .bool (js i))) :
    Calls Try.prog 15 #[.pointer (some ⟨Pb, 0, none⟩), .slice a1 n1 k1, .slice a2 n2 k2, .slice a3 n3 k3, .int .i64 n] w fun e w' => e = .returned (.bool true) ∧ w.grownBy w' none := by
  have HM := hide h
  have HSZ := hide hsz
  have A1 := hide h1
  have A2 := hide h2
  have A3 := hide h3
  have ln1 := h1.len
  have ln2 := h2.len
  have ln3 := h3.len
  clear h hsz h1 h2 h3
  go_enter Try.func15, Try.ntmps15
  go_wp2_with (first
    | (at_make; (with_reducible refine wpList_mk ?_ (.tmp 31) (.tmp 31) 30 ?_ 4 (.bool false) 1 Try.underlying30 info4 ?_ .i64 .i64 n ?_ ?_ ?_ ?_ ?_); rfl; rfl; rfl; rfl; rfl; omega; omega; intro w1 g1 hg1 hr1 G1)
    | (at_make; (with_reducible refine wpList_mk ?_ (.tmp 33) (.tmp 33) 30 ?_ 4 (.bool false) 1 Try.underlying30 info4 ?_ .i64 .i64 n ?_ ?_ ?_ ?_ ?_); rfl; rfl; rfl; rfl; rfl; omega; omega; intro w2 g2 hg2 hr2 G2))
  have hne : g1 ≠ g2 := by have := hr1.out.lt; omega
  have hne' : g2 ≠ g1 := fun e => hne e.symm
  have hg2w : w.heap.size ≤ g2 := by have := G1.out.size; omega
  have S1 : Hid (Row w2 g1 4 n 0 (fun k => .bool (fp pats k))) := (Row.made hr1.out).on G2.out
  have S2 : Hid (Row w2 g2 4 n 0 (fun k => .bool (fq pats ids k))) := Row.made hr2.out
  have GW : Hid (w.grownBy w2 none) := G1.out.trans G2.out
  clear hr1 hr2 G1 G2
  go_loopw [13] (fun u wr => ∃ j : Nat, j ≤ n ∧ u = .int .i64 j ∧ Hid (w.grownBy wr none) ∧ Hid (Row wr g1 4 n j (fun k => .bool (fp pats k))) ∧ Hid (Row wr g2 4 n j (fun k => .bool (fq pats ids k)))) (fun u _ => n - (intOf u).toNat)
  case atStart => exact ⟨0, by omega, rfl, GW, S1, S2⟩
  case round =>
    obtain ⟨j, hj, rfl, G, R1, R2⟩ := hrel
    clear GW S1 S2
    by_cases hlt : j < n
    · obtain rfl := A1.out.at' (by omega)
      obtain rfl := A2.out.at' (by omega)
      have x11 := A1.out.off (by omega) hg1
      have x12 := A1.out.off (by omega) hg2w
      have x21 := A2.out.off (by omega) hg1
      have x22 := A2.out.off (by omega) hg2w
      obtain ⟨v1, c1⟩ := R1.out.some hlt
      obtain ⟨v2, c2⟩ := R2.out.some hlt
      have f1 := R1.out.frozen j
      have f2 := R2.out.frozen j
      have T1 : Hid (Row ((wr.setCell ⟨g1, j, none⟩ (.bool true)).setCell ⟨g2, j, none⟩ (.bool true)) g1 4 n (j + 1) (F1 pats j 0)) := by
        refine (R1.out.put j (.bool true) (j := j + 1) (f' := F1 pats j 0) (fun m hm => ?_)).other (a := ⟨g2, j, none⟩) hne _
        by_cases e : m = j
        · exact .inl ⟨e, by simp [F1, e, fpu_zero]⟩
        · exact .inr ⟨e, by omega, by simp [F1, e]⟩
      have T2 : Hid (Row ((wr.setCell ⟨g1, j, none⟩ (.bool true)).setCell ⟨g2, j, none⟩ (.bool true)) g2 4 n (j + 1) (F2 pats ids j 0)) := by
        refine (R2.out.other (a := ⟨g1, j, none⟩) hne' _).put j (.bool true) (j := j + 1) (f' := F2 pats ids j 0) (fun m hm => ?_)
        by_cases e : m = j
        · exact .inl ⟨e, by simp [F2, e, fqu_zero]⟩
        · exact .inr ⟨e, by omega, by simp [F2, e]⟩
      have TG : Hid (w.grownBy ((wr.setCell ⟨g1, j, none⟩ (.bool true)).setCell ⟨g2, j, none⟩ (.bool true)) none) := grown_write (grown_write G.out (a := ⟨g1, j, none⟩) hg1 _) (a := ⟨g2, j, none⟩) hg2w _
      clear R1 R2 G
      go_wp2_with fail
      go_loopw [14] (fun u wr => ∃ e : Nat, e ≤ j ∧ u = .int .i64 e ∧ Hid (w.grownBy wr none) ∧ Hid (Row wr g1 4 n (j + 1) (F1 pats j e)) ∧ Hid (Row wr g2 4 n (j + 1) (F2 pats ids j e))) (fun u _ => j - (intOf u).toNat)
      case atStart => exact ⟨0, by omega, rfl, TG, T1, T2⟩
      case round =>
        obtain ⟨e, he, rfl, G, R1, R2⟩ := hrel
        clear TG T1 T2 c1 c2 f1 f2
        by_cases hle : e < j
        · have ce := A1.out.cell G.out (i := e) (by omega)
          have cj := A1.out.cell G.out (i := j) (by omega)
          have de := A2.out.cell G.out (i := e) (by omega)
          have dj := A2.out.cell G.out (i := j) (by omega)
          obtain ⟨v1, c1⟩ := R1.out.some hlt
          obtain ⟨v2, c2⟩ := R2.out.some hlt
          have f1 := R1.out.frozen j
          have f2 := R2.out.frozen j
          by_cases hp : pats e = pats j
          · have hpb : ((pats e).toList == (pats j).toList) = true := by rw [beq_str]; simp [hp]
            by_cases hi : ids e = ids j
            · have hib : (ids e == ids j) = true := by simp [hi]
              go_wp2_with fail
              go_quiet (fail)
              go_wp2_with fail
              go_quiet (fail)
              go_wp2_with fail
              go_roundw
              case rel =>
                refine ⟨e + 1, by omega, by go_num, ?_, ?_, ?_⟩
                · exact grown_write (grown_on (grown_write (grown_on G.out _) (a := ⟨g1, j, none⟩) hg1 _) _) (a := ⟨g2, j, none⟩) hg2w _
                · refine Row.other (((R1.out.on (grown_drewN _ _)).put j (.bool false) (j := j + 1) (f' := F1 pats j (e + 1)) (fun m hm => ?_)).on (grown_drewN _ _)) (a := ⟨g2, j, none⟩) hne _
                  by_cases x : m = j
                  · exact .inl ⟨x, by simp [F1, x, fpu_eq pats hp]⟩
                  · exact .inr ⟨x, hm, by simp [F1, x]⟩
                · refine ((((R2.out.on (grown_drewN _ _)).other (a := ⟨g1, j, none⟩) hne' _)).on (grown_drewN _ _)).put j (.bool false) (j := j + 1) (f' := F2 pats ids j (e + 1)) (fun m hm => ?_)
                  by_cases x : m = j
                  · exact .inl ⟨x, by simp [F2, x, fqu_eq pats ids ⟨hp, hi⟩]⟩
                  · exact .inr ⟨x, hm, by simp [F2, x]⟩
              case measure => simp [intOf]; omega
            · have hib : (ids e == ids j) = false := by simp [hi]
              go_wp2_with fail
              go_quiet (fail)
              go_wp2_with fail
              go_quiet (fail)
              go_wp2_with fail
              go_roundw
              case rel =>
                refine ⟨e + 1, by omega, by go_num, ?_, ?_, ?_⟩
                · exact grown_on (grown_write (grown_on G.out _) (a := ⟨g1, j, none⟩) hg1 _) _
                · refine ((R1.out.on (grown_drewN _ _)).put j (.bool false) (j := j + 1) (f' := F1 pats j (e + 1)) (fun m hm => ?_)).on (grown_drewN _ _)
                  by_cases x : m = j
                  · exact .inl ⟨x, by simp [F1, x, fpu_eq pats hp]⟩
                  · exact .inr ⟨x, hm, by simp [F1, x]⟩
                · refine (((R2.out.on (grown_drewN _ _)).other (a := ⟨g1, j, none⟩) hne' _).on (grown_drewN _ _)).congr (Nat.le_refl _) (fun m hm => ?_)
                  by_cases x : m = j
                  · simp [F2, x, fqu_ne pats ids (j := j) (e := e) (fun y => hi y.2)]
                  · simp [F2, x]
              case measure => simp [intOf]; omega
          · have hpb : ((pats e).toList == (pats j).toList) = false := by rw [beq_str]; simp [hp]
            go_wp2_with fail
            go_quiet (fail)
            go_wp2_with fail
            go_roundw
            case rel =>
              refine ⟨e + 1, by omega, by go_num, grown_on G.out _, ?_, ?_⟩
              · refine (R1.out.on (grown_drewN _ _)).congr (Nat.le_refl _) (fun m hm => ?_)
                by_cases x : m = j
                · simp [F1, x, fpu_ne pats hp]
                · simp [F1, x]
              · refine (R2.out.on (grown_drewN _ _)).congr (Nat.le_refl _) (fun m hm => ?_)
                by_cases x : m = j
                · simp [F2, x, fqu_ne pats ids (j := j) (e := e) (fun y => hp y.1)]
                · simp [F2, x]
            case measure => simp [intOf]; omega
        · have hej : e = j := by omega
          subst hej
          go_wp2_with fail
          go_roundw
          case rel =>
            refine ⟨e + 1, by omega, by go_num, G, ?_, ?_⟩
            · refine R1.out.congr (Nat.le_refl _) (fun m hm => ?_)
              by_cases x : m = e
              · simp [F1, x]; rfl
              · simp [F1, x]
            · refine R2.out.congr (Nat.le_refl _) (fun m hm => ?_)
              by_cases x : m = e
              · simp [F2, x]; rfl
              · simp [F2, x]
          case measure => simp [intOf]; omega
    · have hjn : j = n := by omega
      go_wp2_with (at_make; (with_reducible refine wpList_mk ?_ (.tmp 75) (.tmp 75) 29 ?_ 3 (.int .i64 0) 8 Try.underlying29 info3 ?_ .i64 .i64 n ?_ ?_ ?_ ?_ ?_); rfl; rfl; rfl; rfl; rfl; omega; omega; intro w3 g3 hg3 hr3 G3)
      have x31 : w.heap.size ≤ g3 := by have := G.out.size; omega
      have ne13 : g1 ≠ g3 := by have := R1.out.lt; omega
      have ne23 : g2 ≠ g3 := by have := R2.out.lt; omega
      have ne31 : g3 ≠ g1 := fun e => ne13 e.symm
      have ne32 : g3 ≠ g2 := fun e => ne23 e.symm
      have Q1 : Hid (Row w3 g1 4 n n (fun k => .bool (fp pats k))) := by have := R1.out.on G3.out; rwa [hjn] at this
      have Q2 : Hid (Row w3 g2 4 n n (fun k => .bool (fq pats ids k))) := by have := R2.out.on G3.out; rwa [hjn] at this
      have Q3 : Hid (Row w3 g3 3 n 0 (F3 pats)) := Row.made hr3.out
      have GW : Hid (w.grownBy w3 none) := G.out.trans G3.out
      clear R1 R2 G G3 hr3
      go_loopw [16, 17] (fun u v wr => ∃ i : Nat, i ≤ n ∧ u = .int .i64 (cnt (fp pats) i) ∧ v = .int .i64 i ∧ Hid (w.grownBy wr none) ∧ Hid (Row wr g1 4 n n (fun k => .bool (fp pats k))) ∧ Hid (Row wr g2 4 n n (fun k => .bool (fq pats ids k))) ∧ Hid (Row wr g3 3 n i (F3 pats))) (fun _ v _ => n - (intOf v).toNat)
      case atStart => exact ⟨0, by omega, rfl, rfl, GW, Q1, Q2, Q3⟩
      case round =>
        obtain ⟨i, hi, rfl, rfl, G, R1, R2, R3⟩ := hrel
        clear GW Q1 Q2 Q3
        have hci := cnt_le (fp pats) i
        by_cases hlt : i < n
        · obtain rfl := A1.out.at' (by omega)
          have y11 := A1.out.off (by omega) hg1
          have y12 := A1.out.off (by omega) hg2w
          have y13 := A1.out.off (by omega) x31
          have c1 : wr.cell? ⟨g1, i, none⟩ = some (.bool (fp pats i)) := R1.out.cell hlt (Nat.le_refl _)
          obtain ⟨v3, c3⟩ := R3.out.some hlt
          have f3 := R3.out.frozen i
          cases hf : fp pats i with
          | true =>
            rw [hf] at c1
            go_wp2_with fail
            go_roundw
            case rel =>
              refine ⟨i + 1, by omega, ?_, by go_num, ?_, ?_, ?_, ?_⟩
              · rw [cnt_succ, hf]; go_num
              · exact grown_write G.out (a := ⟨g3, i, none⟩) x31 _
              · exact R1.out.other (a := ⟨g3, i, none⟩) ne13 _
              · exact R2.out.other (a := ⟨g3, i, none⟩) ne23 _
              · refine R3.out.put i _ (fun m hm => ?_)
                by_cases x : m = i
                · exact .inl ⟨x, by rw [x]; unfold F3 rk; rw [frst_of pats hf rfl]⟩
                · exact .inr ⟨x, by omega, rfl⟩
            case measure => simp [intOf]; omega
          | false =>
            rw [hf] at c1
            have hlt' := hlt
            go_wp2_with fail
            have HF : Hid (fp pats i = false) := hf
            clear c1 c3
            go_loopw [18] (fun u wr => ∃ e : Nat, e ≤ i ∧ u = .int .i64 e ∧ Hid (w.grownBy wr none) ∧ Hid (Row wr g1 4 n n (fun k => .bool (fp pats k))) ∧ Hid (Row wr g2 4 n n (fun k => .bool (fq pats ids k))) ∧ Hid (Row wr g3 3 n i (F3 pats)) ∧ Hid (∀ e', e' < e → ¬ (fp pats e' = true ∧ pats e' = pats i))) (fun u _ => i - (intOf u).toNat)
            case atStart => exact ⟨0, by omega, rfl, G, R1, R2, R3, fun e' he => by omega⟩
            case round =>
              obtain ⟨e, he, rfl, G, R1, R2, R3, HN⟩ := hrel
              by_cases hle : e < i
              · have c1 : wr.cell? ⟨g1, e, none⟩ = some (.bool (fp pats e)) := R1.out.cell (by omega) (Nat.le_refl _)
                have ce : wr.cell? ⟨b1, o1 + e, none⟩ = some (.string (pats e)) := A1.out.cell G.out (i := e) (by omega)
                have ci : wr.cell? ⟨b1, o1 + i, none⟩ = some (.string (pats i)) := A1.out.cell G.out (i := i) (by omega)
                have c3 : wr.cell? ⟨g3, e, none⟩ = some (.int .i64 (rk pats e)) := R3.out.cell (by omega) (by omega)
                obtain ⟨v4, c4⟩ := R3.out.some hlt'
                have f4 := R3.out.frozen i
                cases hfe : fp pats e with
                | true =>
                  rw [hfe] at c1
                  by_cases hp : pats e = pats i
                  · have hpb : ((pats e).toList == (pats i).toList) = true := by rw [beq_str]; simp [hp]
                    go_wp2_with fail
                    go_quiet (fail)
                    go_wp2_with fail
                    go_roundw
                    case rel =>
                      refine ⟨i + 1, by omega, ?_, by go_num, ?_, ?_, ?_, ?_⟩
                      · rw [cnt_succ, HF.out]; go_num
                      · exact grown_write (grown_on G.out _) (a := ⟨g3, i, none⟩) x31 _
                      · exact (R1.out.on (grown_drewN _ _)).other (a := ⟨g3, i, none⟩) ne13 _
                      · exact (R2.out.on (grown_drewN _ _)).other (a := ⟨g3, i, none⟩) ne23 _
                      · refine (R3.out.on (grown_drewN _ _)).put i _ (fun m hm => ?_)
                        by_cases x : m = i
                        · exact .inl ⟨x, by rw [x]; unfold F3 rk; rw [frst_of pats hfe hp, frst_of pats hfe rfl]⟩
                        · exact .inr ⟨x, by omega, rfl⟩
                    case measure => simp [intOf]; omega
                  · have hpb : ((pats e).toList == (pats i).toList) = false := by rw [beq_str]; simp [hp]
                    go_wp2_with fail
                    go_quiet (fail)
                    go_wp2_with fail
                    go_roundw
                    case rel =>
                      refine ⟨e + 1, by omega, by go_num, grown_on G.out _, R1.out.on (grown_drewN _ _), R2.out.on (grown_drewN _ _), R3.out.on (grown_drewN _ _), fun e' h1 h2 => ?_⟩
                      by_cases x : e' = e
                      · rw [x] at h2; exact hp h2.2
                      · exact HN.out e' (by omega) h2
                    case measure => simp [intOf]; omega
                | false =>
                  rw [hfe] at c1
                  go_wp2_with fail
                  go_quiet (fail)
                  go_wp2_with fail
                  go_roundw
                  case rel =>
                    refine ⟨e + 1, by omega, by go_num, grown_on G.out _, R1.out.on (grown_drewN _ _), R2.out.on (grown_drewN _ _), R3.out.on (grown_drewN _ _), fun e' h1 h2 => ?_⟩
                    by_cases x : e' = e
                    · rw [x, hfe] at h2; cases h2.1
                    · exact HN.out e' (by omega) h2
                  case measure => simp [intOf]; omega
              · exfalso
                refine HN.out (frst pats i) ?_ ⟨frst_fp pats i, frst_pat pats i⟩
                have h1 := frst_le pats i
                have h2 : frst pats i ≠ i := fun x => by
                  have h3 := frst_fp pats i
                  rw [x, HF.out] at h3
                  cases h3
                omega
        · have hin : n = i := by omega
          subst hin
          obtain ⟨D, hD⟩ : ∃ D, D = cnt (fp pats) n := ⟨_, rfl⟩
          have hlen : (run pats ids js n).length = D := by rw [run_length, hD]
          rw [← hD] at hci
          rw [← hD]
          have HDD := hide hD
          have HLEN := hide hlen
          obtain ⟨al, cl, hlv⟩ := slice_form HM.out.core.list
          rw [List.length_map, hlen] at hlv
          subst hlv
          clear hD hlen
          have HM3 : Hid (Mem wr base Pb (run pats ids js n) (.slice al D cl) ov vs mb) := HM.out.beside G.out
          go_wp2_with fail
          refine (list_any HM3.out).mono ?_
          rintro _ w4 ⟨rfl, hw⟩
          have hw := hw.symm
          subst hw
          go_wp2_with fail
          refine (ownersLen_any HM3.out).mono ?_
          rintro _ w4 ⟨rfl, hw⟩
          have hw := hw.symm
          subst hw
          rw [HLEN.out]
          go_wp2_with fail
          refine (idsLen_any HM3.out).mono ?_
          rintro _ w4 ⟨rfl, hw⟩
          have hw := hw.symm
          subst hw
          rw [HLEN.out]
          go_wp2_with (at_make; (with_reducible refine wpList_mk ?_ (.tmp 133) (.tmp 133) 29 ?_ 3 (.int .i64 0) 8 Try.underlying29 info3 ?_ .i64 .i64 D ?_ ?_ ?_ ?_ ?_); rfl; rfl; rfl; rfl; rfl; omega; omega; intro w4 g4 hg4 hr4 G4)
          have x41 : w.heap.size ≤ g4 := by have := G.out.size; omega
          have ne14 : g1 ≠ g4 := by have := R1.out.lt; omega
          have ne24 : g2 ≠ g4 := by have := R2.out.lt; omega
          have ne34 : g3 ≠ g4 := by have := R3.out.lt; omega
          have Q1 : Hid (Row w4 g1 4 n n (fun k => .bool (fp pats k))) := R1.out.on G4.out
          have Q2 : Hid (Row w4 g2 4 n n (fun k => .bool (fq pats ids k))) := R2.out.on G4.out
          have Q3 : Hid (Row w4 g3 3 n n (F3 pats)) := R3.out.on G4.out
          have Q4 : Hid (Own pats ids w4 g4 D n 0) := Own.made hr4.out
          have GW : Hid (w.grownBy w4 none) := G.out.trans G4.out
          clear R1 R2 R3 G G4 hr4 HM3
          go_loopw [21] (fun u wr => ∃ j : Nat, j ≤ n ∧ u = .int .i64 j ∧ Hid (w.grownBy wr none) ∧ Hid (Row wr g1 4 n n (fun k => .bool (fp pats k))) ∧ Hid (Row wr g2 4 n n (fun k => .bool (fq pats ids k))) ∧ Hid (Row wr g3 3 n n (F3 pats)) ∧ Hid (Own pats ids wr g4 D n j)) (fun u _ => n - (intOf u).toNat)
          case atStart => exact ⟨0, by omega, rfl, GW, Q1, Q2, Q3, Q4⟩
          case round =>
            obtain ⟨j, hj, rfl, GB, B1, B2, B3, O⟩ := hrel
            clear GW Q1 Q2 Q3 Q4
            obtain ⟨wb, hwb⟩ : ∃ wb, wb = wr := ⟨_, rfl⟩
            subst hwb
            by_cases hlt : j < n
            · obtain rfl := A1.out.at' (by omega)
              obtain rfl := A2.out.at' (by omega)
              obtain rfl := A3.out.at' (by omega)
              have y14 := A1.out.off (by omega) x41
              have y24 := A2.out.off (by omega) x41
              have y34 := A3.out.off (by omega) x41
              have RKK : Hid ((run pats ids js n)[rk pats j]?.map (·.1) = some (pats j) ∧ ((run pats ids js n)[rk pats j]'(rk_lt ids js (by omega))).2 = own pats ids js n (pats j)) := run_rk ids js hlt
              have hrk : rk pats j < D := by have := rk_lt (pats := pats) ids js hlt; rw [HLEN.out] at this; exact this
              obtain ⟨gl, hal⟩ : ∃ gl, al = some ⟨gl, 0, none⟩ := by
                have h1 := HM.out.core.list
                rw [List.length_map, HLEN.out] at h1
                obtain ⟨g, cap', e, _⟩ := h1.form (by omega)
                injection e with e
                exact ⟨g, e⟩
              subst hal
              have c1 : wb.cell? ⟨g1, j, none⟩ = some (.bool (fp pats j)) := B1.out.cell hlt (Nat.le_refl _)
              have c2 : wb.cell? ⟨g2, j, none⟩ = some (.bool (fq pats ids j)) := B2.out.cell hlt (Nat.le_refl _)
              have c3 : wb.cell? ⟨g3, j, none⟩ = some (.int .i64 (rk pats j)) := B3.out.cell hlt (Nat.le_refl _)
              have cj : wb.cell? ⟨b1, o1 + j, none⟩ = some (.string (pats j)) := A1.out.cell GB.out (i := j) (by omega)
              have cl : wb.cell? ⟨gl, rk pats j, none⟩ = some (.string (pats j)) := list_cell (HM.out.beside GB.out) HLEN.out RKK.out.1
              cases hf : fp pats j with
              | true =>
                have hq : fq pats ids j = true := fq_of_fp hf
                have HQ := hide hq
                rw [hf] at c1
                rw [hq] at c2
                have hpb : ((pats j).toList == (pats j).toList) = true := by rw [beq_str]; simp
                have hsj := hide (HSZ.out j hlt)
                go_wp2_with fail
                go_quiet (fail)
                go_wp2_with fail
                refine (id_any (k := rk pats j) (HM.out.beside (grown_on GB.out _)) (by rw [HLEN.out]; omega) (pats j) (by have := RKK.out.1; rw [List.getElem?_eq_getElem (by rw [HLEN.out]; omega)] at this; simpa using this) hsj.out).mono ?_
                rintro _ w5 ⟨rfl, hw⟩
                have hw := hw.symm
                subst hw
                go_wp2_with fail
                have START : Hid (wb.grownBy (wb.drewN nq) none) := grown_drewN _ _
                clear c1 c2 c3 cj cl hf hq
                go_loopw [25, 26] (fun u v wr => ∃ e : Nat, e ≤ n ∧ u = .bool (wntu pats ids js j e) ∧ v = .int .i64 e ∧ Hid (wb.grownBy wr none)) (fun _ v _ => n - (intOf v).toNat)
                case atStart => exact ⟨0, by omega, by rw [wntu_zero], rfl, START⟩
                case round =>
                  obtain ⟨e, he, rfl, rfl, G2⟩ := hrel
                  have G : Hid (w.grownBy wr none) := GB.out.trans G2.out
                  by_cases hle : e < n
                  · have ce : wr.cell? ⟨b1, o1 + e, none⟩ = some (.string (pats e)) := A1.out.cell G.out (i := e) (by omega)
                    have cj : wr.cell? ⟨b1, o1 + j, none⟩ = some (.string (pats j)) := A1.out.cell G.out (i := j) (by omega)
                    have de : wr.cell? ⟨b2, o2 + e, none⟩ = some (.int .i64 (ids e)) := A2.out.cell G.out (i := e) (by omega)
                    have dj : wr.cell? ⟨b2, o2 + j, none⟩ = some (.int .i64 (ids j)) := A2.out.cell G.out (i := j) (by omega)
                    have je : wr.cell? ⟨b3, o3 + e, none⟩ = some (.bool (js e)) := A3.out.cell G.out (i := e) (by omega)
                    by_cases hp : pats e = pats j
                    · have hpb : ((pats e).toList == (pats j).toList) = true := by rw [beq_str]; simp [hp]
                      by_cases hi : ids e = ids j
                      · have hib : (ids e == ids j) = true := by simp [hi]
                        cases hjs : js e with
                        | true =>
                          rw [hjs] at je
                          go_wp2_with fail
                          go_quiet (fail)
                          go_wp2_with fail
                          go_roundw
                          case rel => exact ⟨e + 1, by omega, by rw [wntu_ne pats ids js (fun y => by rw [hjs] at y; cases y.2.2)], by go_num, grown_on G2.out _⟩
                          case measure => simp [intOf]; omega
                        | false =>
                          rw [hjs] at je
                          go_wp2_with fail
                          go_quiet (fail)
                          go_wp2_with fail
                          go_roundw
                          case rel => exact ⟨e + 1, by omega, by rw [wntu_eq pats ids js ⟨hp, hi, hjs⟩], by go_num, grown_on G2.out _⟩
                          case measure => simp [intOf]; omega
                      · have hib : (ids e == ids j) = false := by simp [hi]
                        go_wp2_with fail
                        go_quiet (fail)
                        go_wp2_with fail
                        go_roundw
                        case rel => exact ⟨e + 1, by omega, by rw [wntu_ne pats ids js (fun y => hi y.2.1)], by go_num, grown_on G2.out _⟩
                        case measure => simp [intOf]; omega
                    · have hpb : ((pats e).toList == (pats j).toList) = false := by rw [beq_str]; simp [hp]
                      go_wp2_with fail
                      go_quiet (fail)
                      go_wp2_with fail
                      go_roundw
                      case rel => exact ⟨e + 1, by omega, by rw [wntu_ne pats ids js (fun y => hp y.1)], by go_num, grown_on G2.out _⟩
                      case measure => simp [intOf]; omega
                  · have hen : n = e := by omega
                    subst hen
                    rw [wntu_end]
                    obtain ⟨W, hW⟩ : ∃ W, W = wnt pats ids js n j := ⟨_, rfl⟩
                    rw [← hW]
                    have HW := hide hW
                    clear hW
                    have O4 := O.out.on G2.out
                    have c4 : wr.cell? ⟨g4, rk pats j, none⟩ = some (.int .i64 (cnt (isO pats ids (pats j)) j)) := O4.cellRk (by omega) HDD.out.symm
                    have f4 := O4.frozen (rk pats j)
                    have hcl := cnt_le (isO pats ids (pats j)) j
                    have hcn := cnt_le (isO pats ids (pats j)) n
                    have hcm : cnt (isO pats ids (pats j)) j < cnt (isO pats ids (pats j)) n := cnt_lt _ (by omega) (fq_at HQ.out)
                    obtain ⟨pos, hpos⟩ : ∃ pos, pos = cnt (isO pats ids (pats j)) j := ⟨_, rfl⟩
                    obtain ⟨tot, htot⟩ : ∃ tot, tot = cnt (isO pats ids (pats j)) n := ⟨_, rfl⟩
                    rw [← hpos] at c4 hcl hcm
                    rw [← htot] at hcn hcm
                    have HPOS := hide hpos
                    have HTOT := hide htot
                    clear hpos htot
                    have GS : Hid (w.grownBy (wr.setCell ⟨g4, rk pats j, none⟩ (.int .i64 ((pos : Int) + 1))) none) := grown_write G.out (a := ⟨g4, rk pats j, none⟩) x41 _
                    go_wp2_with fail
                    refine (count_any (k := rk pats j) (m := tot) (HM.out.beside GS.out) (by rw [HLEN.out]; omega) (by rw [HLEN.out]; omega) (by rw [RKK.out.2, HTOT.out, own_length])).mono ?_
                    rintro _ w5 ⟨rfl, hw⟩
                    have hw := hw.symm
                    subst hw
                    go_wp2_with fail
                    refine (owner_any (k := rk pats j) (i := pos) (os := own pats ids js n (pats j)) (x := ids j) (y := W) (HM.out.beside GS.out) (by rw [HLEN.out]; omega) (by rw [HLEN.out]; omega) RKK.out.2 (by rw [own_length, ← HTOT.out]; omega) (by rw [own_length, ← HTOT.out]; omega) (by rw [HW.out]; exact own_get (by omega) HQ.out HPOS.out)).mono ?_
                    rintro _ w6 ⟨rfl, hw6⟩
                    have G6 : Hid (w.grownBy w6 none) := GS.out.trans hw6
                    have dj : w6.cell? ⟨b2, o2 + j, none⟩ = some (.int .i64 (ids j)) := A2.out.cell G6.out (i := j) (by omega)
                    go_wp2_with fail
                    go_roundw
                    case rel =>
                      refine ⟨j + 1, by omega, by go_num, G6, ?_, ?_, ?_, ?_⟩
                      · exact ((B1.out.on G2.out).other (a := ⟨g4, rk pats j, none⟩) ne14 _).on hw6
                      · exact ((B2.out.on G2.out).other (a := ⟨g4, rk pats j, none⟩) ne24 _).on hw6
                      · exact ((B3.out.on G2.out).other (a := ⟨g4, rk pats j, none⟩) ne34 _).on hw6
                      · have := O4.take (by omega) HQ.out
                        rw [← HPOS.out] at this
                        exact this.on hw6
                    case measure => simp [intOf]; omega

              | false =>
                rw [hf] at c1
                cases hq : fq pats ids j with
                | true =>
                  rw [hq] at c2
                  have HQ := hide hq
                  go_wp2_with fail
                  have START : Hid (wb.grownBy wb none) := grown_refl _
                  clear c1 c2 c3 cj cl hf hq
                  go_loopw [25, 26] (fun u v wr => ∃ e : Nat, e ≤ n ∧ u = .bool (wntu pats ids js j e) ∧ v = .int .i64 e ∧ Hid (wb.grownBy wr none)) (fun _ v _ => n - (intOf v).toNat)
                  case atStart => exact ⟨0, by omega, by rw [wntu_zero], rfl, START⟩
                  case round =>
                    obtain ⟨e, he, rfl, rfl, G2⟩ := hrel
                    have G : Hid (w.grownBy wr none) := GB.out.trans G2.out
                    by_cases hle : e < n
                    · have ce : wr.cell? ⟨b1, o1 + e, none⟩ = some (.string (pats e)) := A1.out.cell G.out (i := e) (by omega)
                      have cj : wr.cell? ⟨b1, o1 + j, none⟩ = some (.string (pats j)) := A1.out.cell G.out (i := j) (by omega)
                      have de : wr.cell? ⟨b2, o2 + e, none⟩ = some (.int .i64 (ids e)) := A2.out.cell G.out (i := e) (by omega)
                      have dj : wr.cell? ⟨b2, o2 + j, none⟩ = some (.int .i64 (ids j)) := A2.out.cell G.out (i := j) (by omega)
                      have je : wr.cell? ⟨b3, o3 + e, none⟩ = some (.bool (js e)) := A3.out.cell G.out (i := e) (by omega)
                      by_cases hp : pats e = pats j
                      · have hpb : ((pats e).toList == (pats j).toList) = true := by rw [beq_str]; simp [hp]
                        by_cases hi : ids e = ids j
                        · have hib : (ids e == ids j) = true := by simp [hi]
                          cases hjs : js e with
                          | true =>
                            rw [hjs] at je
                            go_wp2_with fail
                            go_quiet (fail)
                            go_wp2_with fail
                            go_roundw
                            case rel => exact ⟨e + 1, by omega, by rw [wntu_ne pats ids js (fun y => by rw [hjs] at y; cases y.2.2)], by go_num, grown_on G2.out _⟩
                            case measure => simp [intOf]; omega
                          | false =>
                            rw [hjs] at je
                            go_wp2_with fail
                            go_quiet (fail)
                            go_wp2_with fail
                            go_roundw
                            case rel => exact ⟨e + 1, by omega, by rw [wntu_eq pats ids js ⟨hp, hi, hjs⟩], by go_num, grown_on G2.out _⟩
                            case measure => simp [intOf]; omega
                        · have hib : (ids e == ids j) = false := by simp [hi]
                          go_wp2_with fail
                          go_quiet (fail)
                          go_wp2_with fail
                          go_roundw
                          case rel => exact ⟨e + 1, by omega, by rw [wntu_ne pats ids js (fun y => hi y.2.1)], by go_num, grown_on G2.out _⟩
                          case measure => simp [intOf]; omega
                      · have hpb : ((pats e).toList == (pats j).toList) = false := by rw [beq_str]; simp [hp]
                        go_wp2_with fail
                        go_quiet (fail)
                        go_wp2_with fail
                        go_roundw
                        case rel => exact ⟨e + 1, by omega, by rw [wntu_ne pats ids js (fun y => hp y.1)], by go_num, grown_on G2.out _⟩
                        case measure => simp [intOf]; omega
                    · have hen : n = e := by omega
                      subst hen
                      rw [wntu_end]
                      obtain ⟨W, hW⟩ : ∃ W, W = wnt pats ids js n j := ⟨_, rfl⟩
                      rw [← hW]
                      have HW := hide hW
                      clear hW
                      have O4 := O.out.on G2.out
                      have c4 : wr.cell? ⟨g4, rk pats j, none⟩ = some (.int .i64 (cnt (isO pats ids (pats j)) j)) := O4.cellRk (by omega) HDD.out.symm
                      have f4 := O4.frozen (rk pats j)
                      have hcl := cnt_le (isO pats ids (pats j)) j
                      have hcn := cnt_le (isO pats ids (pats j)) n
                      have hcm : cnt (isO pats ids (pats j)) j < cnt (isO pats ids (pats j)) n := cnt_lt _ (by omega) (fq_at HQ.out)
                      obtain ⟨pos, hpos⟩ : ∃ pos, pos = cnt (isO pats ids (pats j)) j := ⟨_, rfl⟩
                      obtain ⟨tot, htot⟩ : ∃ tot, tot = cnt (isO pats ids (pats j)) n := ⟨_, rfl⟩
                      rw [← hpos] at c4 hcl hcm
                      rw [← htot] at hcn hcm
                      have HPOS := hide hpos
                      have HTOT := hide htot
                      clear hpos htot
                      have GS : Hid (w.grownBy (wr.setCell ⟨g4, rk pats j, none⟩ (.int .i64 ((pos : Int) + 1))) none) := grown_write G.out (a := ⟨g4, rk pats j, none⟩) x41 _
                      go_wp2_with fail
                      refine (count_any (k := rk pats j) (m := tot) (HM.out.beside GS.out) (by rw [HLEN.out]; omega) (by rw [HLEN.out]; omega) (by rw [RKK.out.2, HTOT.out, own_length])).mono ?_
                      rintro _ w5 ⟨rfl, hw⟩
                      have hw := hw.symm
                      subst hw
                      go_wp2_with fail
                      refine (owner_any (k := rk pats j) (i := pos) (os := own pats ids js n (pats j)) (x := ids j) (y := W) (HM.out.beside GS.out) (by rw [HLEN.out]; omega) (by rw [HLEN.out]; omega) RKK.out.2 (by rw [own_length, ← HTOT.out]; omega) (by rw [own_length, ← HTOT.out]; omega) (by rw [HW.out]; exact own_get (by omega) HQ.out HPOS.out)).mono ?_
                      rintro _ w6 ⟨rfl, hw6⟩
                      have G6 : Hid (w.grownBy w6 none) := GS.out.trans hw6
                      have dj : w6.cell? ⟨b2, o2 + j, none⟩ = some (.int .i64 (ids j)) := A2.out.cell G6.out (i := j) (by omega)
                      go_wp2_with fail
                      go_roundw
                      case rel =>
                        refine ⟨j + 1, by omega, by go_num, G6, ?_, ?_, ?_, ?_⟩
                        · exact ((B1.out.on G2.out).other (a := ⟨g4, rk pats j, none⟩) ne14 _).on hw6
                        · exact ((B2.out.on G2.out).other (a := ⟨g4, rk pats j, none⟩) ne24 _).on hw6
                        · exact ((B3.out.on G2.out).other (a := ⟨g4, rk pats j, none⟩) ne34 _).on hw6
                        · have := O4.take (by omega) HQ.out
                          rw [← HPOS.out] at this
                          exact this.on hw6
                      case measure => simp [intOf]; omega

                | false =>
                  rw [hq] at c2
                  go_wp2_with fail
                  go_roundw
                  case rel => exact ⟨j + 1, by omega, by go_num, GB, B1, B2, B3, O.out.skip hq⟩
                  case measure => simp [intOf]; omega
            · have hjn' : n = j := by omega
              subst hjn'
              go_wp2_with fail
              go_loopw [30] (fun u wr => ∃ k : Nat, k ≤ D ∧ u = .int .i64 k ∧ Hid (wb.grownBy wr none)) (fun u _ => D - (intOf u).toNat)
              case atStart => exact ⟨0, by omega, rfl, grown_refl _⟩
              case round =>
                obtain ⟨k, hk, rfl, G2⟩ := hrel
                by_cases hlk : k < D
                · have HM7 : Hid (Mem wr base Pb (run pats ids js n) (.slice al D cl) ov vs mb) := HM.out.beside (GB.out.trans G2.out)
                  obtain ⟨tot, htot, c4⟩ := own_last (HM := HLEN.out) HDD.out (O.out.on G2.out) hlk
                  have HT := hide htot
                  clear htot
                  go_wp2_with fail
                  go_quiet (refine Calls.quiet_of_same (count_any (k := k) (m := tot) (HM7.out.beside (grown_drewN _ _)) (by rw [HLEN.out]; omega) (by rw [HLEN.out]; omega) HT.out.choose_spec))
                  go_wp2_with fail
                  go_roundw
                  case rel => exact ⟨k + 1, by omega, by go_num, grown_on G2.out _⟩
                  case measure => simp [intOf]; omega
                · go_wp2_with fail
                  go_ret
                  exact ⟨rfl, GB.out.trans G2.out⟩

end Go.Proofs.Qxb6601898a.Pt
