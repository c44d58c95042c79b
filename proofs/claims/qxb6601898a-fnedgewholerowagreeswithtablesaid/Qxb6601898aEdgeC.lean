import Derived.Test.Qxb6601898aEdgeB
import Derived.Deep.OwnRows
import Derived.Laws.CopyOwn
namespace Go.Proofs.Qxb6601898a.Ed
open Go.ChangeShapes Go.WideShapes Go.ChangeAt Go.RowKit
set_option linter.unusedVariables false

/-! ### Two laws: 'make([]T, n)', 'copy(new, old)' -/

theorem wpList_make_any {P : Program} {w : World} {ops : Array Oper} {rest : List Oper} {o : Oper} {a : Act} {Q : Exit → Act → World → Prop}
    (hg : o.guard = none) (l c : Operand) (t : TypeId) (hop : o.op = Op.makeSlice t l c)
    (e : TypeId) (z : Value) (bytes : Nat) (ht : P.underlying t = some (.slice e)) (hinfo : (P.info? e).map (fun i => (i.zero, i.size, i.bytes)) = some (some z, 1, bytes)) (hz1 : z.cells = #[z])
    (kl kc : IntKind) (n : Nat) (hl : a.eval l = .int kl (n : Int)) (hc : a.eval c = .int kc (n : Int)) (hbytes : bytes * n ≤ 281474976710656) (h63 : n ≤ 9223372036854775807) (w0 : World) (hb : Below w0.heap.size w0 w)
    (hK : ∀ w' g, w0.heap.size ≤ g → w.heap.size ≤ g → Hid (w'.rowIs g e n (fun _ => z)) → Hid (Below w0.heap.size w0 w') → Hid (Below w.heap.size w w') → wpList P ops Q rest (a.put o.dst (.slice (some ⟨g, 0, none⟩) n n)) w') :
    wpList P ops Q (o :: rest) a w := by
  refine wpList_plain hg fun K hK' => ?_
  have hrun := run_make_row' (P := P) t e z bytes ht hinfo hz1 kl kc n hbytes h63 w
  unfold Oper.wp
  simp [execOp, hop, hl, hc, hrun, Result.andThen]
  exact hK' _ _ (hK _ _ hb.size (Nat.le_refl _) (World.rowIs_made w z n e) (hb.alloc hb.size _) ((Below.refl _ _).alloc (Nat.le_refl _) _))

theorem wpList_copy_any {P : Program} {w : World} {ops : Array Oper} {rest : List Oper} {o : Oper} {a : Act} {Q : Exit → Act → World → Prop} (hgd : o.guard = none) (d s : Operand) (dT sT : TypeId)
    (ho : o.op = .call { callee := .builtin .copy, args := #[d, s], argTypes := #[dT, sT] }) (elem : TypeId) (hu : P.underlying dT = some (.slice elem)) (hsz : (P.info? elem).map (·.size) = some 1)
    (g n b off sCap : Nat) (hd : a.eval d = .slice (some ⟨g, 0, none⟩) n n) (hs : a.eval s = .slice (some ⟨b, off, none⟩) n sCap)
    (t : TypeId) (f0 f : Nat → Value) (hrow : w.rowIs g t n f0) (hsrc : ∀ j, j < n → w.cell? ⟨b, off + j, none⟩ = some (f j)) (h1 : ∀ j, (f j).oneCell' = true) (w0 : World) (hb : Below w0.heap.size w0 w) (hg0 : w0.heap.size ≤ g)
    (h : ∀ w', Hid (w'.rowIs g t n f) → Hid (Below w0.heap.size w0 w') → Hid (Below g w w') → wpList P ops Q rest (a.put o.dst (.int .i64 n)) w') : wpList P ops Q (o :: rest) a w := by
  obtain ⟨cur, hblk, hsize, hcur⟩ := hrow
  have hlen : ((List.range n).map f).length = Nat.min n n := by simp
  have hcs : ∀ (j : Nat) (v : Value), ((List.range n).map f)[j]? = some v → w.cell? ((⟨b, off, none⟩ : Addr).add j) = some v := by
    intro j v hj
    obtain ⟨hlt, rfl⟩ := List.getElem?_eq_some_iff.1 hj
    simp at hlt
    simp only [List.getElem_map, List.getElem_range]
    rw [Addr.add_lit]
    exact hsrc j hlt
  refine wpList_copy_own hgd d s dT sT ho elem hu hsz g 0 n n ⟨b, off, none⟩ n sCap hd hs cur t hblk ((List.range n).map f) hlen hcs (by simp [hsize]) ?_ ?_
  · intro v hv
    simp only [List.mem_map, List.mem_range] at hv
    obtain ⟨j, hj, rfl⟩ := hv
    exact h1 j
  · simp only [List.length_map, List.length_range, goInt]
    refine h _ ⟨_, setRow_heap w g _ _ t _ hblk, ?_, ?_⟩ (below_setRow hb hg0 _) (below_setRow (Below.refl _ _) (Nat.le_refl _) _)
    · simp [hsize]
    · intro i hi
      simp only [List.take_zero, List.nil_append]
      rw [List.getElem?_toArray, List.getElem?_append_left (by simpa using hi)]
      simp [hi]

theorem info21 : (Try.prog.info? 21).map (fun i => (i.zero, i.size, i.bytes)) = some (some (.int .i32 0), 1, 4) := by kernel_rfl
theorem info5 : (Try.prog.info? 5).map (fun i => (i.zero, i.size, i.bytes)) = some (some (.int .u8 0), 1, 1) := by kernel_rfl
theorem size21 : (Try.prog.info? 21).map (·.size) = some 1 := by kernel_rfl
theorem size5 : (Try.prog.info? 5).map (·.size) = some 1 := by kernel_rfl

theorem below_drewN {B : Nat} {a w : World} (h : Below B a w) (n : Nat) : Below B a (w.drewN n) := h.trans ⟨rfl, rfl, rfl, Nat.le_refl _, fun _ _ => rfl⟩

/-- A row that was copied, carried on to a later world. -/
theorem row_on {w w' : World} {g B : Nat} {t : TypeId} {n : Nat} {f : Nat → Value} (h : w.rowIs g t n f) (hb : Below B w w') (hg : g < B) : w'.rowIs g t n f := h.of_block (hb.block g hg)

theorem rows6 {w2 w3 w4 w5 w6 : World} {q0 q1 q2 : Nat} {t0 t1 : TypeId} {n0 n1 : Nat} {f0 f1 : Nat → Value} (hr0 : w2.rowIs q0 t0 n0 f0) (hp1 : w2.heap.size ≤ q1) (hbm3 : Below w2.heap.size w2 w3) (hbm4 : Below q1 w3 w4) (hr1 : w4.rowIs q1 t1 n1 f1)
    (hp2 : w4.heap.size ≤ q2) (hbm5 : Below w4.heap.size w4 w5) (hbm6 : Below q2 w5 w6) : w6.rowIs q0 t0 n0 f0 ∧ w6.rowIs q1 t1 n1 f1 := by
  have a0 := hr0.lt
  have a1 := hr1.lt
  have e3 := row_on hr0 hbm3 a0
  have e4 := row_on e3 hbm4 (by omega)
  have b4 := e4.lt
  have e5 := row_on e4 hbm5 b4
  have e6 := row_on e5 hbm6 (by omega)
  have d5 := row_on hr1 hbm5 a1
  have d6 := row_on d5 hbm6 (by omega)
  exact ⟨e6, d6⟩

theorem ret_true {a : Bool} (h : a = true) : Ending.returned (.bool a) = .returned (.bool true) := by rw [h]

theorem below_mid {y : Nat → Int} {b : Int} {l h m : Nat} (hs : ∀ i : Nat, l ≤ i → i + 1 < h → y i ≤ y (i + 1)) (h1 : l ≤ m) (h2 : m < h) (e : y m < b) : ∀ i : Nat, l ≤ i → i < m + 1 → y i < b := by
  intro i c d
  have := sorted_le hs i (m - i) c (by omega)
  rw [show i + (m - i) = m by omega] at this
  omega

theorem above_mid {y : Nat → Int} {b : Int} {l h m : Nat} (hs : ∀ i : Nat, l ≤ i → i + 1 < h → y i ≤ y (i + 1)) (h1 : l ≤ m) (e : b ≤ y m) : ∀ i : Nat, m ≤ i → i < h → b ≤ y i := by
  intro i c d
  have := sorted_le hs m (i - m) h1 (by omega)
  rw [show m + (i - m) = i by omega] at this
  omega

theorem res_lower {y t : Nat → Int} {b : Int} {l h a : Nat} (hl : ∀ i : Nat, l ≤ i → i < a → y i < b) (ha1 : l ≤ a) (ha : a < h) (e : (y a == b) = true) : EdgeRes y t b l h (t a) :=
  .inl ⟨a, by omega, by omega, by simpa using e, fun i c d => by have := hl i (by omega) d; omega, rfl⟩

theorem res_miss {y t : Nat → Int} {b : Int} {l h a : Nat} (hs : ∀ i : Nat, l ≤ i → i + 1 < h → y i ≤ y (i + 1)) (hl : ∀ i : Nat, l ≤ i → i < a → y i < b) (hr : ∀ i : Nat, a ≤ i → i < h → b ≤ y i) (ha1 : l ≤ a) (ha : a < h) (e : (y a == b) = false) : EdgeRes y t b l h (-1) := by
  simp at e
  refine .inr ⟨fun i c d => ?_, rfl⟩
  by_cases g : i < a
  · have := hl i (by omega) g; omega
  · have h1 := sorted_le hs a (i - a) ha1 (by omega)
    rw [show a + (i - a) = i by omega] at h1
    have h2 := hr a (Nat.le_refl _) ha
    omega

theorem res_out {y t : Nat → Int} {b : Int} {l h a : Nat} (hl : ∀ i : Nat, l ≤ i → i < a → y i < b) (ha : h ≤ a) : EdgeRes y t b l h (-1) := res_none hl ha

set_option maxHeartbeats 2000000 in
theorem law_in (b0 o0 n0 c0 b1 o1 n1 c1 b2 o2 n2 c2 k l h : Nat) (b : Int) (x y t : Nat → Int) (w : World) (h0 : n0 ≤ 65536) (h1 : n1 ≤ 262144) (h2 : n2 ≤ 65536) (hk : k + 1 < n0)
    (hb0 : b0 < w.heap.size) (hb1 : b1 < w.heap.size) (hb2 : b2 < w.heap.size)
    (hx : ∀ i, i < n0 → w.cell? ⟨b0, o0 + i, none⟩ = some (.int .i32 (x i))) (hlo : Hid (x k = (l : Int))) (hhi : Hid (x (k + 1) = (h : Int))) (bh : h ≤ 2147483647) (hlt : l < h) (g1 : h ≤ n1) (g2 : h ≤ n2)
    (hy : ∀ i, i < n1 → w.cell? ⟨b1, o1 + i, none⟩ = some (.int .u8 (y i))) (ht : ∀ i, i < n2 → w.cell? ⟨b2, o2 + i, none⟩ = some (.int .i32 (t i))) :
    Calls Try.prog 3 #[.slice (some ⟨b0, o0, none⟩) n0 c0, .slice (some ⟨b1, o1, none⟩) n1 c1, .slice (some ⟨b2, o2, none⟩) n2 c2, .int .i32 k, .int .u8 b] w fun e w' => e = .returned (.bool true) ∧ Below w.heap.size w w' := by
  have HX : Hid (∀ i, i < n0 → w.cell? ⟨b0, o0 + i, none⟩ = some (.int .i32 (x i))) := hx
  have HY : Hid (∀ i, i < n1 → w.cell? ⟨b1, o1 + i, none⟩ = some (.int .u8 (y i))) := hy
  have HT : Hid (∀ i, i < n2 → w.cell? ⟨b2, o2 + i, none⟩ = some (.int .i32 (t i))) := ht
  clear hx hy ht
  go_enter Try.func3, Try.ntmps3
  go_wp2_with fail
  refine (zz7 _ _ _ _ _ _ _ _ _ _ _ _ (by unfold maxLen; omega) (by unfold maxLen; omega) (by unfold maxLen; omega)).mono ?_
  rintro e w' ⟨⟨r, rfl, _⟩, hw⟩
  have hw := hw.symm
  subst hw
  cases r
  · go_wp2_with fail
    go_ret
    exact ⟨rfl, Below.refl _ _⟩
  · go_wp2_with fail
    refine (dom_in _ b0 o0 n0 _ b1 o1 n1 _ n2 _ k l h y w (by unfold maxLen; omega) (by unfold maxLen; omega) (by unfold maxLen; omega) hk (by omega) (by rw [HX.out k (by omega), hlo.out]) (by rw [HX.out (k + 1) (by omega), hhi.out]) bh hlt g1 g2 HY.out).mono ?_
    rintro e w' ⟨⟨r, rfl, hs⟩, nd, hw⟩
    have hB0 : Below w.heap.size w w' := by rw [hw]; exact below_drewN (Below.refl _ _) _
    clear hw
    cases r
    · clear hs
      go_wp2_with fail
      go_ret
      exact ⟨rfl, by assumption⟩
    · have HS : Hid (∀ i : Nat, l ≤ i → i + 1 < h → y i ≤ y (i + 1)) := hs rfl
      have HB0 : Hid (Below w.heap.size w w') := hB0
      clear hs hB0
      go_wp2_with (first
        | ((with_reducible refine wpList_make_any ?_ (.tmp 45) (.tmp 45) 22 ?_ 21 (.int .i32 0) 4 Try.underlying22 info21 ?_ .i64 .i64 n0 ?_ ?_ ?_ ?_ w HB0.out ?_); rfl; rfl; rfl; rfl; rfl; omega; omega; intro w1 q0 hq0 hp0 hr0 hbl1 hbm1)
        | ((with_reducible refine wpList_copy_any ?_ (.tmp 47) (.tmp 48) 22 22 ?_ 21 Try.underlying22 size21 q0 n0 b0 o0 c0 ?_ ?_ 21 (fun _ => .int .i32 0) (fun i => .int .i32 (x i)) hr0.out (fun j hj => (hbl1.out.cell (p := ⟨b0, o0 + j, none⟩) hb0).trans (HX.out j hj)) (fun _ => rfl) w hbl1.out hq0 ?_); rfl; rfl; rfl; rfl; intro w2 hr0' hbl2 hbm2)
        | ((with_reducible refine wpList_make_any ?_ (.tmp 54) (.tmp 54) 23 ?_ 5 (.int .u8 0) 1 Try.underlying23 info5 ?_ .i64 .i64 n1 ?_ ?_ ?_ ?_ w hbl2.out ?_); rfl; rfl; rfl; rfl; rfl; omega; omega; intro w3 q1 hq1 hp1 hr1 hbl3 hbm3)
        | ((with_reducible refine wpList_copy_any ?_ (.tmp 56) (.tmp 57) 23 23 ?_ 5 Try.underlying23 size5 q1 n1 b1 o1 c1 ?_ ?_ 5 (fun _ => .int .u8 0) (fun i => .int .u8 (y i)) hr1.out (fun j hj => (hbl3.out.cell (p := ⟨b1, o1 + j, none⟩) hb1).trans (HY.out j hj)) (fun _ => rfl) w hbl3.out hq1 ?_); rfl; rfl; rfl; rfl; intro w4 hr1' hbl4 hbm4)
        | ((with_reducible refine wpList_make_any ?_ (.tmp 63) (.tmp 63) 22 ?_ 21 (.int .i32 0) 4 Try.underlying22 info21 ?_ .i64 .i64 n2 ?_ ?_ ?_ ?_ w hbl4.out ?_); rfl; rfl; rfl; rfl; rfl; omega; omega; intro w5 q2 hq2 hp2 hr2 hbl5 hbm5)
        | ((with_reducible refine wpList_copy_any ?_ (.tmp 65) (.tmp 66) 22 22 ?_ 21 Try.underlying22 size21 q2 n2 b2 o2 c2 ?_ ?_ 21 (fun _ => .int .i32 0) (fun i => .int .i32 (t i)) hr2.out (fun j hj => (hbl5.out.cell (p := ⟨b2, o2 + j, none⟩) hb2).trans (HT.out j hj)) (fun _ => rfl) w hbl5.out hq2 ?_); rfl; rfl; rfl; rfl; intro w6 hr2' hbl6 hbm6; have R6 : Hid (w6.rowIs q0 21 n0 (fun i => .int .i32 (x i)) ∧ w6.rowIs q1 5 n1 (fun i => .int .u8 (y i))) := rows6 hr0'.out hp1 hbm3.out hbm4.out hr1'.out hp2 hbm5.out hbm6.out; have cL : w6.cell? ⟨q0, k, none⟩ = some (.int .i32 (l : Int)) := by {rw [R6.out.1.cell (by omega), hlo.out]}; have cH : w6.cell? ⟨q0, k + 1, none⟩ = some (.int .i32 (h : Int)) := by {rw [R6.out.1.cell (by omega), hhi.out]}))
      clear hr0 hr1 hr2 hbm1 hbm2 hbm3 hbm4 hbm5 hbm6 hbl1 hbl2 hbl3 hbl4 hbl5 HB0 hr0' hr1' HX HY HT
      go_loop [16, 17] (fun u v => ∃ a z : Nat, l ≤ a ∧ a ≤ z ∧ z ≤ h ∧ u = .int .i64 a ∧ v = .int .i64 z ∧ Hid (∀ i : Nat, l ≤ i → i < a → y i < b) ∧ Hid (∀ i : Nat, z ≤ i → i < h → b ≤ y i)) (fun u v => (intOf v).toNat - (intOf u).toNat)
      case atStart => exact ⟨l, h, by omega, by omega, by omega, rfl, rfl, fun i c d => by omega, fun i c d => by omega⟩
      case round =>
        obtain ⟨a, z, ha1, ha2, ha3, rfl, rfl, HA, HZ⟩ := hrel
        by_cases hlt2 : a < z
        · have cM := R6.out.2.cell (i := a + (z - a) / 2) (by omega)
          go_wp2
          · go_round
            case rel => 
              have e1 : y (a + (z - a) / 2) < b := by assumption
              refine ⟨a + (z - a) / 2 + 1, z, by omega, by omega, by omega, by go_num, rfl, below_mid HS.out (by omega) (by omega) e1, HZ⟩
            case measure => simp [intOf]; omega
          · go_round
            case rel => 
              have e1 : b ≤ y (a + (z - a) / 2) := by assumption
              refine ⟨a, a + (z - a) / 2, by omega, by omega, by omega, rfl, by go_num, HA, above_mid HS.out (by omega) e1⟩
            case measure => simp [intOf]; omega
        · have e : z = a := by omega
          subst e
          by_cases hz : z < h
          · have cM := R6.out.2.cell (i := z) (by omega)
            have cT := hr2'.out.cell (i := z) (by omega)
            go_wp2_with fail
            · refine (zzedge_in q0 0 n0 n0 q1 0 n1 n1 q2 0 n2 n2 k l h b y t w6 (by unfold maxLen; omega) (by unfold maxLen; omega) (by unfold maxLen; omega) hk (by omega) R6.out.1.lt R6.out.2.lt hr2'.out.lt (by rw [Nat.zero_add]; exact cL) (by rw [Nat.zero_add]; exact cH) bh hlt g1 g2 (fun i hi => by rw [Nat.zero_add]; exact R6.out.2.cell hi) (fun i hi => by rw [Nat.zero_add]; exact hr2'.out.cell hi) HS).mono ?_
              rintro e w7 ⟨⟨r, rfl, hr⟩, hb7⟩
              have er := hr.uniq (res_lower HA.out ha1 hz (by assumption))
              subst er
              clear hr
              have HE : Hid (Below w.heap.size w w7) := hbl6.out.trans (hb7.mono hbl6.out.size)
              clear hb7
              go_wp2_with fail
              go_ret
              exact ⟨ret_true (by simp), HE.out⟩
            · refine (zzedge_in q0 0 n0 n0 q1 0 n1 n1 q2 0 n2 n2 k l h b y t w6 (by unfold maxLen; omega) (by unfold maxLen; omega) (by unfold maxLen; omega) hk (by omega) R6.out.1.lt R6.out.2.lt hr2'.out.lt (by rw [Nat.zero_add]; exact cL) (by rw [Nat.zero_add]; exact cH) bh hlt g1 g2 (fun i hi => by rw [Nat.zero_add]; exact R6.out.2.cell hi) (fun i hi => by rw [Nat.zero_add]; exact hr2'.out.cell hi) HS).mono ?_
              rintro e w7 ⟨⟨r, rfl, hr⟩, hb7⟩
              have er := hr.uniq (res_miss HS.out HA.out HZ.out ha1 hz (by assumption))
              subst er
              clear hr
              have HE : Hid (Below w.heap.size w w7) := hbl6.out.trans (hb7.mono hbl6.out.size)
              clear hb7
              go_wp2_with fail
              go_ret
              exact ⟨ret_true (by simp), HE.out⟩
          · go_wp2_with fail
            refine (zzedge_in q0 0 n0 n0 q1 0 n1 n1 q2 0 n2 n2 k l h b y t w6 (by unfold maxLen; omega) (by unfold maxLen; omega) (by unfold maxLen; omega) hk (by omega) R6.out.1.lt R6.out.2.lt hr2'.out.lt (by rw [Nat.zero_add]; exact cL) (by rw [Nat.zero_add]; exact cH) bh hlt g1 g2 (fun i hi => by rw [Nat.zero_add]; exact R6.out.2.cell hi) (fun i hi => by rw [Nat.zero_add]; exact hr2'.out.cell hi) HS).mono ?_
            rintro e w7 ⟨⟨r, rfl, hr⟩, hb7⟩
            have er := hr.uniq (res_out HA.out (by omega))
            subst er
            clear hr
            have HE : Hid (Below w.heap.size w w7) := hbl6.out.trans (hb7.mono hbl6.out.size)
            clear hb7
            go_wp2_with fail
            go_ret
            exact ⟨ret_true (by simp), HE.out⟩

end Go.Proofs.Qxb6601898a.Ed
