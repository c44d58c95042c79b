import Derived.Test.Qxb6601898aEdgeD
import Derived.Deep.RegionWith
namespace Go.Proofs.Qxb6601898a.Ed
open Go.ChangeShapes Go.WideShapes Go.ChangeAt Go.RowKit
set_option linter.unusedVariables false

/-- A new variable of an array type. -/
theorem wpList_alloc_any {P : Program} {w : World} {ops : Array Oper} {rest : List Oper} {o : Oper} {a : Act} {Q : Exit → Act → World → Prop}
    (hg : o.guard = none) (t : TypeId) (hop : o.op = Op.alloc t) (n : Nat) (v : Value) (hz : (P.info? t).map (fun i => i.zero.map (fun z => z.cells)) = some (some (Array.replicate n v))) (w0 : World) (hb : Below w0.heap.size w0 w)
    (hK : ∀ w' g, w0.heap.size ≤ g → w.heap.size ≤ g → Hid (w'.rowIs g t n (fun _ => v)) → Hid (Below w0.heap.size w0 w') → Hid (Below w.heap.size w w') → wpList P ops Q rest (a.put o.dst (.pointer (some ⟨g, 0, none⟩))) w') :
    wpList P ops Q (o :: rest) a w := by
  refine wpList_plain hg fun K hK' => ?_
  obtain ⟨i, hi, hz'⟩ := Option.map_eq_some_iff.1 hz
  obtain ⟨z, hzz, hzc⟩ := Option.map_eq_some_iff.1 hz'
  have hrun : (Instr.alloc t true (.tuple #[])).run P w = .ok (.pointer (some ⟨w.heap.size, 0, none⟩)) (w.alloc (.cells z.cells t)) := by
    simp [Instr.alloc, zeroValue, typeInfo, hi, hzz, newVar, newRow]
  unfold Oper.wp
  simp [execOp, hop, hrun, Result.andThen]
  refine hK' _ _ (hK _ _ hb.size (Nat.le_refl _) ?_ (hb.alloc hb.size _) ((Below.refl _ _).alloc (Nat.le_refl _) _))
  rw [hzc]
  have := World.rowIs_alloc w (Array.replicate n v) t (fun _ => v) (fun i hi => by simp at hi; simp [hi])
  simp only [Array.size_replicate] at this
  exact this

theorem info27 : (Try.prog.info? 27).map (fun i => i.zero.map (fun z => z.cells)) = some (some (Array.replicate 256 (.int .i32 0))) := by kernel_rfl

/-- One edge more, ahead of the others. -/
theorem EdgeRes.step {y t : Nat → Int} {m h c : Nat} {r : Int} (hr : EdgeRes y t c ((m : Int) + 1) h r) (hm : m < h) (v : Nat) (hv : y m = (v : Int)) : EdgeRes y t c m h (if c = v then t m else r) := by
  by_cases e : c = v
  · subst e
    rw [if_pos rfl]
    exact .inl ⟨m, by omega, by omega, hv, fun j a b => by omega, rfl⟩
  · rw [if_neg e]
    rcases hr with ⟨i, h1, h2, h3, h4, rfl⟩ | ⟨h1, rfl⟩
    · refine .inl ⟨i, by omega, h2, h3, fun j a b => ?_, rfl⟩
      by_cases g : j = m
      · subst g; omega
      · exact h4 j (by omega) b
    · refine .inr ⟨fun j a b => ?_, rfl⟩
      by_cases g : j = m
      · subst g; omega
      · exact h1 j (by omega) b

theorem wrap_u8 {j : Nat} (h : j < 256) : IntKind.u8.wrap (j : Int) = j := by
  simp [IntKind.wrap, IntKind.signed, IntKind.bits]
  omega

theorem below_drew {B : Nat} {a w : World} (h : Below B a w) : Below B a w.drew := h.drew

theorem row_drew {w : World} {g n : Nat} {t : TypeId} {f : Nat → Value} (h : w.rowIs g t n f) : w.drew.rowIs g t n f := h

theorem row_set_if {w : World} {g n : Nat} {t : TypeId} {tab : Nat → Int} (h : w.rowIs g t n (fun c => .int .i32 (tab c))) (v : Nat) (z : Int) :
    (w.setCell ⟨g, v, none⟩ (.int .i32 z)).rowIs g t n (fun c => .int .i32 (if c = v then z else tab c)) := by
  refine (h.set v (.int .i32 z)).congr (fun i hi => ?_)
  by_cases e : i = v
  · rw [if_pos e, if_pos e]
  · rw [if_neg e, if_neg e]

set_option maxRecDepth 4000 in
set_option maxHeartbeats 2000000 in
theorem law2_in (b0 o0 n0 c0 b1 o1 n1 c1 b2 o2 n2 c2 k l h : Nat) (x y t : Nat → Int) (w : World) (h0 : (n0 : Int) ≤ 65536) (h1 : (n1 : Int) ≤ 262144) (h2 : (n2 : Int) ≤ 65536) (hk : k + 1 < n0)
    (hb0 : b0 < w.heap.size) (hb1 : b1 < w.heap.size) (hb2 : b2 < w.heap.size)
    (hx : ∀ i, i < n0 → w.cell? ⟨b0, o0 + i, none⟩ = some (.int .i32 (x i))) (hlo : Hid (x k = (l : Int))) (hhi : Hid (x (k + 1) = (h : Int))) (bh : h ≤ 2147483647) (hlt : l < h) (g1 : h ≤ n1) (g2 : h ≤ n2)
    (hy : ∀ i, i < n1 → w.cell? ⟨b1, o1 + i, none⟩ = some (.int .u8 (y i))) (ht : ∀ i, i < n2 → w.cell? ⟨b2, o2 + i, none⟩ = some (.int .i32 (t i))) (hyb : Hid (∀ i, 0 ≤ y i ∧ y i ≤ 255)) :
    Calls Try.prog 4 #[.slice (some ⟨b0, o0, none⟩) n0 c0, .slice (some ⟨b1, o1, none⟩) n1 c1, .slice (some ⟨b2, o2, none⟩) n2 c2, .int .i32 k] w fun e w' => e = .returned (.bool true) ∧ Below w.heap.size w w' := by
  have HX : Hid (∀ i, i < n0 → w.cell? ⟨b0, o0 + i, none⟩ = some (.int .i32 (x i))) := hx
  have HY : Hid (∀ i, i < n1 → w.cell? ⟨b1, o1 + i, none⟩ = some (.int .u8 (y i))) := hy
  have HT : Hid (∀ i, i < n2 → w.cell? ⟨b2, o2 + i, none⟩ = some (.int .i32 (t i))) := ht
  clear hx hy ht
  go_enter Try.func4, Try.ntmps4
  go_wp2_with fail
  refine (zz10 _ _ _ _ _ _ _ _ _ _ _ (by unfold maxLen; omega) (by unfold maxLen; omega) (by unfold maxLen; omega)).mono ?_
  rintro e w' ⟨⟨r, rfl, _⟩, hw⟩
  have hw := hw.symm
  subst hw
  cases r
  · go_wp2_with fail
    go_ret
    exact ⟨rfl, Below.refl _ _⟩
  · go_wp2_with fail
    refine (dom_in _ b0 o0 n0 _ b1 o1 n1 _ n2 _ k l h y w (by unfold maxLen; omega) (by unfold maxLen; omega) (by unfold maxLen; omega) hk (by omega) (by rw [HX.out k (by omega), hlo.out]) (by rw [HX.out (k + 1) (by omega), hhi.out]) bh hlt g1 g2 HY.out).mono ?_
    rintro e w' ⟨⟨r, rfl, hs⟩, nd, hw⟩
    have hB0 : Below w.heap.size w w' := by rw [hw]; exact below_drewN (Below.refl _ _) _
    clear hw
    cases r
    · clear hs
      go_wp2_with fail
      go_ret
      exact ⟨rfl, by assumption⟩
    · have HS : Hid (∀ i : Nat, l ≤ i → i + 1 < h → y i ≤ y (i + 1)) := hs rfl
      have HB0 : Hid (Below w.heap.size w w') := hB0
      clear hs hB0
      go_wp2_with (first
        | ((with_reducible refine wpList_make_any ?_ (.tmp 42) (.tmp 42) 22 ?_ 21 (.int .i32 0) 4 Try.underlying22 info21 ?_ .i64 .i64 n0 ?_ ?_ ?_ ?_ w HB0.out ?_); rfl; rfl; rfl; rfl; rfl; omega; omega; intro w1 q0 hq0 hp0 hr0 hbl1 hbm1)
        | ((with_reducible refine wpList_copy_any ?_ (.tmp 44) (.tmp 45) 22 22 ?_ 21 Try.underlying22 size21 q0 n0 b0 o0 c0 ?_ ?_ 21 (fun _ => .int .i32 0) (fun i => .int .i32 (x i)) hr0.out (fun j hj => (hbl1.out.cell (p := ⟨b0, o0 + j, none⟩) hb0).trans (HX.out j hj)) (fun _ => rfl) w hbl1.out hq0 ?_); rfl; rfl; rfl; rfl; intro w2 hr0' hbl2 hbm2)
        | ((with_reducible refine wpList_make_any ?_ (.tmp 51) (.tmp 51) 23 ?_ 5 (.int .u8 0) 1 Try.underlying23 info5 ?_ .i64 .i64 n1 ?_ ?_ ?_ ?_ w hbl2.out ?_); rfl; rfl; rfl; rfl; rfl; omega; omega; intro w3 q1 hq1 hp1 hr1 hbl3 hbm3)
        | ((with_reducible refine wpList_copy_any ?_ (.tmp 53) (.tmp 54) 23 23 ?_ 5 Try.underlying23 size5 q1 n1 b1 o1 c1 ?_ ?_ 5 (fun _ => .int .u8 0) (fun i => .int .u8 (y i)) hr1.out (fun j hj => (hbl3.out.cell (p := ⟨b1, o1 + j, none⟩) hb1).trans (HY.out j hj)) (fun _ => rfl) w hbl3.out hq1 ?_); rfl; rfl; rfl; rfl; intro w4 hr1' hbl4 hbm4)
        | ((with_reducible refine wpList_make_any ?_ (.tmp 60) (.tmp 60) 22 ?_ 21 (.int .i32 0) 4 Try.underlying22 info21 ?_ .i64 .i64 n2 ?_ ?_ ?_ ?_ w hbl4.out ?_); rfl; rfl; rfl; rfl; rfl; omega; omega; intro w5 q2 hq2 hp2 hr2 hbl5 hbm5)
        | ((with_reducible refine wpList_copy_any ?_ (.tmp 62) (.tmp 63) 22 22 ?_ 21 Try.underlying22 size21 q2 n2 b2 o2 c2 ?_ ?_ 21 (fun _ => .int .i32 0) (fun i => .int .i32 (t i)) hr2.out (fun j hj => (hbl5.out.cell (p := ⟨b2, o2 + j, none⟩) hb2).trans (HT.out j hj)) (fun _ => rfl) w hbl5.out hq2 ?_); rfl; rfl; rfl; rfl; intro w6 hr2' hbl6 hbm6; have R6 : Hid (w6.rowIs q0 21 n0 (fun i => .int .i32 (x i)) ∧ w6.rowIs q1 5 n1 (fun i => .int .u8 (y i))) := rows6 hr0'.out hp1 hbm3.out hbm4.out hr1'.out hp2 hbm5.out hbm6.out; have cL : w6.cell? ⟨q0, k, none⟩ = some (.int .i32 (l : Int)) := by {rw [R6.out.1.cell (by omega), hlo.out]}; have cH : w6.cell? ⟨q0, k + 1, none⟩ = some (.int .i32 (h : Int)) := by {rw [R6.out.1.cell (by omega), hhi.out]})
        | ((with_reducible refine wpList_alloc_any ?_ 27 ?_ 256 (.int .i32 0) info27 w hbl6.out ?_); rfl; rfl; intro w7 T hT0 hT hrT hbl7 hbm7))
      clear hr0 hr1 hr2 hbm1 hbm2 hbm3 hbm4 hbm5 hbm6 hbl1 hbl2 hbl3 hbl4 hbl5 HB0 hr0' hr1' HX HY HT
      have RT : Hid ((w7.rowIs q1 5 n1 (fun i => .int .u8 (y i)) ∧ w7.rowIs q2 21 n2 (fun i => .int .i32 (t i)) ∧ w7.rowIs q0 21 n0 (fun i => .int .i32 (x i))) ∧ q0 < T ∧ q1 < T ∧ q2 < T) := by
        have a0 := R6.out.1.lt
        have a1 := R6.out.2.lt
        have a2 := hr2'.out.lt
        exact ⟨⟨row_on R6.out.2 hbm7.out a1, row_on hr2'.out hbm7.out a2, row_on R6.out.1 hbm7.out a0⟩, by omega, by omega, by omega⟩
      clear R6 hr2' hbm7 cL cH hbl6
      go_loopw [15] (fun c wr => ∃ j : Nat, j ≤ 256 ∧ c = .int .i64 j ∧ Hid (wr.rowIs T 27 256 (fun i => .int .i32 (if i < j then -1 else 0))) ∧ Hid (Below T w7 wr)) (fun c _ => 256 - (intOf c).toNat)
      case atStart => exact ⟨0, by omega, rfl, hrT.out.congr (fun i hi => by simp), Below.refl _ _⟩
      case round =>
        obtain ⟨j, hj, rfl, HR, HB⟩ := hrel
        by_cases hlt2 : j < 256
        · obtain ⟨v0, cT⟩ : ∃ v0, wr.cell? ⟨T, j, none⟩ = some v0 := ⟨_, HR.out.cell hlt2⟩
          have fT := HR.out.frozen j
          go_wp2
          go_roundw
          case rel =>
            refine ⟨j + 1, by omega, by go_num, (HR.out.set j _).congr (fun i hi => ?_), HB.out.setCell (Nat.le_refl _) _⟩
            by_cases e : i = j
            · subst e; simp
            · rw [if_neg e]
              by_cases e2 : i < j
              · rw [if_pos e2, if_pos (by omega)]
              · rw [if_neg e2, if_neg (by omega)]
          case measure => simp [intOf]; omega
        · have hj9 : (256 : Int) ≤ j := by omega
          have HR2 : Hid (wr.rowIs T 27 256 (fun i => .int .i32 (-1))) := HR.out.congr (fun i hi => by rw [if_pos (by omega)])
          clear HR hlt2
          have hlh : (l : Int) ≤ h := by omega
          go_wp2_with fail
          go_loopw [16] (fun u wr2 => ∃ m : Nat, l ≤ m ∧ m ≤ h ∧ u = .int .i64 ((m : Int) - 1) ∧ Hid (Below T w7 wr2) ∧ ∃ tab : Nat → Int, Hid (wr2.rowIs T 27 256 (fun c => .int .i32 (tab c))) ∧ Hid (∀ c, EdgeRes y t (c : Nat) m h (tab c))) (fun u _ => (intOf u + 1).toNat)
          case atStart => exact ⟨h, by omega, by omega, rfl, HB, fun _ => -1, HR2, fun c => .inr ⟨fun i a b => by omega, rfl⟩⟩
          case round =>
            obtain ⟨m, hm1, hm2, rfl, HB2, tab, HR3, HE⟩ := hrel
            clear HB HR2
            by_cases hlm : l < m
            · obtain ⟨m, rfl⟩ : ∃ m', m = m' + 1 := ⟨m - 1, by omega⟩
              obtain ⟨v, hv⟩ : ∃ v : Nat, y m = (v : Int) := ⟨(y m).toNat, by have := hyb.out m; omega⟩
              have hv256 : v < 256 := by have := hyb.out m; omega
              have HV : Hid (y m = (v : Int)) := hv
              have cY : wr.cell? ⟨q1, m, none⟩ = some (.int .u8 (v : Int)) := by
                rw [← hv]; exact cell_on HB2.out (RT.out.1.1.cell (by omega)) RT.out.2.2.1
              have cT : wr.cell? ⟨q2, m, none⟩ = some (.int .i32 (t m)) := cell_on HB2.out (RT.out.1.2.1.cell (by omega)) RT.out.2.2.2
              clear hv
              have cV := HR3.out.cell hv256
              have fV := HR3.out.frozen v
              have em : ((m + 1 : Nat) : Int) - 1 = (m : Int) := by omega
              rw [em]
              have hm3 : (l : Int) ≤ m := by omega
              clear em
              go_wp2_with fail
              go_region
              go_wp2
              go_roundw
              case rel =>
                refine ⟨m, by omega, by omega, by go_num, (below_drew HB2.out).setCell (Nat.le_refl _) _, fun c => if c = v then t m else tab c, ?_, fun c => (HE.out c).step (by omega) v HV.out⟩
                exact row_set_if (row_drew HR3.out) v (t m)
              case measure => simp [intOf]
            · have em : l = m := by omega
              subst em
              clear hlm hm1
              obtain ⟨wb, hwb⟩ : ∃ wb, wb = wr := ⟨_, rfl⟩
              subst hwb
              have hT3 : T + 1 ≤ wb.heap.size := HR3.out.lt
              have EDG : Hid (∀ W', Below (T + 1) wb W' → ∀ b : Int, Calls Try.prog 9 #[.slice (some ⟨q0, 0, none⟩) n0 n0, .slice (some ⟨q1, 0, none⟩) n1 n1, .slice (some ⟨q2, 0, none⟩) n2 n2, .int .i32 k, .int .u8 b] W' fun e w' => RetI (EdgeRes y t b l h) e ∧ Below W'.heap.size W' w') := by
                intro W' hW' b
                obtain ⟨⟨ry, rt, rx⟩, lt0, lt1, lt2⟩ := RT.out
                have ry' := row_on (row_on ry HB2.out lt1) hW' (by omega)
                have rt' := row_on (row_on rt HB2.out lt2) hW' (by omega)
                have rx' := row_on (row_on rx HB2.out lt0) hW' (by omega)
                exact zzedge_in q0 0 n0 n0 q1 0 n1 n1 q2 0 n2 n2 k l h b y t W' (by unfold maxLen; omega) (by unfold maxLen; omega) (by unfold maxLen; omega) hk (by omega) rx'.lt ry'.lt rt'.lt (by rw [Nat.zero_add, rx'.cell (by omega), hlo.out]) (by rw [Nat.zero_add, rx'.cell (by omega), hhi.out]) bh hlt g1 g2 (fun i hi => by rw [Nat.zero_add]; exact ry'.cell hi) (fun i hi => by rw [Nat.zero_add]; exact rt'.cell hi) HS
              have HBE : Hid (Below w.heap.size w wb) := hbl7.out.trans (HB2.out.mono hT0)
              clear RT HS hyb hlo hhi hrT hbl7
              go_wp2_with fail
              go_loopw [17] (fun u wr => ∃ j : Nat, j ≤ 256 ∧ u = .int .i64 j ∧ Hid (Below (T + 1) wb wr)) (fun u _ => 256 - (intOf u).toNat)
              case atStart => exact ⟨0, by omega, rfl, Below.refl _ _⟩
              case round =>
                obtain ⟨j, hj, rfl, HB3⟩ := hrel
                by_cases hj2 : j < 256
                · have cV := cell_on HB3.out (HR3.out.cell hj2) (by omega)
                  have hj3 : (j : Int) < 256 := by omega
                  have HU := HE.out j
                  have HU2 : Hid (EdgeRes y t (IntKind.u8.wrap (j : Int)) l h (tab j)) := by rw [wrap_u8 hj2]; exact HU
                  clear HU
                  have HT4 : T < wr.heap.size := by have := HB3.out.size; omega
                  go_wp2_with fail
                  go_region_with (go_at_call 9; refine (EDG.out _ HB3.out.drew _).mono ?_; rintro e w8 ⟨⟨r, rfl, hr⟩, hb8⟩; have er := hr.uniq HU2.out; subst er; clear hr; have cV8 := cell_on hb8 cV (by simpa using HT4))
                  all_goals
                    have HB9 : Hid (Below (T + 1) wb w8) := HB3.out.drew.trans (by rename_i hb8 _; exact hb8.mono (by simp; omega))
                    go_wp2_with fail
                    go_roundw
                    case rel => exact ⟨j + 1, by omega, by go_num, HB9⟩
                    case measure => simp [intOf]; omega
                · go_wp2_with fail
                  go_ret
                  exact ⟨rfl, HBE.out.trans (HB3.out.mono (by omega))⟩

end Go.Proofs.Qxb6601898a.Ed
