import Derived.Test.Qxb6602321aFlP
namespace Go.Proofs.Qxb6602321a.Fl
open Go.ChangeShapes Go.WideShapes Go.ChangeAt Go.RowKit
set_option linter.unusedVariables false

/-! ### Rows made, and the difference -/

theorem wpList_mk {P : Program} {w : World} {ops : Array Oper} {rest : List Oper} {o : Oper} {a : Act} {Q : Exit → Act → World → Prop}
    (hg : o.guard = none) (l c : Operand) (t : TypeId) (hop : o.op = Op.makeSlice t l c)
    (e : TypeId) (z : Value) (bytes : Nat) (ht : P.underlying t = some (.slice e)) (hinfo : (P.info? e).map (fun i => (i.zero, i.size, i.bytes)) = some (some z, 1, bytes)) (hz1 : z.cells = #[z])
    (kl kc : IntKind) (n : Nat) (hl : a.eval l = .int kl (n : Int)) (hc : a.eval c = .int kc (n : Int)) (hbytes : bytes * n ≤ 281474976710656) (h63 : n ≤ 9223372036854775807)
    (hK : ∀ w' g, w.heap.size ≤ g → Hid (w'.rowIs g e n (fun _ => z)) → Hid (w.grownBy w' none) → wpList P ops Q rest (a.put o.dst (.slice (some ⟨g, 0, none⟩) n n)) w') :
    wpList P ops Q (o :: rest) a w := by
  refine wpList_plain hg fun K hK' => ?_
  have hrun := run_make_row' (P := P) t e z bytes ht hinfo hz1 kl kc n hbytes h63 w
  unfold Oper.wp
  simp [execOp, hop, hl, hc, hrun, Result.andThen]
  exact hK' _ _ (hK _ _ (Nat.le_refl _) (World.rowIs_made w z n e) (World.grownBy_alloc w _ none))

theorem row_grown {w w' : World} {g n : Nat} {t : TypeId} {f : Nat → Value} (h : w.rowIs g t n f) (hg : w.grownBy w' none) : w'.rowIs g t n f := h.of_block (hg.block g h.lt (by simp))

theorem LRow.on {w w' : World} {g : Nat} {a : Nat → Nat} (h : LRow w g a) (hg : w.grownBy w' none) : LRow w' g a := ⟨row_grown h.row hg, h.lt⟩

theorem grown_write {w wr : World} (h : w.grownBy wr none) {a : Addr} (ha : w.heap.size ≤ a.block) (v : Value) : w.grownBy (wr.setCell a v) none :=
  ⟨h.os, h.tape, h.output, by simp only [World.setCell, Array.size_modify]; exact h.size, fun k hk _ => (Below.heap_setCell _ _ _ _ (by omega)).trans (h.block k hk (by simp))⟩

theorem info31 : (Try.prog.info? 31).map (fun i => (i.zero, i.size, i.bytes)) = some (some (.int .u64 0), 1, 8) := by kernel_rfl
theorem info25 : (Try.prog.info? 25).map (fun i => (i.zero, i.size, i.bytes)) = some (some (.float .f64 0), 1, 8) := by kernel_rfl

/-- All limbs nil. -/
theorem LV_zero : ∀ n, LV (fun _ => 0) n = 0 := by
  intro n
  induction n with
  | zero => rfl
  | succ n ih => show LV _ n + 0 * _ = 0; rw [ih]; simp

theorem LRow.made {w : World} {g : Nat} (h : w.rowIs g 31 70 (fun _ => .int .u64 0)) : LRow w g (fun _ => 0) := ⟨h, fun i hi => by decide⟩

structure SubAt (a b d : Nat → Nat) (k br : Nat) : Prop where
  eq : LV a k + br * 2 ^ (32 * k) = LV d k + LV b k

theorem SubAt.next {a b d : Nat → Nat} {k br br' v : Nat} (h : SubAt a b d k br) (hv : a k + br' * 2 ^ 32 = v + b k + br) : SubAt a b (upd d k v) (k + 1) br' := by
  constructor
  have h1 : LV (upd d k v) k = LV d k := LV_congr (fun i hi => by unfold upd; rw [if_neg (by omega)])
  have h2 : upd d k v k = v := by unfold upd; rw [if_pos rfl]
  show LV a k + a k * 2 ^ (32 * k) + br' * 2 ^ (32 * (k + 1)) = LV (upd d k v) k + upd d k v k * 2 ^ (32 * k) + (LV b k + b k * 2 ^ (32 * k))
  rw [h1, h2, show 32 * (k + 1) = 32 + 32 * k by omega, Nat.pow_add, ← Nat.mul_assoc]
  have h3 := congrArg (fun z => z * 2 ^ (32 * k)) hv
  simp only [Nat.add_mul] at h3
  have := h.eq
  omega

def SubRet (w : World) (x : Nat) (e : Ending) (w' : World) : Prop := ∃ g d, e = .returned (.slice (some ⟨g, 0, none⟩) 70 70) ∧ LRow w' g d ∧ LV d 70 = x ∧ w.grownBy w' none

set_option maxRecDepth 20000 in
set_option maxHeartbeats 1000000 in
theorem subMag_any (g h : Nat) (a b : Nat → Nat) (w : World) (ha : LRow w g a) (hb : LRow w h b) (hle : LV b 70 ≤ LV a 70) :
    Calls Try.prog 23 #[.slice (some ⟨g, 0, none⟩) 70 70, .slice (some ⟨h, 0, none⟩) 70 70] w fun e w' => SubRet w (LV a 70 - LV b 70) e w' := by
  have HA := hide ha
  have HB := hide hb
  have HLE := hide hle
  have hgw := ha.row.lt
  have hhw := hb.row.lt
  clear ha hb hle
  go_enter Try.func23, Try.ntmps23
  go_wp2_with (at_make; (with_reducible refine wpList_mk ?_ (.const (.int .i64 70)) (.const (.int .i64 70)) 35 ?_ 31 (.int .u64 0) 8 Try.underlying35 info31 ?_ .i64 .i64 70 ?_ ?_ ?_ ?_ ?_); rfl; rfl; rfl; rfl; rfl; omega; omega; intro w1 g1 hg1 hr1 G1)
  have L1 : Hid (LRow w1 g1 (fun _ => 0)) := LRow.made hr1.out
  clear hr1
  have ne1 : g ≠ g1 := by omega
  have ne2 : h ≠ g1 := by omega
  go_loopw [6, 7] (fun u v wr => ∃ (k br : Nat) (d : Nat → Nat), k ≤ 70 ∧ br ≤ 1 ∧ u = .int .u64 br ∧ v = .int .i64 k ∧ Hid (LRow wr g1 d) ∧ SubAt a b d k br ∧ Hid (w.grownBy wr none)) (fun _ v _ => 70 - (intOf v).toNat)
  case atStart => exact ⟨0, 0, fun _ => 0, by omega, by omega, rfl, rfl, L1, ⟨rfl⟩, G1⟩
  case round =>
    obtain ⟨k, br, d, hk, hbr, rfl, rfl, LD, S, G⟩ := hrel
    clear L1 G1
    by_cases hlt : k < 70
    · have c1 : wr.cell? ⟨g, k, none⟩ = some (.int .u64 (a k)) := (HA.out.on G.out).row.cell hlt
      have c2 : wr.cell? ⟨h, k, none⟩ = some (.int .u64 (b k)) := (HB.out.on G.out).row.cell hlt
      have c3 : wr.cell? ⟨g1, k, none⟩ = some (.int .u64 (d k)) := LD.out.row.cell hlt
      have f3 := LD.out.row.frozen k
      have r1 := HA.out.lt k hlt
      have r2 := HB.out.lt k hlt
      obtain ⟨t, ht⟩ : ∃ t : Nat, (a k : Int) + 4294967296 - b k - br = t := ⟨a k + 4294967296 - b k - br, by omega⟩
      have ht2 : t < 8589934592 := by omega
      have hbt := and_mask t (by omega)
      obtain ⟨v, hv⟩ : ∃ v, v = t % 2 ^ 32 := ⟨_, rfl⟩
      rw [← hv] at hbt
      have hv2 : v < 4294967296 := by omega
      by_cases hb1 : t < 4294967296
      · have q1 : ((t : Int) / 4294967296 == 0) = true := by simp; omega
        have HV : Hid (a k + 1 * 2 ^ 32 = v + b k + br) := by show _ = _; omega
        clear hv
        go_wp2_with fail
        go_quiet (fail)
        go_wp2_with fail
        go_roundw
        case rel =>
          exact ⟨k + 1, 1, upd d k v, by omega, by omega, rfl, by go_num, (⟨LD.out.row, LD.out.lt⟩ : LRow (wr.drewN _) g1 d).set k hv2, S.next HV.out, grown_write (G.out.trans (grown_drewN _ _ _)) hg1 _⟩
        case measure => simp [intOf]; omega
      · have q1 : ((t : Int) / 4294967296 == 0) = false := by simp; omega
        have HV : Hid (a k + 0 * 2 ^ 32 = v + b k + br) := by show _ = _; omega
        clear hv
        go_wp2_with fail
        go_quiet (fail)
        go_wp2_with fail
        go_roundw
        case rel =>
          exact ⟨k + 1, 0, upd d k v, by omega, by omega, rfl, by go_num, (⟨LD.out.row, LD.out.lt⟩ : LRow (wr.drewN _) g1 d).set k hv2, S.next HV.out, grown_write (G.out.trans (grown_drewN _ _ _)) hg1 _⟩
        case measure => simp [intOf]; omega
    · have hk70 : k = 70 := by omega
      subst hk70
      have HV : Hid (LV d 70 = LV a 70 - LV b 70) := by
        show _ = _
        have h1 := S.eq
        have h2 := LV_lt (a := d) (n := 70) (fun i hi => LD.out.lt i hi)
        have h3 := HLE.out
        rw [← LB_eq] at h1 h2
        by_cases e : br = 0
        · subst e; omega
        · have : br = 1 := by omega
          subst this
          omega
      clear S
      go_wp2_with fail
      go_ret
      exact ⟨g1, d, rfl, LD.out, HV.out, G.out⟩

end Go.Proofs.Qxb6602321a.Fl
