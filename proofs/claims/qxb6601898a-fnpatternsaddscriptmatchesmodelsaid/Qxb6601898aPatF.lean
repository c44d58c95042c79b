import Derived.Test.Qxb6601898aPatE
namespace Go.Proofs.Qxb6601898a.Pt
open Go.ChangeShapes Go.WideShapes Go.ChangeAt Go.RowKit Go.Maps
set_option linter.unusedVariables false

/-! ### The check's own rows -/

theorem wpList_mk {P : Program} {w : World} {ops : Array Oper} {rest : List Oper} {o : Oper} {a : Act} {Q : Exit → Act → World → Prop}
    (hg : o.guard = none) (l c : Operand) (t : TypeId) (hop : o.op = Op.makeSlice t l c)
    (e : TypeId) (z : Value) (bytes : Nat) (ht : P.underlying t = some (.slice e)) (hinfo : (P.info? e).map (fun i => (i.zero, i.size, i.bytes)) = some (some z, 1, bytes)) (hz1 : z.cells = #[z])
    (kl kc : IntKind) (n : Nat) (hl : a.eval l = .int kl (n : Int)) (hc : a.eval c = .int kc (n : Int)) (hbytes : bytes * n ≤ 281474976710656) (h63 : n ≤ 9223372036854775807)
    (hK : ∀ w' g, w.heap.size ≤ g → Hid (w'.rowIs g e n (fun _ => z)) → Hid (w.grownBy w' none) → wpList P ops Q rest (a.put o.dst (.slice (some ⟨g, 0, none⟩) n n)) w') :
    wpList P ops Q (o :: rest) a w := by
  refine wpList_plain hg fun K hK' => ?_
  have hrun := run_make_row' (P := P) t e z bytes ht hinfo hz1 kl kc n hbytes h63 w
  unfold Oper.wp
  simp [execOp, hop, hl, hc, hrun, Result.andThen]
  exact hK' _ _ (hK _ _ (Nat.le_refl _) (World.rowIs_made w z n e) (World.grownBy_alloc w _ none))

theorem grown_refl (w : World) : w.grownBy w none := ⟨rfl, rfl, rfl, Nat.le_refl _, fun _ _ _ => rfl⟩

theorem grown_write {w wr : World} (h : w.grownBy wr none) {a : Addr} (ha : w.heap.size ≤ a.block) (v : Value) : w.grownBy (wr.setCell a v) none :=
  ⟨h.os, h.tape, h.output, by rw [size_set]; exact h.size, fun k hk _ => (Below.heap_setCell _ _ _ _ (by omega)).trans (h.block k hk (by simp))⟩

theorem row_grown {w w' : World} {g n : Nat} {t : TypeId} {f : Nat → Value} (h : w.rowIs g t n f) (hg : w.grownBy w' none) : w'.rowIs g t n f := h.of_block (hg.block g h.lt (by simp))

/-- The first i cells of a row are known. -/
def Row (w : World) (g : Nat) (t : TypeId) (n i : Nat) (f : Nat → Value) : Prop := ∃ c, w.rowIs g t n c ∧ ∀ k, k < i → c k = f k

section
variable {w w' : World} {g n i : Nat} {t : TypeId} {f f' : Nat → Value}

theorem Row.cell (h : Row w g t n i f) {k : Nat} (hk : k < i) (hi : i ≤ n) : w.cell? ⟨g, k, none⟩ = some (f k) := by
  obtain ⟨c, h1, h2⟩ := h
  rw [h1.cell (i := k) (by omega), h2 k hk]
theorem Row.some (h : Row w g t n i f) {k : Nat} (hk : k < n) : ∃ v, w.cell? ⟨g, k, none⟩ = some v := by
  obtain ⟨c, h1, h2⟩ := h
  exact ⟨_, h1.cell (i := k) (by omega)⟩
theorem Row.frozen (h : Row w g t n i f) (k : Nat) : w.frozen? ⟨g, k, none⟩ = false := by
  obtain ⟨c, h1, h2⟩ := h
  exact h1.frozen k
theorem Row.lt (h : Row w g t n i f) : g < w.heap.size := by
  obtain ⟨c, h1, h2⟩ := h
  exact h1.lt
theorem Row.made {z : Value} (h : w.rowIs g t n (fun _ => z)) : Row w g t n 0 f := ⟨_, h, fun k hk => by omega⟩
theorem Row.on (h : Row w g t n i f) (hg : w.grownBy w' none) : Row w' g t n i f := by
  obtain ⟨c, h1, h2⟩ := h
  exact ⟨c, row_grown h1 hg, h2⟩
theorem Row.other (h : Row w g t n i f) {a : Addr} (ha : g ≠ a.block) (v : Value) : Row (w.setCell a v) g t n i f := by
  obtain ⟨c, h1, h2⟩ := h
  exact ⟨c, h1.setOther ha v, h2⟩
theorem Row.put (h : Row w g t n i f) (k : Nat) (v : Value) {j : Nat} (hf : ∀ m, m < j → (m = k ∧ f' m = v) ∨ (m ≠ k ∧ m < i ∧ f' m = f m)) : Row (w.setCell ⟨g, k, none⟩ v) g t n j f' := by
  obtain ⟨c, h1, h2⟩ := h
  refine ⟨_, h1.set k v, fun m hm => ?_⟩
  show (if m = k then v else c m) = f' m
  rcases hf m hm with ⟨e, e2⟩ | ⟨e, e2, e3⟩
  · rw [if_pos e, e2]
  · rw [if_neg e, h2 m e2, e3]
theorem Row.congr (h : Row w g t n i f) {j : Nat} (hj : j ≤ i) (hf : ∀ m, m < j → f m = f' m) : Row w g t n j f' := by
  obtain ⟨c, h1, h2⟩ := h
  exact ⟨c, h1, fun m hm => by rw [h2 m (by omega), hf m hm]⟩
end

/-! ### Its plain functions -/
section
variable (pats : Nat → ByteArray) (ids : Nat → Int) (js : Nat → Bool)

def fpu (j e : Nat) : Bool := decide (∀ e', e' < e → pats e' ≠ pats j)
def fqu (j e : Nat) : Bool := decide (∀ e', e' < e → ¬ (pats e' = pats j ∧ ids e' = ids j))
def wntu (j e : Nat) : Bool := decide (∀ e', e' < e → pats e' = pats j → ids e' = ids j → js e' = true)
/-- firstPat while row j is made, e adds looked at. -/
def F1 (j e : Nat) (k : Nat) : Value := .bool (if k = j then fpu pats j e else fp pats k)
def F2 (j e : Nat) (k : Nat) : Value := .bool (if k = j then fqu pats ids j e else fq pats ids k)

theorem fpu_zero (j : Nat) : fpu pats j 0 = true := by simp [fpu]
theorem fqu_zero (j : Nat) : fqu pats ids j 0 = true := by simp [fqu]
theorem wntu_zero (j : Nat) : wntu pats ids js j 0 = true := by simp [wntu]
theorem fpu_ne {j e : Nat} (h : pats e ≠ pats j) : fpu pats j (e + 1) = fpu pats j e := by
  unfold fpu
  rw [decide_eq_decide]
  constructor
  · exact fun h1 e' he => h1 e' (by omega)
  · intro h1 e' he
    by_cases x : e' = e
    · rw [x]; exact h
    · exact h1 e' (by omega)
theorem fpu_eq {j e : Nat} (h : pats e = pats j) : fpu pats j (e + 1) = false := by
  unfold fpu
  rw [decide_eq_false_iff_not]
  exact fun h1 => h1 e (by omega) h
theorem fqu_ne {j e : Nat} (h : ¬ (pats e = pats j ∧ ids e = ids j)) : fqu pats ids j (e + 1) = fqu pats ids j e := by
  unfold fqu
  rw [decide_eq_decide]
  constructor
  · exact fun h1 e' he => h1 e' (by omega)
  · intro h1 e' he
    by_cases x : e' = e
    · rw [x]; exact h
    · exact h1 e' (by omega)
theorem fqu_eq {j e : Nat} (h : pats e = pats j ∧ ids e = ids j) : fqu pats ids j (e + 1) = false := by
  unfold fqu
  rw [decide_eq_false_iff_not]
  exact fun h1 => h1 e (by omega) h
theorem wntu_ne {j e : Nat} (h : ¬ (pats e = pats j ∧ ids e = ids j ∧ js e = false)) : wntu pats ids js j (e + 1) = wntu pats ids js j e := by
  unfold wntu
  rw [decide_eq_decide]
  constructor
  · exact fun h1 e' he => h1 e' (by omega)
  · intro h1 e' he hp hi
    by_cases x : e' = e
    · subst x
      cases hb : js e' with
      | true => rfl
      | false => exact absurd ⟨hp, hi, hb⟩ h
    · exact h1 e' (by omega) hp hi
theorem wntu_eq {j e : Nat} (h : pats e = pats j ∧ ids e = ids j ∧ js e = false) : wntu pats ids js j (e + 1) = false := by
  unfold wntu
  rw [decide_eq_false_iff_not]
  intro h1
  have := h1 e (by omega) h.1 h.2.1
  rw [h.2.2] at this
  cases this
theorem wntu_end (n j : Nat) : wntu pats ids js j n = wnt pats ids js n j := rfl

/-- The first add of the pattern. -/
def srch (q : Nat → Bool) : Nat → Nat
  | 0 => 0
  | n + 1 => if q (srch q n) then srch q n else n + 1
theorem srch_spec (q : Nat → Bool) : ∀ n, srch q n ≤ n ∧ (q (srch q n) = true ∨ srch q n = n) ∧ ∀ e, e < srch q n → q e = false := by
  intro n
  induction n with
  | zero => exact ⟨Nat.le_refl _, .inr rfl, fun e he => absurd he (Nat.not_lt_zero e)⟩
  | succ n ih =>
    obtain ⟨h1, h2, h3⟩ := ih
    show (if q (srch q n) then srch q n else n + 1) ≤ n + 1 ∧ (q (if q (srch q n) then srch q n else n + 1) = true ∨ (if q (srch q n) then srch q n else n + 1) = n + 1) ∧ ∀ e, e < (if q (srch q n) then srch q n else n + 1) → q e = false
    cases hq : q (srch q n) with
    | true => exact ⟨Nat.le_succ_of_le h1, .inl hq, h3⟩
    | false =>
      have h4 : srch q n = n := by
        rcases h2 with h | h
        · rw [hq] at h; cases h
        · exact h
      refine ⟨Nat.le_refl _, .inr rfl, fun e he => ?_⟩
      have he : e < n + 1 := he
      by_cases x : e = n
      · rw [x, ← h4]; exact hq
      · exact h3 e (by omega)
def frst (k : Nat) : Nat := srch (fun e => decide (pats e = pats k)) k
theorem frst_le (k : Nat) : frst pats k ≤ k := (srch_spec _ k).1
theorem frst_pat (k : Nat) : pats (frst pats k) = pats k := by
  rcases (srch_spec (fun e => decide (pats e = pats k)) k).2.1 with h | h
  · exact of_decide_eq_true h
  · unfold frst; rw [h]
theorem frst_fp (k : Nat) : fp pats (frst pats k) = true := by
  rw [fp_iff]
  intro e he hp
  have := of_decide_eq_false ((srch_spec (fun e => decide (pats e = pats k)) k).2.2 e he)
  exact this (hp.trans (frst_pat pats k))
theorem frst_of {e k : Nat} (h : fp pats e = true) (hp : pats e = pats k) : frst pats k = e := fp_uniq pats (frst_fp pats k) h ((frst_pat pats k).trans hp.symm)
def rk (k : Nat) : Nat := cnt (fp pats) (frst pats k)
/-- rank -/
def F3 (k : Nat) : Value := .int .i64 (rk pats k)

theorem cnt_inj {f : Nat → Bool} {e e' : Nat} (h : f e = true) (h' : f e' = true) (hc : cnt f e = cnt f e') : e = e' := by
  by_cases a : e < e'
  · have := cnt_lt f a h; omega
  · by_cases b : e' < e
    · have := cnt_lt f b h'; omega
    · omega

/-- owned, when i adds were looked at. -/
def Own (w : World) (g D n i : Nat) : Prop := ∃ c, w.rowIs g 3 D c ∧ ∀ e, e < n → fp pats e = true → c (cnt (fp pats) e) = .int .i64 (cnt (isO pats ids (pats e)) i)

variable {pats ids js}
variable {w w' : World} {g n i D : Nat}

theorem Own.made (h : w.rowIs g 3 D (fun _ => .int .i64 0)) : Own pats ids w g D n 0 := ⟨_, h, fun e he hf => by rw [cnt_zero]; rfl⟩
theorem Own.on (h : Own pats ids w g D n i) (hg : w.grownBy w' none) : Own pats ids w' g D n i := by
  obtain ⟨c, h1, h2⟩ := h
  exact ⟨c, row_grown h1 hg, h2⟩
theorem Own.cell (h : Own pats ids w g (cnt (fp pats) n) n i) {e : Nat} (he : e < n) (hf : fp pats e = true) : w.cell? ⟨g, cnt (fp pats) e, none⟩ = some (.int .i64 (cnt (isO pats ids (pats e)) i)) := by
  obtain ⟨c, h1, h2⟩ := h
  rw [h1.cell (i := cnt (fp pats) e) (cnt_lt _ he hf), h2 e he hf]
theorem Own.frozen (h : Own pats ids w g D n i) (k : Nat) : w.frozen? ⟨g, k, none⟩ = false := by
  obtain ⟨c, h1, h2⟩ := h
  exact h1.frozen k
theorem Own.lt (h : Own pats ids w g D n i) : g < w.heap.size := by
  obtain ⟨c, h1, h2⟩ := h
  exact h1.lt
theorem Own.skip (h : Own pats ids w g D n i) (hq : fq pats ids i = false) : Own pats ids w g D n (i + 1) := by
  obtain ⟨c, h1, h2⟩ := h
  refine ⟨c, h1, fun e he hf => ?_⟩
  rw [h2 e he hf, cnt_succ]
  simp [isO, hq]
theorem Own.take (h : Own pats ids w g D n i) (hi : i < n) (hq : fq pats ids i = true) : Own pats ids (w.setCell ⟨g, rk pats i, none⟩ (.int .i64 ((cnt (isO pats ids (pats i)) i : Nat) + 1))) g D n (i + 1) := by
  obtain ⟨c, h1, h2⟩ := h
  refine ⟨_, h1.set _ _, fun e he hf => ?_⟩
  show (if cnt (fp pats) e = rk pats i then _ else c (cnt (fp pats) e)) = _
  rw [cnt_succ]
  by_cases x : pats e = pats i
  · have e1 := frst_of pats hf x
    rw [if_pos (by unfold rk; rw [e1])]
    have : isO pats ids (pats e) i = true := by simp [isO, hq, x]
    rw [this, x]
    simp
  · rw [if_neg ?_, h2 e he hf]
    · have hx : ¬ pats i = pats e := fun y => x y.symm
      have : isO pats ids (pats e) i = false := by simp [isO, hx]
      rw [this]
      simp
    · intro y
      unfold rk at y
      have := cnt_inj hf (frst_fp pats i) y
      exact x (by rw [this]; exact frst_pat pats i)

theorem fq_at {i : Nat} (h : fq pats ids i = true) : isO pats ids (pats i) i = true := by simp [isO, h]
end

theorem info4 : (Try.prog.info? 4).map (fun i => (i.zero, i.size, i.bytes)) = some (some (.bool false), 1, 1) := by kernel_rfl
theorem info3 : (Try.prog.info? 3).map (fun i => (i.zero, i.size, i.bytes)) = some (some (.int .i64 0), 1, 8) := by kernel_rfl

end Go.Proofs.Qxb6601898a.Pt
