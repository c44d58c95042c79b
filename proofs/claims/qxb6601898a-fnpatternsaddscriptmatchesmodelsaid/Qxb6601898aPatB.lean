import Derived.Test.Qxb6601898aPatA
namespace Go.Proofs.Qxb6601898a.Pt

/-! ### The script: what the Adds leave, by whole-script scans -/

section
variable (pats : Nat → ByteArray) (ids : Nat → Int) (js : Nat → Bool)

/-- No earlier add of that pattern. -/
def fp (j : Nat) : Bool := decide (∀ e, e < j → pats e ≠ pats j)
/-- No earlier add of that pattern by that id. -/
def fq (j : Nat) : Bool := decide (∀ e, e < j → ¬ (pats e = pats j ∧ ids e = ids j))
/-- Every add of that pattern by that id said jsonOnly. -/
def wnt (n j : Nat) : Bool := decide (∀ e, e < n → pats e = pats j → ids e = ids j → js e = true)
/-- The first adds, each id once, of pattern p. -/
def isO (p : ByteArray) (e : Nat) : Bool := fq pats ids e && decide (pats e = p)
def own (n : Nat) (p : ByteArray) : Owners := ((List.range n).filter (isO pats ids p)).map (fun e => (ids e, wnt pats ids js n e))
def lst (n : Nat) : St := ((List.range n).filter (fp pats)).map (fun e => (pats e, own pats ids js n (pats e)))
/-- The Adds, one after another. -/
def run : Nat → St
  | 0 => []
  | n + 1 => addPat (run n) (pats n) (ids n) (js n)

theorem fp_iff (j : Nat) : fp pats j = true ↔ ∀ e, e < j → pats e ≠ pats j := by simp [fp]
theorem fq_iff (j : Nat) : fq pats ids j = true ↔ ∀ e, e < j → ¬ (pats e = pats j ∧ ids e = ids j) := by unfold fq; rw [decide_eq_true_eq]
theorem wnt_iff (n j : Nat) : wnt pats ids js n j = true ↔ ∀ e, e < n → pats e = pats j → ids e = ids j → js e = true := by unfold wnt; rw [decide_eq_true_eq]

theorem fp_uniq {e e' : Nat} (h : fp pats e = true) (h' : fp pats e' = true) (hp : pats e = pats e') : e = e' := by
  rw [fp_iff] at h h'
  by_cases a : e < e'
  · exact absurd hp (h' e a)
  · by_cases b : e' < e
    · exact absurd hp.symm (h e' b)
    · omega

/-- The first add of a pattern. -/
theorem fp_first (j : Nat) : ∃ e, e ≤ j ∧ fp pats e = true ∧ pats e = pats j := by
  induction j using Nat.strongRecOn with
  | ind j ih =>
    by_cases h : fp pats j = true
    · exact ⟨j, Nat.le_refl _, h, rfl⟩
    · have : ∃ e, e < j ∧ pats e = pats j := by
        rw [fp_iff] at h
        simpa using h
      obtain ⟨e, he, hp⟩ := this
      obtain ⟨e', h1, h2, h3⟩ := ih e he
      exact ⟨e', by omega, h2, h3.trans hp⟩

theorem fq_first (j : Nat) : ∃ e, e ≤ j ∧ fq pats ids e = true ∧ pats e = pats j ∧ ids e = ids j := by
  induction j using Nat.strongRecOn with
  | ind j ih =>
    by_cases h : fq pats ids j = true
    · exact ⟨j, Nat.le_refl _, h, rfl, rfl⟩
    · have : ∃ e, e < j ∧ pats e = pats j ∧ ids e = ids j := by
        rw [fq_iff] at h
        simp only [Classical.not_forall, Classical.not_not] at h
        obtain ⟨e, he, hp⟩ := h
        exact ⟨e, he, hp⟩
      obtain ⟨e, he, hp, hi⟩ := this
      obtain ⟨e', h1, h2, h3, h4⟩ := ih e he
      exact ⟨e', by omega, h2, h3.trans hp, h4.trans hi⟩

theorem wnt_succ (n j : Nat) : wnt pats ids js (n + 1) j = (wnt pats ids js n j && (if pats n = pats j ∧ ids n = ids j then js n else true)) := by
  rw [Bool.eq_iff_iff, Bool.and_eq_true, wnt_iff, wnt_iff]
  constructor
  · intro h
    refine ⟨fun e he => h e (by omega), ?_⟩
    split
    · rename_i hc; exact h n (by omega) hc.1 hc.2
    · rfl
  · intro ⟨h1, h2⟩ e he hp hi
    by_cases e' : e = n
    · subst e'
      rw [if_pos ⟨hp, hi⟩] at h2
      exact h2
    · exact h1 e (by omega) hp hi

theorem range_mem {f : Nat → Bool} {n e : Nat} (h : e ∈ (List.range n).filter f) : e < n ∧ f e = true := by
  simpa using h

theorem pairwise_range (n : Nat) : (List.range n).Pairwise (· < ·) := List.pairwise_lt_range

theorem own_pairwise (n : Nat) (p : ByteArray) : (own pats ids js n p).Pairwise (fun x y => x.1 ≠ y.1) := by
  unfold own
  rw [List.pairwise_map]
  have h : ((List.range n).filter (isO pats ids p)).Pairwise (· < ·) := (pairwise_range n).filter _
  refine List.Pairwise.imp_of_mem ?_ h
  intro a b ha hb hlt
  have h1 := (range_mem ha).2
  have h2 := (range_mem hb).2
  simp only [isO, Bool.and_eq_true, decide_eq_true_eq] at h1 h2
  have h3 := (fq_iff pats ids b).1 h2.1 a hlt
  intro e
  exact h3 ⟨h1.2.trans h2.2.symm, e⟩

theorem lst_pairwise (n : Nat) : (lst pats ids js n).Pairwise (fun x y => x.1 ≠ y.1) := by
  unfold lst
  rw [List.pairwise_map]
  have h : ((List.range n).filter (fp pats)).Pairwise (· < ·) := (pairwise_range n).filter _
  refine List.Pairwise.imp_of_mem ?_ h
  intro a b ha hb hlt
  exact (fp_iff pats b).1 (range_mem hb).2 a hlt

/-- One add more: another pattern's owners stay. -/
theorem own_other (n : Nat) (p : ByteArray) (h : pats n ≠ p) : own pats ids js (n + 1) p = own pats ids js n p := by
  unfold own
  rw [range_filter_succ]
  have : isO pats ids p n = false := by simp [isO, h]
  rw [this]
  simp only [Bool.false_eq_true, if_false, List.append_nil]
  apply List.map_congr_left
  intro e he
  have h1 := (range_mem he).2
  simp only [isO, Bool.and_eq_true, decide_eq_true_eq] at h1
  rw [wnt_succ, if_neg (fun hc => h (hc.1.trans h1.2)), Bool.and_true]

theorem own_same (n : Nat) : own pats ids js (n + 1) (pats n) = addOwner (own pats ids js n (pats n)) (ids n) (js n) := by
  by_cases hq : fq pats ids n = true
  · rw [addOwner_new]
    · unfold own
      rw [range_filter_succ]
      have : isO pats ids (pats n) n = true := by simp [isO, hq]
      rw [this]
      simp only [if_true, List.map_append, List.map_cons, List.map_nil]
      congr 1
      · apply List.map_congr_left
        intro e he
        have h1 := range_mem he
        have h2 := h1.2
        simp only [isO, Bool.and_eq_true, decide_eq_true_eq] at h2
        have h3 := (fq_iff pats ids n).1 hq e h1.1
        rw [wnt_succ, if_neg (fun hc => h3 ⟨h2.2, hc.2.symm⟩), Bool.and_true]
      · congr 1
        congr 1
        rw [wnt_succ, if_pos ⟨rfl, rfl⟩]
        have : wnt pats ids js n n = true := by
          rw [wnt_iff]
          intro e he hp hi
          exact absurd ⟨hp, hi⟩ ((fq_iff pats ids n).1 hq e he)
        rw [this, Bool.true_and]
    · intro x hx
      unfold own at hx
      obtain ⟨e, he, rfl⟩ := List.mem_map.1 hx
      have h1 := range_mem he
      have h2 := h1.2
      simp only [isO, Bool.and_eq_true, decide_eq_true_eq] at h2
      intro hi
      exact (fq_iff pats ids n).1 hq e h1.1 ⟨h2.2, hi⟩
  · obtain ⟨e0, g1, g2, g3, g4⟩ := fq_first pats ids n
    have hne : e0 < n := by
      by_cases e : e0 = n
      · subst e; exact absurd g2 hq
      · omega
    rw [addOwner_map ?_ (own_pairwise pats ids js n _)]
    · unfold own
      rw [range_filter_succ]
      have : isO pats ids (pats n) n = false := by simp [isO, hq]
      rw [this]
      simp only [Bool.false_eq_true, if_false, List.append_nil, List.map_map]
      apply List.map_congr_left
      intro e he
      have h1 := range_mem he
      have h2 := h1.2
      simp only [isO, Bool.and_eq_true, decide_eq_true_eq] at h2
      simp only [Function.comp]
      rw [wnt_succ]
      by_cases hi : ids e = ids n
      · rw [if_pos hi, if_pos ⟨h2.2.symm, hi.symm⟩]
      · rw [if_neg hi, if_neg (fun hc => hi hc.2.symm), Bool.and_true]
    · refine ⟨(ids e0, wnt pats ids js n e0), ?_, g4⟩
      unfold own
      exact List.mem_map.2 ⟨e0, by simp [isO, hne, g2, g3], rfl⟩

theorem lst_succ (n : Nat) : addPat (lst pats ids js n) (pats n) (ids n) (js n) = lst pats ids js (n + 1) := by
  by_cases h : fp pats n = true
  · rw [addPat_new]
    · unfold lst
      rw [range_filter_succ, if_pos h, List.map_append]
      congr 1
      · apply List.map_congr_left
        intro e he
        have h1 := range_mem he
        rw [own_other pats ids js n (pats e) (fun e' => (fp_iff pats n).1 h e h1.1 e'.symm)]
      · simp only [List.map_cons, List.map_nil]
        rw [own_same]
        have : own pats ids js n (pats n) = [] := by
          unfold own
          rw [List.map_eq_nil_iff, List.filter_eq_nil_iff]
          intro e he
          have : e < n := by simpa using he
          simp [isO, (fp_iff pats n).1 h e this]
        rw [this]; rfl
    · intro x hx
      unfold lst at hx
      obtain ⟨e, he, rfl⟩ := List.mem_map.1 hx
      exact (fp_iff pats n).1 h e (range_mem he).1
  · obtain ⟨e0, g1, g2, g3⟩ := fp_first pats n
    have hne : e0 < n := by
      by_cases e : e0 = n
      · subst e; exact absurd g2 h
      · omega
    rw [addPat_map ?_ (lst_pairwise pats ids js n)]
    · unfold lst
      rw [range_filter_succ, if_neg h, List.append_nil, List.map_map]
      apply List.map_congr_left
      intro e he
      simp only [Function.comp]
      by_cases hp : pats e = pats n
      · rw [if_pos hp, hp, own_same]
      · rw [if_neg hp, own_other pats ids js n (pats e) (fun e' => hp e'.symm)]
    · exact ⟨(pats e0, own pats ids js n (pats e0)), List.mem_map.2 ⟨e0, by simp [hne, g2], rfl⟩, g3⟩

theorem run_eq (n : Nat) : run pats ids js n = lst pats ids js n := by
  induction n with
  | zero => rfl
  | succ n ih => rw [run, ih, lst_succ]

/-! ### What the check reads off it -/

theorem run_length (n : Nat) : (run pats ids js n).length = cnt (fp pats) n := by
  rw [run_eq]; simp [lst, cnt]

/-- At the place of a first add: its pattern and its owners. -/
theorem run_at {n j : Nat} (hj : j < n) (hf : fp pats j = true) : (run pats ids js n)[cnt (fp pats) j]? = some (pats j, own pats ids js n (pats j)) := by
  rw [run_eq]
  unfold lst
  rw [List.getElem?_map, range_filter_at _ j n hj hf]
  rfl

theorem own_length (n : Nat) (p : ByteArray) : (own pats ids js n p).length = cnt (isO pats ids p) n := by simp [own, cnt]

theorem own_at {n j : Nat} {p : ByteArray} (hj : j < n) (hf : isO pats ids p j = true) : (own pats ids js n p)[cnt (isO pats ids p) j]? = some (ids j, wnt pats ids js n j) := by
  unfold own
  rw [List.getElem?_map, range_filter_at _ j n hj hf]
  rfl

/-- Every place of the state is that of a first add. -/
theorem run_place {n k : Nat} (hk : k < (run pats ids js n).length) : ∃ j, j < n ∧ fp pats j = true ∧ k = cnt (fp pats) j := by
  rw [run_length] at hk
  induction n with
  | zero => rw [cnt_zero] at hk; omega
  | succ n ih =>
    rw [cnt_succ] at hk
    by_cases h : k < cnt (fp pats) n
    · obtain ⟨j, h1, h2, h3⟩ := ih h
      exact ⟨j, by omega, h2, h3⟩
    · by_cases hf : fp pats n = true
      · rw [if_pos hf] at hk
        exact ⟨n, by omega, hf, by omega⟩
      · rw [if_neg hf] at hk
        omega

end

end Go.Proofs.Qxb6601898a.Pt
