import Derived.WalkKit
namespace Go.Proofs.Qxb6601898a.Pt

/-! ### What a script of Adds leaves: plain lists -/

abbrev Owners := List (Int × Bool)
abbrev St := List (ByteArray × Owners)

def addOwner : Owners → Int → Bool → Owners
  | [], id, b => [(id, b)]
  | (i, c) :: t, id, b => if i = id then (i, c && b) :: t else (i, c) :: addOwner t id b

def addPat : St → ByteArray → Int → Bool → St
  | [], p, id, b => [(p, [(id, b)])]
  | (q, os) :: t, p, id, b => if q = p then (q, addOwner os id b) :: t else (q, os) :: addPat t p id b

theorem addOwner_new {os : Owners} {id : Int} {b : Bool} (h : ∀ x ∈ os, x.1 ≠ id) : addOwner os id b = os ++ [(id, b)] := by
  induction os with
  | nil => rfl
  | cons x t ih =>
    obtain ⟨i, c⟩ := x
    have h1 : i ≠ id := h (i, c) (by simp)
    simp only [addOwner, if_neg h1, List.cons_append]
    rw [ih (fun x hx => h x (by simp [hx]))]

theorem addOwner_at {os : Owners} {id : Int} {b : Bool} {i : Nat} (hi : i < os.length) (hid : os[i].1 = id) (hlt : ∀ j, (hj : j < os.length) → j < i → os[j].1 ≠ id) : addOwner os id b = os.set i (id, os[i].2 && b) := by
  induction os generalizing i with
  | nil => simp at hi
  | cons x t ih =>
    obtain ⟨k, c⟩ := x
    cases i with
    | zero =>
      simp only [List.getElem_cons_zero] at hid
      subst hid
      simp [addOwner]
    | succ i =>
      have h1 : k ≠ id := hlt 0 (by simp) (by omega)
      simp only [List.getElem_cons_succ] at hid ⊢
      simp only [addOwner, if_neg h1, List.set_cons_succ]
      rw [ih (by simpa using hi) hid (fun j hj hl => by have := hlt (j + 1) (by simpa using hj) (by omega); simpa using this)]

theorem addOwner_map {os : Owners} {id : Int} {b : Bool} (h : ∃ x ∈ os, x.1 = id) (hn : os.Pairwise (fun x y => x.1 ≠ y.1)) : addOwner os id b = os.map (fun x => if x.1 = id then (x.1, x.2 && b) else x) := by
  induction os with
  | nil => obtain ⟨x, hx, _⟩ := h; simp at hx
  | cons x t ih =>
    obtain ⟨k, c⟩ := x
    rw [List.pairwise_cons] at hn
    by_cases e : k = id
    · subst e
      simp only [addOwner, if_true, List.map_cons]
      congr 1
      have : t.map (fun x => if x.1 = k then (x.1, x.2 && b) else x) = t.map id := by
        apply List.map_congr_left
        intro y hy
        have := hn.1 y hy
        simp only at this
        rw [if_neg (fun e => this e.symm)]; rfl
      rw [this, List.map_id]
    · simp only [addOwner, if_neg e, List.map_cons]
      rw [ih ?_ hn.2]
      obtain ⟨y, hy, hid⟩ := h
      rcases List.mem_cons.1 hy with rfl | hy
      · exact absurd hid e
      · exact ⟨y, hy, hid⟩

theorem addPat_new {S : St} {p : ByteArray} {id : Int} {b : Bool} (h : ∀ x ∈ S, x.1 ≠ p) : addPat S p id b = S ++ [(p, [(id, b)])] := by
  induction S with
  | nil => rfl
  | cons x t ih =>
    obtain ⟨q, os⟩ := x
    have h1 : q ≠ p := h (q, os) (by simp)
    simp only [addPat, if_neg h1, List.cons_append]
    rw [ih (fun x hx => h x (by simp [hx]))]

theorem addPat_at {S : St} {p : ByteArray} {id : Int} {b : Bool} {k : Nat} (hk : k < S.length) (hp : S[k].1 = p) (hlt : ∀ j, (hj : j < S.length) → j < k → S[j].1 ≠ p) : addPat S p id b = S.set k (p, addOwner S[k].2 id b) := by
  induction S generalizing k with
  | nil => simp at hk
  | cons x t ih =>
    obtain ⟨q, os⟩ := x
    cases k with
    | zero =>
      simp only [List.getElem_cons_zero] at hp
      subst hp
      simp [addPat]
    | succ k =>
      have h1 : q ≠ p := hlt 0 (by simp) (by omega)
      simp only [List.getElem_cons_succ] at hp ⊢
      simp only [addPat, if_neg h1, List.set_cons_succ]
      rw [ih (by simpa using hk) hp (fun j hj hl => by have := hlt (j + 1) (by simpa using hj) (by omega); simpa using this)]

theorem addPat_map {S : St} {p : ByteArray} {id : Int} {b : Bool} (h : ∃ x ∈ S, x.1 = p) (hn : S.Pairwise (fun x y => x.1 ≠ y.1)) : addPat S p id b = S.map (fun x => if x.1 = p then (x.1, addOwner x.2 id b) else x) := by
  induction S with
  | nil => obtain ⟨x, hx, _⟩ := h; simp at hx
  | cons x t ih =>
    obtain ⟨k, c⟩ := x
    rw [List.pairwise_cons] at hn
    by_cases e : k = p
    · subst e
      simp only [addPat, if_true, List.map_cons]
      congr 1
      have : t.map (fun x => if x.1 = k then (x.1, addOwner x.2 id b) else x) = t.map _root_.id := by
        apply List.map_congr_left
        intro y hy
        have := hn.1 y hy
        simp only at this
        rw [if_neg (fun e => this e.symm)]; rfl
      rw [this, List.map_id]
    · simp only [addPat, if_neg e, List.map_cons]
      rw [ih ?_ hn.2]
      obtain ⟨y, hy, hid⟩ := h
      rcases List.mem_cons.1 hy with rfl | hy
      · exact absurd hid e
      · exact ⟨y, hy, hid⟩

/-! ### Places in a filtered range -/

/-- How many below j meet f. -/
def cnt (f : Nat → Bool) (j : Nat) : Nat := ((List.range j).filter f).length

theorem cnt_zero (f : Nat → Bool) : cnt f 0 = 0 := rfl

theorem range_filter_succ (f : Nat → Bool) (j : Nat) : (List.range (j + 1)).filter f = (List.range j).filter f ++ (if f j then [j] else []) := by
  rw [List.range_succ, List.filter_append]
  by_cases h : f j <;> simp [h]

theorem cnt_succ (f : Nat → Bool) (j : Nat) : cnt f (j + 1) = cnt f j + (if f j then 1 else 0) := by
  unfold cnt
  rw [range_filter_succ]
  by_cases h : f j <;> simp [h]

theorem cnt_le (f : Nat → Bool) (j : Nat) : cnt f j ≤ j := by
  have := List.length_filter_le f (List.range j)
  simpa [cnt] using this

theorem range_filter_at (f : Nat → Bool) (j n : Nat) (hj : j < n) (hf : f j = true) : ((List.range n).filter f)[cnt f j]? = some j := by
  induction n with
  | zero => omega
  | succ n ih =>
    rw [range_filter_succ]
    by_cases h : j < n
    · have := ih h
      have hlt := (List.getElem?_eq_some_iff.1 this).1
      rw [List.getElem?_append_left hlt]
      exact this
    · have e : j = n := by omega
      subst e
      rw [List.getElem?_append_right (by unfold cnt; omega)]
      simp [cnt, hf]

theorem cnt_mono (f : Nat → Bool) {j n : Nat} (h : j ≤ n) : cnt f j ≤ cnt f n := by
  induction n with
  | zero => have : j = 0 := by omega
            subst this; exact Nat.le_refl _
  | succ n ih =>
    by_cases e : j = n + 1
    · subst e; exact Nat.le_refl _
    · have := ih (by omega)
      rw [cnt_succ]; omega

theorem cnt_lt (f : Nat → Bool) {j n : Nat} (h : j < n) (hf : f j = true) : cnt f j < cnt f n := by
  have := cnt_mono f (show j + 1 ≤ n by omega)
  rw [cnt_succ, if_pos hf] at this
  omega

end Go.Proofs.Qxb6601898a.Pt
