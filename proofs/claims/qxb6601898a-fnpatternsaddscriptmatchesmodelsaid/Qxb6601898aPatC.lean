import Derived.Test.Qxb6601898aPatB
import Derived.Test.Qxb6601898aRows
import Derived.ProofKit
import Derived.OpenShut
import Derived.ShutString
import Derived.ChangeOld
import Derived.Below
import Derived.WalkSpells
import Derived.WalkLawsBesides
import Derived.Deep.QuietTactic
import Derived.BigQuiet
import Derived.Deep.OwnRows
import Derived.Maps.OwnSet
import Derived.Deep.AppendLies
namespace Go.Proofs.Qxb6601898a.Pt
open Go.ChangeShapes Go.WideShapes Go.ChangeAt Go.RowKit Go.Maps
set_option linter.unusedVariables false

theorem hide {p : Prop} (h : p) : Hid p := h

/-! ### The memory of a Patterns -/

/-- A nil slice. -/
def nilS : Value := .slice none 0 0
/-- The cells of a list of owners. -/
def oc (os : Owners) : List Value := os.flatMap (fun x => [.int .i64 x.1, .bool x.2])

theorem oc_len (os : Owners) : (oc os).length = os.length * 2 := by
  induction os with
  | nil => rfl
  | cons x t ih => simp only [oc, List.flatMap_cons, List.length_append, List.length_cons, List.length_nil] at ih ⊢; omega

theorem oc_append (a b : Owners) : oc (a ++ b) = oc a ++ oc b := by simp [oc]

theorem oc_id {os : Owners} {i : Nat} (h : i < os.length) : (oc os)[2 * i]? = some (.int .i64 os[i].1) := by
  induction os generalizing i with
  | nil => simp at h
  | cons x t ih =>
    cases i with
    | zero => simp [oc]
    | succ i =>
      have := ih (i := i) (by simpa using h)
      simp only [oc, List.flatMap_cons] at this ⊢
      rw [show 2 * (i + 1) = 2 * i + 1 + 1 by omega]
      simpa using this

theorem oc_js {os : Owners} {i : Nat} (h : i < os.length) : (oc os)[2 * i + 1]? = some (.bool os[i].2) := by
  induction os generalizing i with
  | nil => simp at h
  | cons x t ih =>
    cases i with
    | zero => simp [oc]
    | succ i =>
      have := ih (i := i) (by simpa using h)
      simp only [oc, List.flatMap_cons] at this ⊢
      rw [show 2 * (i + 1) + 1 = 2 * i + 1 + 1 + 1 by omega]
      simpa using this

theorem oc_set {os : Owners} {i : Nat} (h : i < os.length) (b : Bool) : (oc os).set (2 * i + 1) (.bool b) = oc (os.set i (os[i].1, b)) := by
  induction os generalizing i with
  | nil => simp at h
  | cons x t ih =>
    cases i with
    | zero => simp [oc]
    | succ i =>
      have := ih (i := i) (by simpa using h)
      simp only [oc, List.flatMap_cons, List.set_cons_succ, List.getElem_cons_succ] at this ⊢
      rw [show 2 * (i + 1) + 1 = 2 * i + 1 + 1 + 1 by omega]
      simpa using this

/-- The struct, its list, its owners: but for the map. -/
structure Core (w : World) (base Pb : Nat) (lv ov : Value) (mb : Option Nat) (Ls vs : List Value) (Os : List Owners) : Prop where
  pb : Pb < base
  sz : base ≤ w.heap.size
  st : w.rowIs Pb 38 3 (fun i => [lv, ov, .map mb].getD i undef)
  list : w.ownsRow base 9 1 lv Ls.length Ls
  own : w.ownsRow base 53 1 ov vs.length vs
  len : vs.length = Os.length
  each : ∀ k, (h : k < Os.length) → w.ownsRow base 55 2 (vs.getD k nilS) Os[k].length (oc Os[k])
  apart : ∀ i j k, i < vs.length → j < vs.length → i ≠ j → (vs.getD i nilS).ownBlock = some k → (vs.getD j nilS).ownBlock ≠ some k

/-- Where a value's row lies. -/
theorem own_block {w : World} {base : Nat} {e : TypeId} {size : Nat} {v : Value} {n : Nat} {xs : List Value} (h : w.ownsRow base e size v n xs) {k : Nat} (hk : v.ownBlock = some k) : base ≤ k ∧ k < w.heap.size ∧ ∃ cur, w.heap[k]? = some (.cells cur e (0, 0)) := by
  rcases h.2 with ⟨rfl, _⟩ | ⟨g, cap, cur, rfl, hb, hg, _⟩
  · simp [Value.ownBlock] at hk
  · simp [Value.ownBlock] at hk
    subst hk
    exact ⟨hb, (Array.getElem?_eq_some_iff.1 hg).1, cur, hg⟩

/-- Rows of two element types are two rows. -/
theorem own_types {w : World} {base base' : Nat} {e e' : TypeId} {size size' : Nat} {v v' : Value} {n n' : Nat} {xs xs' : List Value} (h : w.ownsRow base e size v n xs) (h' : w.ownsRow base' e' size' v' n' xs') (hne : e ≠ e') : v.ownBlock = none ∨ v.ownBlock ≠ v'.ownBlock := by
  cases hv : v.ownBlock with
  | none => exact .inl rfl
  | some k =>
    right
    intro e2
    obtain ⟨_, _, cur, hc⟩ := own_block h hv
    obtain ⟨_, _, cur', hc'⟩ := own_block h' e2.symm
    rw [hc] at hc'
    simp only [Option.some.injEq, Obj.cells.injEq] at hc'
    exact hne hc'.2.1

/-- A block that is no row of the Patterns: the map, or a new one. -/
def Off (w : World) (row : Option Nat) : Prop := ∀ k, row = some k → (∃ es clk, w.heap[k]? = some (.map es clk)) ∨ w.heap.size ≤ k

theorem own_off {w w' : World} {base : Nat} {e : TypeId} {size : Nat} {v : Value} {n : Nat} {xs : List Value} {row : Option Nat} (h : w.ownsRow base e size v n xs) (hg : w.grownBy w' row) (ho : Off w row) : w'.ownsRow base e size v n xs := by
  refine h.kept hg ?_
  cases hv : v.ownBlock with
  | none => exact .inl rfl
  | some k =>
    right
    intro e2
    obtain ⟨_, hlt, cur, hc⟩ := own_block h hv
    rcases ho k e2.symm with ⟨es, clk, hm⟩ | hge
    · rw [hc] at hm; cases hm
    · omega

theorem row_off {w w' : World} {g n : Nat} {t : TypeId} {f : Nat → Value} {row : Option Nat} (h : w.rowIs g t n f) (hg : w.grownBy w' row) (ho : Off w row) : w'.rowIs g t n f := by
  have hlt := h.lt
  obtain ⟨c, hc, hr⟩ := h
  refine ⟨c, ?_, hr⟩
  rw [hg.block g hlt ?_]
  · exact hc
  · intro e2
    rcases ho g e2.symm with ⟨es, clk, hm⟩ | hge
    · rw [hc] at hm; cases hm
    · omega

theorem off_none (w : World) : Off w none := fun k h => by cases h

/-- A step beside it. -/
theorem Core.beside {w w' : World} {base Pb : Nat} {lv ov : Value} {mb : Option Nat} {Ls vs : List Value} {Os : List Owners} {row : Option Nat} (h : Core w base Pb lv ov mb Ls vs Os) (hg : w.grownBy w' row) (ho : Off w row) : Core w' base Pb lv ov mb Ls vs Os :=
  ⟨h.pb, Nat.le_trans h.sz hg.size, row_off h.st hg ho, own_off h.list hg ho, own_off h.own hg ho, h.len, fun k hk => own_off (h.each k hk) hg ho, h.apart⟩

/-- A row kept while one of another type is written. -/
theorem own_but {w w' : World} {base base' : Nat} {e e' : TypeId} {size size' : Nat} {v v' : Value} {n n' : Nat} {xs xs' : List Value} (h : w.ownsRow base e size v n xs) (h' : w.ownsRow base' e' size' v' n' xs') (hne : e ≠ e') (hg : w.grownBy w' v'.ownBlock) : w'.ownsRow base e size v n xs := h.kept hg (own_types h h' hne)

theorem row_but {w w' : World} {g n base' : Nat} {t : TypeId} {f : Nat → Value} {e' : TypeId} {size' : Nat} {v' : Value} {n' : Nat} {xs' : List Value} (h : w.rowIs g t n f) (h' : w.ownsRow base' e' size' v' n' xs') (hb : g < base') (hg : w.grownBy w' v'.ownBlock) : w'.rowIs g t n f := by
  have hlt := h.lt
  obtain ⟨c, hc, hr⟩ := h
  refine ⟨c, ?_, hr⟩
  rw [hg.block g hlt ?_]
  · exact hc
  · intro e2
    have := (own_block h' e2.symm).1
    omega

/-- The struct's field i is written. -/
theorem st_set {w : World} {Pb : Nat} {lv ov : Value} {mb : Option Nat} (h : w.rowIs Pb 38 3 (fun i => [lv, ov, .map mb].getD i undef)) (lv' : Value) : (w.setCell ⟨Pb, 0, none⟩ lv').rowIs Pb 38 3 (fun i => [lv', ov, .map mb].getD i undef) := by
  refine (h.set 0 lv').congr (fun j hj => ?_)
  match j, hj with
  | 0, _ => rfl
  | 1, _ => rfl
  | 2, _ => rfl

theorem st_set1 {w : World} {Pb : Nat} {lv ov : Value} {mb : Option Nat} (h : w.rowIs Pb 38 3 (fun i => [lv, ov, .map mb].getD i undef)) (ov' : Value) : (w.setCell ⟨Pb, 1, none⟩ ov').rowIs Pb 38 3 (fun i => [lv, ov', .map mb].getD i undef) := by
  refine (h.set 1 ov').congr (fun j hj => ?_)
  match j, hj with
  | 0, _ => rfl
  | 1, _ => rfl
  | 2, _ => rfl

theorem st_set2 {w : World} {Pb : Nat} {lv ov : Value} {mb mb' : Option Nat} (h : w.rowIs Pb 38 3 (fun i => [lv, ov, .map mb].getD i undef)) : (w.setCell ⟨Pb, 2, none⟩ (.map mb')).rowIs Pb 38 3 (fun i => [lv, ov, .map mb'].getD i undef) := by
  refine (h.set 2 (.map mb')).congr (fun j hj => ?_)
  match j, hj with
  | 0, _ => rfl
  | 1, _ => rfl
  | 2, _ => rfl

theorem size_set (w : World) (a : Addr) (v : Value) : (w.setCell a v).heap.size = w.heap.size := by simp [World.setCell]

/-- 'p.ids = map..'. -/
theorem Core.setMap {w : World} {base Pb : Nat} {lv ov : Value} {mb mb' : Option Nat} {Ls vs : List Value} {Os : List Owners} (h : Core w base Pb lv ov mb Ls vs Os) : Core (w.setCell ⟨Pb, 2, none⟩ (.map mb')) base Pb lv ov mb' Ls vs Os :=
  ⟨h.pb, by rw [size_set]; exact h.sz, st_set2 h.st, ownsRow_setCell_below h.list h.pb _, ownsRow_setCell_below h.own h.pb _, h.len, fun k hk => ownsRow_setCell_below (h.each k hk) h.pb _, h.apart⟩

/-- 'p.list = append(p.list, x)'. -/
theorem Core.pushList {w w2 : World} {base Pb : Nat} {lv lv' ov : Value} {mb : Option Nat} {Ls vs : List Value} {Os : List Owners} {x : Value} (h : Core w base Pb lv ov mb Ls vs Os)
    (hown : w2.ownsRow base 9 1 lv' (Ls.length + 1) (Ls ++ [x])) (hg : w.grownBy w2 lv.ownBlock) : Core (w2.setCell ⟨Pb, 0, none⟩ lv') base Pb lv' ov mb (Ls ++ [x]) vs Os := by
  refine ⟨h.pb, by rw [size_set]; exact Nat.le_trans h.sz hg.size, st_set (row_but h.st h.list h.pb hg) lv', ?_, ownsRow_setCell_below (own_but h.own h.list (by decide) hg) h.pb _, h.len, fun k hk => ownsRow_setCell_below (own_but (h.each k hk) h.list (by decide) hg) h.pb _, h.apart⟩
  rw [List.length_append, List.length_singleton]
  exact ownsRow_setCell_below hown h.pb _

theorem nil_own (w : World) (base : Nat) (e : TypeId) (size : Nat) : w.ownsRow base e size nilS 0 [] := World.ownsRow_nil w base e size

/-- 'p.owners = append(p.owners, nil)'. -/
theorem Core.pushOwn {w w2 : World} {base Pb : Nat} {lv ov ov' : Value} {mb : Option Nat} {Ls vs : List Value} {Os : List Owners} (h : Core w base Pb lv ov mb Ls vs Os)
    (hown : w2.ownsRow base 53 1 ov' (vs.length + 1) (vs ++ [nilS])) (hg : w.grownBy w2 ov.ownBlock) : Core (w2.setCell ⟨Pb, 1, none⟩ ov') base Pb lv ov' mb Ls (vs ++ [nilS]) (Os ++ [[]]) := by
  refine ⟨h.pb, by rw [size_set]; exact Nat.le_trans h.sz hg.size, st_set1 (row_but h.st h.own h.pb hg) ov', ownsRow_setCell_below (own_but h.list h.own (by decide) hg) h.pb _, ?_, by simp [h.len], fun k hk => ?_, fun i j k hi hj hne hk => ?_⟩
  · rw [List.length_append, List.length_singleton]
    exact ownsRow_setCell_below hown h.pb _
  · by_cases e : k < Os.length
    · have e1 : (vs ++ [nilS]).getD k nilS = vs.getD k nilS := by
        simp only [List.getD_eq_getElem?_getD]; rw [List.getElem?_append_left (by rw [h.len]; exact e)]
      have e2 : (Os ++ [[]])[k] = Os[k] := List.getElem_append_left e
      rw [e1, e2]
      exact ownsRow_setCell_below (own_but (h.each k e) h.own (by decide) hg) h.pb _
    · have ek : k = Os.length := by simp at hk; omega
      have e1 : (vs ++ [nilS]).getD k nilS = nilS := by rw [ek, ← h.len]; simp
      have e2 : (Os ++ [[]])[k] = [] := by simp [ek]
      rw [e1, e2]
      exact nil_own _ _ _ _
  · have hv : ∀ m, (vs ++ [nilS]).getD m nilS = vs.getD m nilS := by
      intro m
      by_cases e : m < vs.length
      · simp only [List.getD_eq_getElem?_getD]; rw [List.getElem?_append_left e]
      · by_cases e' : m = vs.length
        · subst e'; simp
        · simp only [List.getD_eq_getElem?_getD]
          rw [List.getElem?_eq_none (by simp; omega), List.getElem?_eq_none (by omega)]
    rw [hv] at hk ⊢
    have hin : ∀ m, (vs.getD m nilS).ownBlock = some k → m < vs.length := by
      intro m hm
      by_cases e : m < vs.length
      · exact e
      · simp only [List.getD_eq_getElem?_getD] at hm
        rw [List.getElem?_eq_none (by omega)] at hm
        simp [nilS, Value.ownBlock] at hm
    intro e
    exact h.apart i j k (hin i hk) (hin j e) hne hk e

theorem grown_set (w : World) (a : Addr) (u : Value) : w.grownBy (w.setCell a u) (some a.block) :=
  ⟨rfl, rfl, rfl, by rw [size_set]; exact Nat.le_refl _, fun k _ hk => Below.heap_setCell _ _ _ _ (fun e => hk (by rw [e]))⟩

/-- A row kept while a cell of another block is written. -/
theorem own_setOther {w : World} {base : Nat} {e : TypeId} {size : Nat} {v : Value} {n : Nat} {xs : List Value} (h : w.ownsRow base e size v n xs) {a : Addr} (ha : v.ownBlock ≠ some a.block) (u : Value) : (w.setCell a u).ownsRow base e size v n xs := h.kept (grown_set w a u) (.inr ha)

theorem own_ne {w : World} {base base' : Nat} {e e' : TypeId} {size size' : Nat} {v v' : Value} {n n' : Nat} {xs xs' : List Value} (h : w.ownsRow base e size v n xs) (h' : w.ownsRow base' e' size' v' n' xs') (hne : e ≠ e') {k : Nat} (hk : v'.ownBlock = some k) : v.ownBlock ≠ some k := by
  rcases own_types h h' hne with e1 | e1
  · rw [e1]; simp
  · rw [← hk]; exact e1

theorem getD_set {vs : List Value} {k j : Nat} {v' : Value} (hk : k < vs.length) : (vs.set k v').getD j nilS = if j = k then v' else vs.getD j nilS := by
  simp only [List.getD_eq_getElem?_getD]
  by_cases e : j = k
  · subst e
    rw [if_pos rfl, List.getElem?_set_self (by omega)]; rfl
  · rw [if_neg e, List.getElem?_set_ne (fun h => e h.symm)]

/-- 'p.owners[k] = append(p.owners[k], owner{id, b})'. -/
theorem Core.pushOwner {w w2 : World} {base Pb : Nat} {lv ov v' : Value} {mb : Option Nat} {Ls vs : List Value} {Os : List Owners} {k g cap go co : Nat} {id : Int} {b : Bool} (h : Core w base Pb lv ov mb Ls vs Os) (hk : k < Os.length)
    (hv' : v' = .slice (some ⟨g, 0, none⟩) (Os[k].length + 1) cap) (hown : w2.ownsRow base 55 2 v' (Os[k].length + 1) (oc Os[k] ++ [.int .i64 id, .bool b])) (hg : w.grownBy w2 (vs.getD k nilS).ownBlock)
    (hat : (vs.getD k nilS).ownBlock = some g ∨ w.heap.size ≤ g) (hov : ov = .slice (some ⟨go, 0, none⟩) vs.length co) :
    Core (w2.setCell ⟨go, k, none⟩ v') base Pb lv ov mb Ls (vs.set k v') (Os.set k (Os[k] ++ [(id, b)])) := by
  have hkv : k < vs.length := by rw [h.len]; exact hk
  have hobk : ov.ownBlock = some go := by rw [hov]; rfl
  have hvbk : v'.ownBlock = some g := by rw [hv']; rfl
  have own2 := own_but h.own (h.each k hk) (by decide) hg
  have list2 := own_but h.list (h.each k hk) (by decide) hg
  have hgo := own_block h.own hobk
  refine ⟨h.pb, by rw [size_set]; exact Nat.le_trans h.sz hg.size, (row_but h.st (h.each k hk) h.pb hg).setOther (by have := h.pb; show Pb ≠ go; omega) _, own_setOther list2 (own_ne list2 own2 (by decide) hobk) _, ?_, by simp [h.len], fun j hj => ?_, fun i j m hi hj hne hm => ?_⟩
  · rw [List.length_set]
    rw [hov] at own2 ⊢
    exact (own2.stored k v').1
  · have hj' : j < Os.length := by simpa using hj
    rw [getD_set hkv]
    by_cases e : j = k
    · subst e
      rw [if_pos rfl]
      have e2 : (Os.set j (Os[j] ++ [(id, b)]))[j] = Os[j] ++ [(id, b)] := by simp
      rw [e2, oc_append, List.length_append, List.length_singleton]
      refine own_setOther ?_ (own_ne hown own2 (by decide) hobk) _
      exact hown
    · rw [if_neg e]
      have e2 : (Os.set k (Os[k] ++ [(id, b)]))[j] = Os[j] := by rw [List.getElem_set_ne (fun h => e h.symm)]
      rw [e2]
      have h1 : w2.ownsRow base 55 2 (vs.getD j nilS) Os[j].length (oc Os[j]) := by
        refine (h.each j hj').kept hg ?_
        cases hb : (vs.getD j nilS).ownBlock with
        | none => exact .inl rfl
        | some m => exact .inr (fun e3 => h.apart j k m (by rw [h.len]; exact hj') hkv e hb e3.symm)
      exact own_setOther h1 (own_ne h1 own2 (by decide) hobk) _
  · rw [List.length_set] at hi hj
    rw [getD_set hkv] at hm ⊢
    have old : ∀ j, j < vs.length → j ≠ k → (vs.getD j nilS).ownBlock ≠ some g := by
      intro j hj hne e
      rcases hat with e2 | e2
      · exact h.apart k j g hkv hj (fun x => hne x.symm) e2 e
      · have := (own_block (h.each j (by rw [← h.len]; exact hj)) e).2.1
        omega
    by_cases ei : i = k
    · subst ei
      rw [if_pos rfl, hvbk] at hm
      rw [if_neg (fun x => hne x.symm)]
      cases hm
      exact old j hj (fun x => hne x.symm)
    · rw [if_neg ei] at hm
      by_cases ej : j = k
      · subst ej
        rw [if_pos rfl, hvbk]
        intro e
        cases e
        exact old i hi ei hm
      · rw [if_neg ej]
        exact h.apart i j m hi hj hne hm

/-- 'p.owners[k][i].jsonOnly = b'. -/
theorem Core.setJs {w : World} {base Pb : Nat} {lv ov : Value} {mb : Option Nat} {Ls vs : List Value} {Os : List Owners} {k i g cap : Nat} {b : Bool} (h : Core w base Pb lv ov mb Ls vs Os) (hk : k < Os.length) (hi : i < Os[k].length)
    (hv : vs.getD k nilS = .slice (some ⟨g, 0, none⟩) Os[k].length cap) :
    Core (w.setCell ⟨g, 2 * i + 1, none⟩ (.bool b)) base Pb lv ov mb Ls vs (Os.set k (Os[k].set i (Os[k][i].1, b))) := by
  have hkv : k < vs.length := by rw [h.len]; exact hk
  have hbk : (vs.getD k nilS).ownBlock = some g := by rw [hv]; rfl
  have hgb := own_block (h.each k hk) hbk
  refine ⟨h.pb, by rw [size_set]; exact h.sz, h.st.setOther (by have := h.pb; show Pb ≠ g; omega) _, own_setOther h.list (own_ne h.list (h.each k hk) (by decide) hbk) _, own_setOther h.own (own_ne h.own (h.each k hk) (by decide) hbk) _, by simp [h.len], fun j hj => ?_, h.apart⟩
  have hj' : j < Os.length := by simpa using hj
  by_cases e : j = k
  · subst e
    have e2 : (Os.set j (Os[j].set i (Os[j][i].1, b)))[j] = Os[j].set i (Os[j][i].1, b) := by simp
    rw [e2, List.length_set, ← oc_set hi]
    have h1 := h.each j hk
    rw [hv] at h1 ⊢
    exact (h1.stored (2 * i + 1) (.bool b)).1
  · have e2 : (Os.set k (Os[k].set i (Os[k][i].1, b)))[j] = Os[j] := by rw [List.getElem_set_ne (fun h => e h.symm)]
    rw [e2]
    refine own_setOther (h.each j hj') ?_ _
    intro e3
    exact h.apart k j g hkv (by rw [h.len]; exact hj') (fun x => e x.symm) hbk e3

/-! ### The map -/

/-- What a pattern reads as, as a key. -/
def keyL (p : ByteArray) : Lit := .string p.data.toList

theorem keyL_inj {p q : ByteArray} (h : keyL p = keyL q) : p = q := by
  unfold keyL at h
  injection h with h
  exact bytes_inj h

/-- The map in block b sends each pattern of 'ps' to its place. -/
def MapOK (w : World) (b : Nat) (ps : List ByteArray) : Prop :=
  ∃ D : DataW Unit, w.ownsMap Try.prog 9 (plainElem Try.prog 3) b ps.length D ∧ Maps.size D = ps.length ∧ (∀ p : ByteArray, Maps.has D (keyL p) = true ↔ p ∈ ps) ∧ ∀ k, (h : k < ps.length) → ∀ z, D.atKey (keyL ps[k]) z = .lit (.int .i64 k)

theorem law9 : Keyed Try.prog 9 := string_keyed Try.underlying9
theorem zero3 (w : World) : (zeroValue 3).run Try.prog w = .ok (.int .i64 0) w := by kernel_rfl

theorem MapOK.kept {w w' : World} {b : Nat} {ps : List ByteArray} {row : Option Nat} (h : MapOK w b ps) (hg : w.grownBy w' row) (hne : some b ≠ row) : MapOK w' b ps := by
  obtain ⟨D, h1, h2⟩ := h
  exact ⟨D, h1.kept hg hne, h2⟩

theorem MapOK.cells {w : World} {b : Nat} {ps : List ByteArray} (h : MapOK w b ps) : ∃ es clk, w.heap[b]? = some (.map es clk) := by
  obtain ⟨D, ⟨es, clk, hb, _⟩, _⟩ := h
  exact ⟨es, clk, hb⟩

theorem MapOK.ne_row {w : World} {b base : Nat} {ps : List ByteArray} {e : TypeId} {size : Nat} {v : Value} {n : Nat} {xs : List Value} (h : MapOK w b ps) (ho : w.ownsRow base e size v n xs) : some b ≠ v.ownBlock := by
  intro e
  obtain ⟨es, clk, hb⟩ := h.cells
  obtain ⟨_, _, cur, hc⟩ := own_block ho e.symm
  rw [hb] at hc
  cases hc

theorem MapOK.made (w : World) : MapOK (w.alloc (.map #[] 0)) w.heap.size [] :=
  ⟨.map [], World.ownsMap_made w _ _ _, rfl, fun p => by simp [Maps.has], fun k h => by simp at h⟩

theorem put_ok {D : DataW Unit} {ps : List ByteArray} {p : ByteArray} (ht : Maps.Tidy D) (hs : Maps.size D = ps.length) (hh : ∀ q : ByteArray, Maps.has D (keyL q) = true ↔ q ∈ ps) (ha : ∀ k, (h : k < ps.length) → ∀ z, D.atKey (keyL ps[k]) z = .lit (.int .i64 k)) (hp : p ∉ ps) :
    Maps.size (D.put (keyL p) (.lit (.int .i64 ps.length))) = (ps ++ [p]).length ∧ (∀ q : ByteArray, Maps.has (D.put (keyL p) (.lit (.int .i64 ps.length))) (keyL q) = true ↔ q ∈ ps ++ [p]) ∧
      ∀ k, (h : k < (ps ++ [p]).length) → ∀ z, (D.put (keyL p) (.lit (.int .i64 ps.length))).atKey (keyL (ps ++ [p])[k]) z = .lit (.int .i64 k) := by
  have hkl : WideAt.IsKeyLit (keyL p) := trivial
  refine ⟨?_, fun q => ?_, fun k h z => ?_⟩
  · rw [Maps.size_put ht, if_neg (fun e => hp ((hh p).1 e))]
    simp [hs]
  · by_cases e : q = p
    · subst e
      rw [Maps.has_put_same ht.isMap hkl]; simp
    · rw [Maps.has_put_other (fun e2 => e (keyL_inj e2)), hh q]
      simp [e]
  · by_cases e : k < ps.length
    · rw [List.getElem_append_left e, Maps.atKey_put_other ?_, ha k e z]
      intro e2
      have := keyL_inj e2
      exact hp (by rw [← this]; exact List.getElem_mem e)
    · have ek : k = ps.length := by simp at h; omega
      subst ek
      have e2 : (ps ++ [p])[ps.length] = p := by simp
      rw [e2, Maps.atKey_put_same ht.isMap hkl]

end Go.Proofs.Qxb6601898a.Pt
