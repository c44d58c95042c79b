import Derived.Test.Qxb6602364aRows
import Derived.Test.Qxb6602364aDigA
import Derived.ProofKit
import Derived.OpenShut
import Derived.ShutString
import Derived.WalkSpells
import Derived.WalkLawsBesides
import Derived.Lib.ConvBytes
namespace Go.Proofs.Qxb6602364a.Dg
open Go.ChangeShapes Go.WideShapes Go.ChangeAt Go.RowKit
set_option linter.unusedVariables false

theorem empty_iff (a : ByteArray) : a.toList.isEmpty = decide (a.size = 0) := by
  rw [Bool.eq_iff_iff]
  rw [ByteArray.toList_eq, List.isEmpty_iff_length_eq_zero]
  simp

theorem bytes_below (w : World) (e : TypeId) (s : ByteArray) : Below w.heap.size w (Lib.bytesWorld w e s) :=
  ⟨rfl, rfl, rfl, by rw [Lib.bytesWorld_size]; omega, fun k hk => Lib.bytesWorld_at_old w e s k hk⟩

/-- What allDigits answers. -/
def allD (s : ByteArray) : Bool := !decide (s.size = 0) && s.data.toList.all isD

theorem all_stop {l : List UInt8} {k : Nat} (h : k < l.length) (e : (l[k].toNat : Int) < 48 ∨ 57 < (l[k].toNat : Int)) : l.all isD = false := by
  rw [List.all_eq_false]
  refine ⟨l[k], List.getElem_mem h, ?_⟩
  simp [isD]; omega

theorem all_step {l : List UInt8} {k : Nat} (h : k < l.length) (hk : ∀ i, (hi : i < l.length) → i < k → isD l[i] = true) (e1 : 48 ≤ (l[k].toNat : Int)) (e2 : (l[k].toNat : Int) ≤ 57) : ∀ i, (hi : i < l.length) → i < k + 1 → isD l[i] = true := by
  intro i hi hlt
  by_cases e : i = k
  · subst e; simp [isD]; omega
  · exact hk i hi (by omega)

theorem all_end {l : List UInt8} (hk : ∀ i, (hi : i < l.length) → i < l.length → isD l[i] = true) : l.all isD = true := by
  rw [List.all_eq_true]
  intro c hc
  obtain ⟨i, hi, rfl⟩ := List.getElem_of_mem hc
  exact hk i hi hi

theorem ret_b {a b : Bool} (h : a = b) : Ending.returned (.bool a) = .returned (.bool b) := by rw [h]

set_option maxHeartbeats 1000000 in
theorem allDigits_any (s : ByteArray) (w : World) (hs : s.size ≤ maxLen) :
    Calls Try.prog 11 #[.string s] w fun e w' => e = .returned (.bool (allD s)) ∧ Below w.heap.size w w' := by
  unfold maxLen at hs
  by_cases h0 : s.size = 0
  · have he : s.toList.isEmpty = true := by rw [empty_iff]; simp [h0]
    have ha : allD s = false := by simp [allD, h0]
    rw [ha]
    clear ha h0
    go_enter Try.func11, Try.ntmps11
    go_wp2
    go_ret
    exact ⟨rfl, Below.refl _ _⟩
  · have he : s.toList.isEmpty = false := by rw [empty_iff]; simp [h0]
    have ha : Hid (allD s = s.data.toList.all isD) := by simp [Hid, allD, h0]
    clear h0
    have hc := fun w => Lib.run_convert_string_bytes (P := Try.prog) w 9 29 5 s Try.underlying9 Try.underlying29 Try.underlying5
    go_enter Try.func11, Try.ntmps11
    go_wp2
    go_loop [10] (fun i => ∃ k : Nat, k ≤ s.size ∧ i = .int .i64 k ∧ Hid (∀ i, (hi : i < s.data.toList.length) → i < k → isD s.data.toList[i] = true)) (fun i => s.size - (intOf i).toNat)
    case atStart => exact ⟨0, by omega, rfl, fun i hi h => by omega⟩
    case round =>
      obtain ⟨k, hk, rfl, HK⟩ := hrel
      by_cases hlt : k < s.size
      · have hl : k < s.data.toList.length := by simpa using hlt
        have hcell : (Lib.bytesWorld w 5 s).cell? ⟨w.heap.size, k, none⟩ = some (.int .u8 (s.data.toList[k].toNat : Int)) := by
          rw [Lib.bytesWorld_cell w 5 s k hlt]; simp [List.getD, hlt]
        obtain ⟨c, hcc⟩ : ∃ c : Nat, c = s.data.toList[k].toNat := ⟨_, rfl⟩
        rw [← hcc] at hcell
        have HC : Hid (c = s.data.toList[k].toNat) := hcc
        clear hcc hc
        by_cases e1 : (c : Int) < 48
        · go_wp2
          go_ret
          exact ⟨ret_b (by rw [ha.out]; exact (all_stop hl (by rw [← HC.out]; exact .inl e1)).symm), bytes_below _ _ _⟩
        · by_cases e2 : (57 : Int) < c
          · go_wp2
            go_ret
            exact ⟨ret_b (by rw [ha.out]; exact (all_stop hl (by rw [← HC.out]; exact .inr e2)).symm), bytes_below _ _ _⟩
          · go_wp2
            go_round
            case rel => exact ⟨k + 1, by omega, by go_num, all_step hl HK.out (by rw [← HC.out]; omega) (by rw [← HC.out]; omega)⟩
            case measure => simp [intOf]; omega
      · clear hc
        go_wp2
        go_ret
        exact ⟨ret_b (by rw [ha.out]; exact (all_end (fun i hi h => HK.out i hi (by simp at h; omega))).symm), bytes_below _ _ _⟩

theorem zzAll_any (s : ByteArray) (w : World) (hs : s.size ≤ maxLen) :
    Calls Try.prog 7 #[.string s] w fun e w' => e = .returned (.bool (allD s)) ∧ Below w.heap.size w w' := by
  go_enter Try.func7, Try.ntmps7
  go_wp2_with (go_at_call 11; refine (allDigits_any s _ hs).mono ?_; rintro e w' ⟨rfl, hb⟩)
  go_ret
  exact ⟨rfl, by assumption⟩

theorem zz6 (s : ByteArray) (w : World) (hs : s.size ≤ maxLen) :
    Calls Try.prog 6 #[.string s] w fun e w' => e = .returned (.bool (decide (s.size ≤ 1048576))) ∧ w' = w := by
  unfold maxLen at hs
  by_cases h1 : (s.size : Int) ≤ 1048576
  · have hd : decide (s.size ≤ 1048576) = true := by simp; omega
    rw [hd]
    clear hd
    go_enter Try.func6, Try.ntmps6
    go_wp2
    go_ret
    exact ⟨rfl, rfl⟩
  · have hd : decide (s.size ≤ 1048576) = false := by simp; omega
    rw [hd]
    clear hd
    go_enter Try.func6, Try.ntmps6
    go_wp2
    go_ret
    exact ⟨rfl, rfl⟩

theorem fin_eq (s : ByteArray) (h : s.size = 0 ∨ s.size ≠ 0) : allD s = (decide ((0 : Int) < s.size) && (((cntTo s.data.toList 10 : Nat) : Int) == (s.size : Int))) := by
  have e : (((cntTo s.data.toList 10 : Nat) : Int) == (s.size : Int)) = s.data.toList.all isD := by
    rw [Bool.eq_iff_iff, ← cntTo_ten]
    simp
    omega
  rw [e]
  unfold allD
  congr 1
  by_cases h : s.size = 0 <;> simp [h]
  omega

theorem getB (s : ByteArray) (k : Nat) (h : k < s.size) : s.data.toList[k]'(by simpa using h) = s[k] := rfl

theorem cnt_hit {s : ByteArray} {k m j : Nat} (h : k < s.size) (e : ((s[k].toNat : Int) == 48 + j) = true) (hm : m = cntAt (s.data.toList.take k) j) : m + 1 = cntAt (s.data.toList.take (k + 1)) j := by
  rw [cntAt_take _ _ _ (by simpa using h), getB s k h, ← hm]
  simp at e
  rw [if_pos (by omega)]

theorem cnt_miss {s : ByteArray} {k m j : Nat} (h : k < s.size) (e : ((s[k].toNat : Int) == 48 + j) = false) (hm : m = cntAt (s.data.toList.take k) j) : m = cntAt (s.data.toList.take (k + 1)) j := by
  rw [cntAt_take _ _ _ (by simpa using h), getB s k h, ← hm]
  simp at e
  rw [if_neg (by omega)]
  rfl

theorem cnt_next {s : ByteArray} {k m c j : Nat} (h : s.size ≤ k) (hc : c = cntTo s.data.toList j) (hm : m = cntAt (s.data.toList.take k) j) : c + m = cntTo s.data.toList (j + 1) := by
  rw [cntTo_succ, ← hc, hm, List.take_of_length_le (by simpa using h)]

set_option maxHeartbeats 1000000 in
theorem law_digits (s : ByteArray) (w : World) (hs : s.size ≤ maxLen) :
    Calls Try.prog 3 #[.string s] w fun e w' => e = .returned (.bool true) ∧ Below w.heap.size w w' := by
  by_cases hd : (s.size : Int) ≤ 1048576
  · have HZ : Hid (decide (s.size ≤ 1048576) = true) := by simp only [Hid, decide_eq_true_eq]; omega
    have HA : Hid (s.size ≤ maxLen) := hs
    clear hs
    go_enter Try.func3, Try.ntmps3
    go_wp2_with fail
    refine (zz6 s _ HA.out).mono ?_
    rintro e w' ⟨rfl, hw⟩
    have hw := hw.symm
    subst hw
    rw [HZ.out]
    go_wp2_with fail
    refine (zzAll_any s _ HA.out).mono ?_
    rintro e w1 ⟨rfl, hb1⟩
    obtain ⟨r, hr⟩ : ∃ r, r = allD s := ⟨_, rfl⟩
    rw [← hr]
    have HR : Hid (r = allD s) := hr
    clear hr
    go_wp2_with fail
    go_loop [4, 5] (fun u v => ∃ c j : Nat, j ≤ 10 ∧ c ≤ s.size ∧ u = .int .i64 c ∧ v = .int .i64 j ∧ Hid (c = cntTo s.data.toList j)) (fun _ v => 10 - (intOf v).toNat)
    case atStart => exact ⟨0, 0, by omega, by omega, rfl, rfl, (cntTo_zero _).symm⟩
    case round =>
      obtain ⟨c, j, hj, hcs, rfl, rfl, HC⟩ := hrel
      by_cases hlt : j < 10
      · go_wp2_with fail
        go_loop [4, 7] (fun u v => ∃ m k : Nat, k ≤ s.size ∧ m ≤ k ∧ u = .int .i64 ((c : Int) + m) ∧ v = .int .i64 k ∧ Hid (m = cntAt (s.data.toList.take k) j)) (fun _ v => s.size - (intOf v).toNat)
        case atStart => exact ⟨0, 0, by omega, by omega, by go_num, rfl, by simp [Hid, cntAt]⟩
        case round =>
          obtain ⟨m, k, hk, hmk, rfl, rfl, HM⟩ := hrel
          by_cases hlk : k < s.size
          · go_wp2
            · have e1 : ((s[k].toNat : Int) == 48 + j) = true := by assumption
              go_round
              case rel => exact ⟨m + 1, k + 1, by omega, by omega, by go_num, by go_num, cnt_hit hlk e1 HM.out⟩
              case measure => simp [intOf]; omega
            · have e1 : ((s[k].toNat : Int) == 48 + j) = false := by assumption
              go_round
              case rel => exact ⟨m, k + 1, by omega, by omega, rfl, by go_num, cnt_miss hlk e1 HM.out⟩
              case measure => simp [intOf]; omega
          · have hcm := cnt_next (by omega) HC.out HM.out
            have HCM : Hid (c + m = cntTo s.data.toList (j + 1)) := hcm
            have hle := cntTo_le s.data.toList (j + 1)
            have hle2 : c + m ≤ s.size := by rw [hcm]; simpa using hle
            clear hcm hle
            go_wp2
            go_round
            case rel => exact ⟨c + m, j + 1, by omega, hle2, by go_num, by go_num, HCM⟩
            case measure => simp [intOf]; omega
      · have ej : j = 10 := by omega
        have HF : Hid (r = (decide ((0 : Int) < s.size) && ((c : Int) == (s.size : Int)))) := by
          rw [HR.out, fin_eq s (by omega), HC.out, ej]; rfl
        clear ej
        by_cases hp : (0 : Int) < s.size
        · have HF2 : r = ((c : Int) == (s.size : Int)) := by rw [HF.out, decide_eq_true hp, Bool.true_and]
          rw [HF2]
          clear HF2
          go_wp2
          go_ret
          exact ⟨ret_b (by simp), by assumption⟩
        · have HF2 : r = false := by rw [HF.out, decide_eq_false hp, Bool.false_and]
          rw [HF2]
          clear HF2
          go_wp2
          go_ret
          exact ⟨ret_b (by simp), by assumption⟩
  · have HZ : Hid (decide (s.size ≤ 1048576) = false) := by simp only [Hid, decide_eq_false_iff_not]; omega
    have HA : Hid (s.size ≤ maxLen) := hs
    clear hs
    go_enter Try.func3, Try.ntmps3
    go_wp2_with fail
    refine (zz6 s _ HA.out).mono ?_
    rintro e w' ⟨rfl, hw⟩
    have hw := hw.symm
    subst hw
    rw [HZ.out]
    go_wp2_with fail
    go_ret
    exact ⟨rfl, Below.refl _ _⟩

end Go.Proofs.Qxb6602364a.Dg
