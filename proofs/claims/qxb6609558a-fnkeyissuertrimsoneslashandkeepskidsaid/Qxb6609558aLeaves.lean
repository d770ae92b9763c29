import Derived.Test.Qxb6609558aRows
import Derived.WalkKit
import Derived.WalkSpells
import Derived.WalkLawsBesides
import Derived.Lib.Strings
import Derived.Lib.IndexBytes
namespace Go.Proofs.Qxb6609558a
open Go.RowKit

/-- Is the last byte a slash? -/
def ends (s : ByteArray) : Bool := if h : 0 < s.size then s[s.size - 1] == 47 else false

/-- The string less one slash at its end. -/
def trim (s : ByteArray) : ByteArray := if ends s then s.extract 0 (s.size - 1) else s

def issuer (s k : ByteArray) : ByteArray := (trim s ++ ⟨#[47]⟩) ++ k

theorem bytes_ext {a b : ByteArray} (h : a.data.toList = b.data.toList) : a = b := by
  cases a; cases b; simp at h; simp [h]

theorem at_list (s : ByteArray) (k : Nat) (h : k < s.size) : s.data.toList[k]'(by simpa using h) = s[k] := rfl

theorem len_list (a : ByteArray) : a.data.toList.length = a.size := by simp

theorem byte_eq (c : UInt8) : ((c.toNat : Int) == 47) = (c == 47) := by
  rw [Bool.eq_iff_iff]; simp [← UInt8.toNat_inj]; omega

theorem last_cut (s : ByteArray) (h : 0 < s.size) : (s.extract (s.size - 1) s.size).toList = [s[s.size - 1]] := by
  rw [Lib.extract_toList, ← at_list s (s.size - 1) (by omega)]
  have e : s.size - (s.size - 1) = 1 := by omega
  rw [e, List.drop_eq_getElem_cons (by simp; omega)]
  simp

theorem last_eq (s : ByteArray) (h : 0 < s.size) : ((s.extract (s.size - 1) s.size).toList == [47]) = ends s := by
  rw [last_cut s h, ends, dif_pos h, Bool.eq_iff_iff]
  simp

set_option maxHeartbeats 400000 in
theorem bytes_any (a b : ByteArray) (w : World) (wa : a.size ≤ maxLen) (wb : b.size ≤ maxLen) :
    Calls Try.prog 4 #[.string a, .string b] w fun e w' => (∃ r : Bool, e = .returned (.bool r) ∧ (r = true → a.size + b.size ≤ 1048576)) ∧ w' = w := by
  unfold maxLen at wa wb
  go_enter Try.func4, Try.ntmps4
  go_wp2
  all_goals go_ret
  all_goals exact ⟨⟨_, rfl, by first | (intro h; cases h; done) | (intro _; omega)⟩, rfl⟩

theorem ret_bool {a b : Bool} (h : a = b) : Ending.returned (.bool a) = .returned (.bool b) := by rw [h]

set_option maxHeartbeats 400000 in
theorem ends_any (s : ByteArray) (w : World) (hs : s.size ≤ 1100000) :
    Calls Try.prog 6 #[.string s] w fun e w' => e = .returned (.bool (ends s)) ∧ w' = w := by
  by_cases h : 0 < s.size
  · have he : Hid (ends s = ((s[s.size - 1].toNat : Int) == 47)) := by show ends s = _; rw [byte_eq, ends, dif_pos h]
    go_enter Try.func6, Try.ntmps6
    go_wp2
    go_ret
    exact ⟨ret_bool he.out.symm, rfl⟩
  · have he : Hid (ends s = false) := by show ends s = _; rw [ends, dif_neg h]
    have hd : decide ((0 : Int) < (s.size : Int)) = false := decide_eq_false (by omega)
    go_enter Try.func6, Try.ntmps6
    go_wp2
    go_ret
    exact ⟨ret_bool he.out.symm, rfl⟩

set_option maxHeartbeats 400000 in
theorem suffix_any (s : ByteArray) (w : World) (hs : s.size ≤ 1100000) :
    Calls Try.prog 10 #[.string s, .string ⟨#[47]⟩] w fun e w' => e = .returned (.bool (ends s)) ∧ w' = w := by
  by_cases h : 0 < s.size
  · have hl := last_eq s h
    go_enter Try.func10, Try.ntmps10
    go_wp2
    go_ret
    exact ⟨rfl, rfl⟩
  · have he : Hid (ends s = false) := by show ends s = _; rw [ends, dif_neg h]
    go_enter Try.func10, Try.ntmps10
    go_wp2
    go_ret
    exact ⟨ret_bool he.out.symm, rfl⟩

theorem ends_pos {s : ByteArray} (h : ends s = true) : 0 < s.size := by
  apply Classical.byContradiction
  intro h0
  rw [ends, dif_neg h0] at h
  cases h

set_option maxHeartbeats 400000 in
theorem lite_any (s : ByteArray) (w : World) (hs : s.size ≤ 1100000) :
    Calls Try.prog 9 #[.string s, .string ⟨#[47]⟩] w fun e w' => e = .returned (.string (trim s)) ∧ w' = w := by
  cases h : ends s
  · have ht : Hid (trim s = s) := by show trim s = s; rw [trim, h]; rfl
    go_enter Try.func9, Try.ntmps9
    go_wp2_with fail
    refine (suffix_any s _ hs).mono ?_
    rintro e w' ⟨rfl, rfl⟩
    go_wp2_with fail
    go_ret
    exact ⟨by rw [ht.out]; rfl, rfl⟩
  · have ht : Hid (trim s = s.extract 0 (s.size - 1)) := by show trim s = _; rw [trim, h]; rfl
    have hp := ends_pos h
    go_enter Try.func9, Try.ntmps9
    go_wp2_with fail
    refine (suffix_any s _ hs).mono ?_
    rintro e w' ⟨rfl, rfl⟩
    go_wp2_with fail
    go_ret
    exact ⟨by rw [ht.out]; rfl, rfl⟩

set_option maxHeartbeats 400000 in
theorem trim_any (s : ByteArray) (w : World) (hs : s.size ≤ 1100000) :
    Calls Try.prog 8 #[.string s, .string ⟨#[47]⟩] w fun e w' => e = .returned (.string (trim s)) ∧ w' = w := by
  go_enter Try.func8, Try.ntmps8
  go_wp2_with fail
  refine (lite_any s _ hs).mono ?_
  rintro e w' ⟨rfl, rfl⟩
  go_wp2_with fail
  go_ret
  exact ⟨rfl, rfl⟩

theorem trim_size (s : ByteArray) : (trim s).size ≤ s.size := by
  rw [trim]
  split
  · rw [← len_list, Lib.extract_data, List.length_take, List.length_drop, len_list]; omega
  · exact Nat.le_refl _

set_option maxHeartbeats 400000 in
theorem key_any (s k : ByteArray) (w : World) (hs : s.size ≤ 1100000) (hk : k.size ≤ 1100000) :
    Calls Try.prog 7 #[.string s, .string k] w fun e w' => e = .returned (.string (issuer s k)) ∧ w' = w := by
  have hz := trim_size s
  go_enter Try.func7, Try.ntmps7
  go_wp2_with fail
  refine (trim_any s _ hs).mono ?_
  rintro e w' ⟨rfl, rfl⟩
  go_wp2_with fail
  go_ret
  exact ⟨rfl, rfl⟩

set_option maxHeartbeats 400000 in
theorem issuer_any (s k : ByteArray) (w : World) (hs : s.size ≤ 1100000) (hk : k.size ≤ 1100000) :
    Calls Try.prog 5 #[.string s, .string k] w fun e w' => e = .returned (.string (issuer s k)) ∧ w' = w := by
  go_enter Try.func5, Try.ntmps5
  go_wp2_with fail
  refine (key_any s k _ hs hk).mono ?_
  rintro e w' ⟨rfl, rfl⟩
  go_wp2_with fail
  go_ret
  exact ⟨rfl, rfl⟩

/-! ### The plain law -/
theorem size_append (a b : ByteArray) : (a ++ b).size = a.size + b.size := ByteArray.size_append

theorem ends_slash (a : ByteArray) : ends (a ++ ⟨#[47]⟩) = true := by
  have hz : (a ++ (⟨#[47]⟩ : ByteArray)).size = a.size + 1 := size_append _ _
  have h0 : 0 < (a ++ (⟨#[47]⟩ : ByteArray)).size := by omega
  rw [ends, dif_pos h0, ← at_list _ _ (by omega)]
  simp [ByteArray.data_append, hz]

theorem trim_slash (a : ByteArray) : trim (a ++ ⟨#[47]⟩) = a := by
  have hz : (a ++ (⟨#[47]⟩ : ByteArray)).size = a.size + 1 := size_append _ _
  rw [trim, ends_slash]
  apply bytes_ext
  simp only [if_true]
  rw [Lib.extract_data, hz]
  simp [ByteArray.data_append]

theorem issuer_slash (a k : ByteArray) : issuer (a ++ ⟨#[47]⟩) k = (a ++ ⟨#[47]⟩) ++ k := by
  rw [issuer, trim_slash]

theorem same_just (a k : ByteArray) : (((a ++ (⟨#[47]⟩ : ByteArray)) ++ k).toList == (issuer a k).toList) = !ends a := by
  cases h : ends a
  · have : issuer a k = (a ++ ⟨#[47]⟩) ++ k := by rw [issuer, trim, h]; rfl
    rw [this]; simp
  · have hp := ends_pos h
    have hz : (trim a).size = a.size - 1 := by
      rw [trim, h, ← len_list]
      simp only [if_true]
      rw [Lib.extract_data, List.length_take, List.length_drop, len_list]; omega
    have hs : (issuer a k).size = a.size + k.size := by
      rw [issuer, size_append, size_append, hz]
      show a.size - 1 + 1 + k.size = _
      omega
    have hs2 : ((a ++ (⟨#[47]⟩ : ByteArray)) ++ k).size = a.size + 1 + k.size := by rw [size_append, size_append]; rfl
    simp only [Bool.not_true]
    rw [beq_eq_false_iff_ne]
    intro e
    rw [Lib.toList_data, Lib.toList_data] at e
    have := congrArg List.length e
    rw [len_list, len_list, hs, hs2] at this
    omega

theorem issuer_end (a k : ByteArray) : ∃ m, m ≤ a.size ∧ (issuer a k).size = m + 1 + k.size ∧ (issuer a k).extract (m + 1) (m + 1 + k.size) = k ∧ ∃ h : m < (issuer a k).size, (issuer a k)[m] = 47 := by
  have hs : (issuer a k).size = (trim a).size + 1 + k.size := by rw [issuer, size_append, size_append]; rfl
  have hl : (issuer a k).data.toList = (trim a).data.toList ++ 47 :: k.data.toList := by simp [issuer, ByteArray.data_append]
  refine ⟨(trim a).size, trim_size a, hs, ?_, by omega, ?_⟩
  · apply bytes_ext
    have e : List.drop ((trim a).size + 1) (trim a).data.toList = [] := List.drop_of_length_le (by rw [len_list]; omega)
    rw [Lib.extract_data, hl, List.drop_append, e, List.nil_append, len_list]
    rw [show (trim a).size + 1 - (trim a).size = 1 from by omega, show (trim a).size + 1 + k.size - ((trim a).size + 1) = k.size from by omega]
    exact List.take_of_length_le (by simp)
  · rw [← at_list _ _ (by omega)]
    simp [hl]

end Go.Proofs.Qxb6609558a
