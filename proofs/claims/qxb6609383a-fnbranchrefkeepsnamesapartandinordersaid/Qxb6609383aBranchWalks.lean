import Derived.Test.Qxb6609383aRows
import Derived.WalkKit
import Derived.WalkSpells
import Derived.WalkLawsBesides
namespace Go.Proofs.Qxb6609383a
open Go.RowKit

/-- 'refs-heads-': the eleven bytes ahead of the name. -/
def ref (a : ByteArray) : ByteArray := (⟨#[114, 101, 102, 115, 47, 104, 101, 97, 100, 115, 47]⟩ : ByteArray) ++ a

theorem ref_size (a : ByteArray) : (ref a).size = a.size + 11 := by
  unfold ref; rw [ByteArray.size_append]; show 11 + a.size = _; omega

theorem ref_list (a : ByteArray) : (ref a).toList = [114, 101, 102, 115, 47, 104, 101, 97, 100, 115, 47] ++ a.toList := by
  unfold ref; simp [ByteArray.toList_eq]

theorem ref_eq (a b : ByteArray) : ((ref a).toList == (ref b).toList) = (a.toList == b.toList) := by
  rw [Bool.eq_iff_iff]; simp [ref_list]

theorem less_cons (c : UInt8) (x y : List UInt8) : Op.bytesLess (c :: x) (c :: y) = Op.bytesLess x y := by
  simp [Op.bytesLess]

theorem ref_less (a b : ByteArray) : Op.bytesLess (ref a).toList (ref b).toList = Op.bytesLess a.toList b.toList := by
  rw [ref_list, ref_list]; simp only [List.cons_append, List.nil_append, less_cons]

set_option maxHeartbeats 400000 in
theorem ref_any (a : ByteArray) (w : World) (h : a.size ≤ 1048576) :
    Calls Try.prog 5 #[.string a] w fun e w' => e = .returned (.string (ref a)) ∧ w' = w := by
  go_enter Try.func5, Try.ntmps5
  go_wp2
  go_ret
  exact ⟨rfl, rfl⟩

set_option maxHeartbeats 400000 in
theorem bytes_yes (a b : ByteArray) (w : World) (h : a.size + b.size ≤ 1048576) :
    Calls Try.prog 4 #[.string a, .string b] w fun e w' => e = .returned (.bool true) ∧ w' = w := by
  go_enter Try.func4, Try.ntmps4
  go_wp2
  go_ret
  exact ⟨rfl, rfl⟩

set_option maxHeartbeats 400000 in
theorem bytes_no (a b : ByteArray) (w : World) (wa : a.size ≤ maxLen) (wb : b.size ≤ maxLen) (h : 1048576 < a.size + b.size) :
    Calls Try.prog 4 #[.string a, .string b] w fun e w' => e = .returned (.bool false) ∧ w' = w := by
  unfold maxLen at wa wb
  by_cases h1 : 1048576 < a.size
  · go_enter Try.func4, Try.ntmps4
    go_wp2
    go_ret
    exact ⟨rfl, rfl⟩
  · by_cases h2 : 1048576 < b.size
    · go_enter Try.func4, Try.ntmps4
      go_wp2
      go_ret
      exact ⟨rfl, rfl⟩
    · go_enter Try.func4, Try.ntmps4
      go_wp2
      go_ret
      exact ⟨rfl, rfl⟩

set_option maxHeartbeats 400000 in
theorem law_no (a b : ByteArray) (w : World) (wa : a.size ≤ maxLen) (wb : b.size ≤ maxLen) (h : 1048576 < a.size + b.size) :
    Calls Try.prog 3 #[.string a, .string b] w fun e w' => e = .returned (.bool true) ∧ w' = w := by
  go_enter Try.func3, Try.ntmps3
  go_wp2_with (go_at_call 4; refine (bytes_no _ _ _ wa wb h).mono ?_; rintro e w' ⟨rfl, rfl⟩)
  go_ret
  exact ⟨rfl, rfl⟩

set_option maxHeartbeats 400000 in
theorem law_yes (a b : ByteArray) (w : World) (h : a.size + b.size ≤ 1048576) :
    Calls Try.prog 3 #[.string a, .string b] w fun e w' => e = .returned (.bool true) ∧ w' = w := by
  have sa := ref_size a
  have sb := ref_size b
  have ea := ref_eq a b
  have la := ref_less a b
  go_enter Try.func3, Try.ntmps3
  go_wp2_with fail
  refine (bytes_yes _ _ _ h).mono ?_
  rintro e w' ⟨rfl, rfl⟩
  go_wp2_with fail
  refine (ref_any _ _ (by omega)).mono ?_
  rintro e w' ⟨rfl, rfl⟩
  go_wp2_with fail
  refine (ref_any _ _ (by omega)).mono ?_
  rintro e w' ⟨rfl, rfl⟩
  go_wp2_with fail
  go_ret
  exact ⟨rfl, rfl⟩

end Go.Proofs.Qxb6609383a
