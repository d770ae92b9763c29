import Derived.Test.Qxb6609487aLeaves
import Derived.Lib.Strings
import Derived.Lib.IndexBytes
namespace Go.Proofs.Qxb6609487a

/-- version _ arch .ipk -/
def rest (b c : ByteArray) : ByteArray := ((b ++ ⟨#[95]⟩) ++ c) ++ ⟨#[46, 105, 112, 107]⟩
/-- arch .ipk -/
def tail (c : ByteArray) : ByteArray := c ++ ⟨#[46, 105, 112, 107]⟩

theorem bytes_ext {a b : ByteArray} (h : a.data.toList = b.data.toList) : a = b := by
  cases a; cases b; simp at h; simp [h]

theorem name_list (a b c : ByteArray) : (name a b c).data.toList = a.data.toList ++ 95 :: (rest b c).data.toList := by
  simp [name, rest, ByteArray.data_append]
theorem rest_list (b c : ByteArray) : (rest b c).data.toList = b.data.toList ++ 95 :: (tail c).data.toList := by
  simp [rest, tail, ByteArray.data_append]
theorem tail_list (c : ByteArray) : (tail c).data.toList = c.data.toList ++ [46, 105, 112, 107] := by
  simp [tail, ByteArray.data_append]

theorem len_list (a : ByteArray) : a.data.toList.length = a.size := by simp

theorem size_of {s : ByteArray} {l : List UInt8} (h : s.data.toList = l) : s.size = l.length := by rw [← len_list, h]

theorem tail_size (c : ByteArray) : (tail c).size = c.size + 4 := by
  rw [size_of (tail_list c)]; simp
theorem rest_size (b c : ByteArray) : (rest b c).size = b.size + c.size + 5 := by
  rw [size_of (rest_list b c)]; simp [tail_size]; omega
theorem name_size (a b c : ByteArray) : (name a b c).size = a.size + b.size + c.size + 6 := by
  rw [size_of (name_list a b c)]; simp [rest_size]; omega

/-- What 's = p _ r' says of its bytes and its slices. -/
theorem split_at {s p r : ByteArray} (h : s.data.toList = p.data.toList ++ 95 :: r.data.toList) :
    (∃ hn : p.size < s.size, s[p.size] = 95) ∧ (∀ j, (hj : j < s.size) → (hp : j < p.size) → s[j] = p[j]) ∧ s.extract 0 p.size = p ∧ s.extract (p.size + 1) s.size = r := by
  have hz : s.size = p.size + r.size + 1 := by rw [size_of h]; simp; omega
  have hlt : p.size < s.size := by omega
  refine ⟨⟨hlt, ?_⟩, ?_, ?_, ?_⟩
  · rw [← at_list s p.size hlt]
    simp only [h]
    rw [List.getElem_append_right (by simp)]
    simp
  · intro j hj hp
    rw [← at_list s j hj, ← at_list p j hp]
    simp only [h]
    rw [List.getElem_append_left (by simpa using hp)]
  · apply bytes_ext
    rw [Lib.extract_data, h]
    simp
  · apply bytes_ext
    rw [Lib.extract_to_end, h]
    simp [List.drop_append]

theorem tail_cut (c : ByteArray) : (tail c).extract 0 c.size = c ∧ (tail c).extract c.size (c.size + 4) = ⟨#[46, 105, 112, 107]⟩ := by
  constructor
  · apply bytes_ext
    rw [Lib.extract_data, tail_list]
    simp
  · apply bytes_ext
    rw [Lib.extract_data, tail_list]
    simp

end Go.Proofs.Qxb6609487a
