import Derived.Test.Qxb6609487aRows
import Derived.WalkKit
import Derived.WalkSpells
import Derived.WalkLawsBesides
import Derived.Deep.QuietTactic
import Derived.BigQuiet
namespace Go.Proofs.Qxb6609487a
open Go.RowKit

/-- Does s hold an underscore? -/
def hasU (s : ByteArray) : Bool := s.data.toList.contains 95

/-- pkg _ version _ arch .ipk -/
def name (a b c : ByteArray) : ByteArray := ((((a ++ ⟨#[95]⟩) ++ b) ++ ⟨#[95]⟩) ++ c) ++ ⟨#[46, 105, 112, 107]⟩

set_option maxHeartbeats 1000000 in
theorem bytes_any (a0 a1 a2 a3 a4 a5 a6 a7 a8 a9 : ByteArray) (w : World) (w0 : a0.size ≤ maxLen) (w1 : a1.size ≤ maxLen) (w2 : a2.size ≤ maxLen) (w3 : a3.size ≤ maxLen) (w4 : a4.size ≤ maxLen) (w5 : a5.size ≤ maxLen) (w6 : a6.size ≤ maxLen) (w7 : a7.size ≤ maxLen) (w8 : a8.size ≤ maxLen) (w9 : a9.size ≤ maxLen) :
    Calls Try.prog 4 #[.string a0, .string a1, .string a2, .string a3, .string a4, .string a5, .string a6, .string a7, .string a8, .string a9] w fun e w' =>
      (∃ b : Bool, e = .returned (.bool b) ∧ (b = true → a0.size + a1.size + a2.size + a3.size + a4.size + a5.size + a6.size + a7.size + a8.size + a9.size ≤ 1048576)) ∧ w' = w := by
  unfold maxLen at w0 w1 w2 w3 w4 w5 w6 w7 w8 w9
  go_enter Try.func4, Try.ntmps4
  go_wp2
  all_goals go_ret
  all_goals exact ⟨⟨_, rfl, by first | (intro h; cases h; done) | (intro _; omega)⟩, rfl⟩

set_option maxHeartbeats 400000 in
theorem fileName_any (a b c : ByteArray) (g : Nat) (w : World) (ha : w.cell? ⟨g, 0, none⟩ = some (.string a)) (hb : w.cell? ⟨g, 1, none⟩ = some (.string b)) (hc : w.cell? ⟨g, 2, none⟩ = some (.string c))
    (hs : a.size + b.size + c.size ≤ 1048576) :
    Calls Try.prog 6 #[.pointer (some ⟨g, 0, none⟩)] w fun e w' => e = .returned (.string (name a b c)) ∧ ∃ n, w' = w.drewN n := by
  go_enter Try.func6, Try.ntmps6
  go_wp2
  go_quiet (fail)
  go_wp2
  go_ret
  exact ⟨rfl, _, rfl⟩

/-- The byte at k is the list's. -/
theorem at_list (s : ByteArray) (k : Nat) (h : k < s.size) : s.data.toList[k]'(by simpa using h) = s[k] := rfl

theorem hasU_false {s : ByteArray} (h : hasU s = false) (k : Nat) (hk : k < s.size) : s[k] ≠ 95 := by
  intro e
  have : (95 : UInt8) ∈ s.data.toList := by
    rw [← e, ← at_list s k hk]; exact List.getElem_mem _
  simp [hasU, this] at h

theorem hasU_true {s : ByteArray} (k : Nat) (hk : k < s.size) (e : s[k] = 95) : hasU s = true := by
  have : (95 : UInt8) ∈ s.data.toList := by
    rw [← e, ← at_list s k hk]; exact List.getElem_mem _
  simp [hasU, this]

theorem hasU_none {s : ByteArray} (h : ∀ k, (hk : k < s.size) → s[k] ≠ 95) : hasU s = false := by
  rw [Bool.eq_false_iff]
  intro e
  have hm : (95 : UInt8) ∈ s.data.toList := by simpa [hasU] using e
  obtain ⟨k, hk, hv⟩ := List.getElem_of_mem hm
  exact h k (by simpa using hk) hv

theorem byte_eq (c : UInt8) : ((c.toNat : Int) == 95) = (c == 95) := by
  rw [Bool.eq_iff_iff]; simp [← UInt8.toNat_inj]; omega

set_option maxHeartbeats 400000 in
theorem has_any (s : ByteArray) (w : World) (hs : s.size ≤ 1048576) :
    Calls Try.prog 5 #[.string s] w fun e w' => e = .returned (.bool (hasU s)) ∧ w' = w := by
  go_enter Try.func5, Try.ntmps5
  go_wp2
  go_loop [3] (fun i => ∃ k : Nat, k ≤ s.size ∧ i = .int .i64 k ∧ ∀ j, (hj : j < s.size) → j < k → s[j] ≠ 95) (fun i => s.size - (intOf i).toNat)
  case atStart => exact ⟨0, Nat.zero_le _, rfl, fun _ _ h => absurd h (Nat.not_lt_zero _)⟩
  case round =>
    obtain ⟨k, hk, rfl, hno⟩ := hrel
    have HN : Hid (∀ j, (hj : j < s.size) → j < k → s[j] ≠ 95) := hno
    clear hno
    by_cases hlt : k < s.size
    · by_cases he : s[k] = 95
      · have HE : Hid (hasU s = true) := hasU_true k hlt he
        have hb : ((s[k].toNat : Int) == 95) = true := by rw [byte_eq]; simp [he]
        clear he
        go_wp2
        go_ret
        exact ⟨by rw [HE.out]; rfl, rfl⟩
      · have hb : ((s[k].toNat : Int) == 95) = false := by rw [byte_eq]; simp [he]
        have HE : Hid (s[k] ≠ 95) := he
        clear he
        go_wp2
        go_round
        case rel => exact ⟨k + 1, by omega, by go_num, fun j hj h => if e : j = k then by subst e; exact HE.out else HN.out j hj (by omega)⟩
        case measure => simp [intOf]; omega
    · have HE : Hid (hasU s = false) := hasU_none fun j hj => HN.out j hj (by omega)
      go_wp2
      go_ret
      exact ⟨by rw [HE.out]; rfl, rfl⟩

set_option maxHeartbeats 400000 in
theorem index_at (s : ByteArray) (n : Nat) (w : World) (hs : s.size ≤ 2000000) (hn : n < s.size) (h95 : s[n] = 95) (hno : ∀ j, (hj : j < s.size) → j < n → s[j] ≠ 95) :
    Calls Try.prog 7 #[.string s] w fun e w' => e = .returned (.int .i64 n) ∧ w' = w := by
  have H95 : Hid (s[n] = 95) := h95
  have HN : Hid (∀ j, (hj : j < s.size) → j < n → s[j] ≠ 95) := hno
  clear h95 hno
  go_enter Try.func7, Try.ntmps7
  go_wp2
  go_loop [3] (fun i => ∃ k : Nat, k ≤ n ∧ i = .int .i64 k) (fun i => s.size - (intOf i).toNat)
  case atStart => exact ⟨0, Nat.zero_le _, rfl⟩
  case round =>
    obtain ⟨k, hk, rfl⟩ := hrel
    have hlt : k < s.size := by omega
    by_cases he : k = n
    · subst he
      have hb : ((s[k].toNat : Int) == 95) = true := by rw [byte_eq]; simp [H95.out]
      go_wp2
      go_ret
      exact ⟨rfl, rfl⟩
    · have hb : ((s[k].toNat : Int) == 95) = false := by rw [byte_eq]; simp [HN.out k hlt (by omega)]
      go_wp2
      go_round
      case rel => exact ⟨k + 1, by omega, by go_num⟩
      case measure => simp [intOf]; omega

end Go.Proofs.Qxb6609487a
