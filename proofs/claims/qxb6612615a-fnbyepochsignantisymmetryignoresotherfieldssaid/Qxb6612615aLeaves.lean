import Derived.Test.Qxb6612615aRows
import Derived.WalkKit
import Derived.WalkSpells
import Derived.WalkLawsBesides
import Derived.Deep.WholeRow
namespace Go.Proofs.Qxb6612615a
open Go.RowKit

/-- The three-way order of two numbers. -/
def sgn (x y : Int) : Int := if x < y then -1 else if y < x then 1 else 0

theorem ret_int {k : IntKind} {a b : Int} (h : a = b) : Ending.returned (.int k a) = .returned (.int k b) := by rw [h]

theorem info23 : (Try.prog.info? 23).map (·.size) = some 32 := by kernel_rfl
theorem info29 : (Try.prog.info? 29).map (·.size) = some 36 := by kernel_rfl

set_option maxHeartbeats 400000 in
theorem sign_any (x y : Int) (w : World) :
    Calls Try.prog 5 #[.int .u64 x, .int .u64 y] w fun e w' => e = .returned (.int .i64 (sgn x y)) ∧ w' = w := by
  by_cases h1 : x < y
  · have hs : Hid (sgn x y = -1) := by show sgn x y = _; simp [sgn, h1]
    go_enter Try.func5, Try.ntmps5
    go_wp2
    go_ret
    exact ⟨ret_int hs.out.symm, rfl⟩
  · by_cases h2 : y < x
    · have hs : Hid (sgn x y = 1) := by show sgn x y = _; simp [sgn, h1, h2]
      go_enter Try.func5, Try.ntmps5
      go_wp2
      go_ret
      exact ⟨ret_int hs.out.symm, rfl⟩
    · have hs : Hid (sgn x y = 0) := by show sgn x y = _; simp [sgn, h1, h2]
      go_enter Try.func5, Try.ntmps5
      go_wp2
      go_ret
      exact ⟨ret_int hs.out.symm, rfl⟩

set_option maxHeartbeats 400000 in
theorem nan_any (x : Int) (w : World) :
    Calls Try.prog 9 #[.int .u64 x] w fun e w' => e = .returned (.bool false) ∧ w' = w := by
  go_enter Try.func9, Try.ntmps9
  go_wp2
  go_ret
  exact ⟨rfl, rfl⟩

set_option maxHeartbeats 400000 in
theorem cmp_any (x y : Int) (w : World) :
    Calls Try.prog 8 #[.int .u64 x, .int .u64 y] w fun e w' => e = .returned (.int .i64 (sgn x y)) ∧ w' = w := by
  by_cases h1 : x < y
  · have hs : Hid (sgn x y = -1) := by show sgn x y = _; simp [sgn, h1]
    go_enter Try.func8, Try.ntmps8
    go_wp2_with (go_at_call 9; refine (nan_any _ _).mono ?_; rintro e w' ⟨rfl, rfl⟩)
    go_ret
    exact ⟨ret_int hs.out.symm, rfl⟩
  · by_cases h2 : y < x
    · have hs : Hid (sgn x y = 1) := by show sgn x y = _; simp [sgn, h1, h2]
      go_enter Try.func8, Try.ntmps8
      go_wp2_with (go_at_call 9; refine (nan_any _ _).mono ?_; rintro e w' ⟨rfl, rfl⟩)
      go_ret
      exact ⟨ret_int hs.out.symm, rfl⟩
    · have hs : Hid (sgn x y = 0) := by show sgn x y = _; simp [sgn, h1, h2]
      go_enter Try.func8, Try.ntmps8
      go_wp2_with (go_at_call 9; refine (nan_any _ _).mono ?_; rintro e w' ⟨rfl, rfl⟩)
      go_ret
      exact ⟨ret_int hs.out.symm, rfl⟩

set_option maxHeartbeats 400000 in
theorem by_any (vs : Array Value) (x y : Int) (w : World) (hx : vs[0]? = some (.int .u64 x)) :
    Calls Try.prog 7 #[.agg vs, .int .u64 y] w fun e w' => e = .returned (.int .i64 (sgn x y)) ∧ w' = w.alloc (.cells vs 29) := by
  go_enter Try.func7, Try.ntmps7
  go_wp2_with (go_at_call 8; refine (cmp_any _ _ _).mono ?_; rintro e w' ⟨rfl, rfl⟩)
  go_ret
  exact ⟨rfl, rfl⟩

set_option maxHeartbeats 400000 in
theorem zz_any (vs : Array Value) (x y : Int) (w : World) (hx : vs[0]? = some (.int .u64 x)) (hz : vs.size = 36) :
    Calls Try.prog 6 #[.agg vs, .int .u64 y] w fun e w' => e = .returned (.int .i64 (sgn x y)) ∧ Below w.heap.size w w' := by
  have hi : Hid ((Try.prog.info? 29).map (·.size) = some vs.size) := by show _ = _; rw [hz]; exact info29
  clear hz
  go_enter Try.func6, Try.ntmps6
  go_wp2_with (first | (refine wpList_load_row rfl 29 _ rfl _ rfl 29 vs (0, 0) _ (heap_alloc_new w _) Try.underlying29 rfl hi.out ?_) | (go_at_call 7; refine (by_any _ x _ _ hx).mono ?_; rintro e w' ⟨rfl, rfl⟩))
  go_ret
  refine ⟨rfl, ?_⟩
  exact ((Below.refl _ _).alloc (Nat.le_refl _) _).alloc (by simp) _

set_option maxHeartbeats 400000 in
theorem bytes_any (ep vo tg ep2 : Int) (cs : Array Value) (s : Option Addr) (len cap : Nat) (w : World) (hl : len ≤ maxLen) :
    Calls Try.prog 4 #[.int .u64 ep, .agg cs, .int .i64 vo, .int .u8 tg, .slice s len cap, .int .u64 ep2] w fun e w' =>
      (∃ b : Bool, e = .returned (.bool b) ∧ (b = true → len ≤ 1048576)) ∧ w' = w.alloc (.cells cs 23) := by
  unfold maxLen at hl
  go_enter Try.func4, Try.ntmps4
  go_wp2
  all_goals go_ret
  all_goals exact ⟨⟨_, rfl, by first | (intro h; cases h; done) | (intro _; omega)⟩, rfl⟩

end Go.Proofs.Qxb6612615a
