import Derived.Test.Qxb6612615aLeaves
namespace Go.Proofs.Qxb6612615a
open Go.RowKit

/-- The cells of a Vote. -/
def vote (ep : Int) (cs : Array Value) (vo tg : Int) (s : Option Addr) (len cap : Nat) : Array Value :=
  #[.int .u64 ep] ++ cs ++ #[.int .i64 vo, .int .u8 tg, .slice s len cap]

theorem list32 {l : List Value} (h : l.length = 32) : ∃ x0 x1 x2 x3 x4 x5 x6 x7 x8 x9 x10 x11 x12 x13 x14 x15 x16 x17 x18 x19 x20 x21 x22 x23 x24 x25 x26 x27 x28 x29 x30 x31, l = [x0, x1, x2, x3, x4, x5, x6, x7, x8, x9, x10, x11, x12, x13, x14, x15, x16, x17, x18, x19, x20, x21, x22, x23, x24, x25, x26, x27, x28, x29, x30, x31] := by
  match l, h with
  | [x0, x1, x2, x3, x4, x5, x6, x7, x8, x9, x10, x11, x12, x13, x14, x15, x16, x17, x18, x19, x20, x21, x22, x23, x24, x25, x26, x27, x28, x29, x30, x31], _ => exact ⟨x0, x1, x2, x3, x4, x5, x6, x7, x8, x9, x10, x11, x12, x13, x14, x15, x16, x17, x18, x19, x20, x21, x22, x23, x24, x25, x26, x27, x28, x29, x30, x31, rfl⟩

theorem built_list (ep vo tg : Int) (s : Option Addr) (len cap : Nat) (x0 x1 x2 x3 x4 x5 x6 x7 x8 x9 x10 x11 x12 x13 x14 x15 x16 x17 x18 x19 x20 x21 x22 x23 x24 x25 x26 x27 x28 x29 x30 x31 : Value) :
    Try.prog.built 29 [(0, .int .u64 ep), (1, .agg #[x0, x1, x2, x3, x4, x5, x6, x7, x8, x9, x10, x11, x12, x13, x14, x15, x16, x17, x18, x19, x20, x21, x22, x23, x24, x25, x26, x27, x28, x29, x30, x31]), (2, .int .i64 vo), (3, .int .u8 tg), (4, .slice s len cap)] = some #[.int .u64 ep, x0, x1, x2, x3, x4, x5, x6, x7, x8, x9, x10, x11, x12, x13, x14, x15, x16, x17, x18, x19, x20, x21, x22, x23, x24, x25, x26, x27, x28, x29, x30, x31, .int .i64 vo, .int .u8 tg, .slice s len cap] := by
  kernel_rfl

theorem built_vote (ep vo tg : Int) (cs : Array Value) (s : Option Addr) (len cap : Nat) (h : cs.size = 32) :
    Try.prog.built 29 [(0, .int .u64 ep), (1, .agg cs), (2, .int .i64 vo), (3, .int .u8 tg), (4, .slice s len cap)] = some (vote ep cs vo tg s len cap) := by
  obtain ⟨x0, x1, x2, x3, x4, x5, x6, x7, x8, x9, x10, x11, x12, x13, x14, x15, x16, x17, x18, x19, x20, x21, x22, x23, x24, x25, x26, x27, x28, x29, x30, x31, e⟩ := list32 (l := cs.toList) (by simpa using h)
  have hc : cs = #[x0, x1, x2, x3, x4, x5, x6, x7, x8, x9, x10, x11, x12, x13, x14, x15, x16, x17, x18, x19, x20, x21, x22, x23, x24, x25, x26, x27, x28, x29, x30, x31] := by rw [← Array.toArray_toList (xs := cs), e]
  have hv : vote ep cs vo tg s len cap = #[.int .u64 ep, x0, x1, x2, x3, x4, x5, x6, x7, x8, x9, x10, x11, x12, x13, x14, x15, x16, x17, x18, x19, x20, x21, x22, x23, x24, x25, x26, x27, x28, x29, x30, x31, .int .i64 vo, .int .u8 tg, .slice s len cap] := by rw [hc]; simp [vote]
  rw [hv, hc]
  exact built_list ep vo tg s len cap x0 x1 x2 x3 x4 x5 x6 x7 x8 x9 x10 x11 x12 x13 x14 x15 x16 x17 x18 x19 x20 x21 x22 x23 x24 x25 x26 x27 x28 x29 x30 x31

theorem vote_size (ep vo tg : Int) (cs : Array Value) (s : Option Addr) (len cap : Nat) (h : cs.size = 32) : (vote ep cs vo tg s len cap).size = 36 := by
  simp [vote, h]

theorem vote_head (ep vo tg : Int) (cs : Array Value) (s : Option Addr) (len cap : Nat) : (vote ep cs vo tg s len cap)[0]? = some (.int .u64 ep) := by
  simp [vote, Array.getElem?_append]

theorem vote_one (ep vo tg : Int) (cs : Array Value) (s : Option Addr) (len cap : Nat) (h : cs.all (·.oneCell') = true) : (vote ep cs vo tg s len cap).all (·.oneCell') = true := by
  simp [vote, Value.oneCell'] at h ⊢
  exact h

/-- A Vote of which the epoch alone is given. -/
def bare (ep : Int) : Array Value := #[.int .u64 ep, .int .u8 0, .int .u8 0, .int .u8 0, .int .u8 0, .int .u8 0, .int .u8 0, .int .u8 0, .int .u8 0, .int .u8 0, .int .u8 0, .int .u8 0, .int .u8 0, .int .u8 0, .int .u8 0, .int .u8 0, .int .u8 0, .int .u8 0, .int .u8 0, .int .u8 0, .int .u8 0, .int .u8 0, .int .u8 0, .int .u8 0, .int .u8 0, .int .u8 0, .int .u8 0, .int .u8 0, .int .u8 0, .int .u8 0, .int .u8 0, .int .u8 0, .int .u8 0, .int .i64 0, .int .u8 0, .slice none 0 0]

theorem bare_built (ep : Int) : Try.prog.built 29 [(0, .int .u64 ep)] = some (bare ep) := by kernel_rfl
theorem bare_size (ep : Int) : (bare ep).size = 36 := rfl
theorem bare_head (ep : Int) : (bare ep)[0]? = some (.int .u64 ep) := rfl

end Go.Proofs.Qxb6612615a
