import Derived.Test.Qxb6612615aVote
namespace Go.Proofs.Qxb6612615a
open Go.RowKit

theorem sgn_self (x : Int) : sgn x x = 0 := by simp [sgn]
theorem sgn_swap (x y : Int) : sgn y x = -sgn x y := by unfold sgn; split <;> split <;> (try split) <;> omega
theorem sgn_bounds (x y : Int) : -1 ≤ sgn x y ∧ sgn x y ≤ 1 := by unfold sgn; split <;> (try split) <;> omega

/-- A struct built of given parts, whatever the cells of one of them: what the operation lays is what 'built' gives. -/
theorem wpList_built {P : Program} {ops : Array Oper} {rest : List Oper} {o : Oper} {a : Act} {w : World} {Q : Exit → Act → World → Prop} {vals : List (Nat × Value)} {cells : Array Value} {t : TypeId}
    (hf : P.built t vals = some cells) (hg : o.guard = none) (parts : Array (Nat × Operand)) (ho : o.op = .build t parts)
    (hv : parts.toList.map (fun p => (p.1, a.eval p.2)) = vals)
    (h : wpList P ops Q rest (a.put o.dst (.agg cells)) w) : wpList P ops Q (o :: rest) a w := by
  have e : (parts.map fun (i, x) => (i, a.eval x)).toList = vals := by rw [Array.toList_map]; exact hv
  refine wpList_build hg t parts ho (by rw [e, hf]; rfl) ?_
  rw [e, hf]
  exact h

set_option maxHeartbeats 1000000 in
theorem law_any (ep vo tg ep2 : Int) (cs : Array Value) (s : Option Addr) (len cap : Nat) (w : World) (hl : len ≤ maxLen) (hz : cs.size = 32) (h1 : cs.all (·.oneCell') = true) :
    Calls Try.prog 3 #[.int .u64 ep, .agg cs, .int .i64 vo, .int .u8 tg, .slice s len cap, .int .u64 ep2] w fun e w' =>
      e = .returned (.bool true) ∧ Below w.heap.size w w' := by
  have hi : Hid ((Try.prog.info? 23).map (·.size) = some cs.size) := by show _ = _; rw [hz]; exact info23
  have ho : Hid ((vote ep cs vo tg s len cap).all (·.oneCell') = true) := vote_one ep vo tg cs s len cap h1
  have hv : Hid ((vote ep cs vo tg s len cap).size = 36) := vote_size ep vo tg cs s len cap hz
  have hh : Hid ((vote ep cs vo tg s len cap)[0]? = some (.int .u64 ep)) := vote_head ep vo tg cs s len cap
  have hb : Hid (Try.prog.built 29 [(0, .int .u64 ep), (1, .agg cs), (2, .int .i64 vo), (3, .int .u8 tg), (4, .slice s len cap)] = some (vote ep cs vo tg s len cap)) := built_vote ep vo tg cs s len cap hz
  have hi9 : Hid ((Try.prog.info? 29).map (·.size) = some (vote ep cs vo tg s len cap).size) := by show _ = _; rw [hv.out]; exact info29
  clear hz h1
  generalize hvs : vote ep cs vo tg s len cap = vs at *
  clear hvs
  go_enter Try.func3, Try.ntmps3
  go_wp2_with (refine wpList_load_row rfl 23 _ rfl _ rfl 23 cs (0, 0) _ (heap_alloc_new w _) Try.underlying23 rfl hi.out ?_)
  refine (bytes_any _ _ _ _ _ _ _ _ _ hl).mono ?_
  rintro e w2 ⟨⟨b, rfl, hlen⟩, hw⟩
  have B2 : Below w.heap.size w w2 := by rw [hw]; exact ((Below.refl _ _).alloc (Nat.le_refl _) _).alloc (by simp) _
  have G2 : w2.heap[w.heap.size]? = some (.cells cs 23 (0, 0)) := by rw [hw]; exact heap_alloc2_old w _ _
  have HB2 : Hid (Below w.heap.size w w2) := B2
  have HG2 : Hid (w2.heap[w.heap.size]? = some (.cells cs 23 (0, 0))) := G2
  clear hw B2 G2 hl
  cases b
  · clear hlen
    go_wp2_with fail
    go_ret
    exact ⟨rfl, HB2.out⟩
  have hlen' := hlen rfl
  clear hlen
  go_wp2_with fail
  refine (sign_any _ _ _).mono ?_
  rintro e w' ⟨rfl, rfl⟩
  go_wp2_with (first | (refine wpList_load_row rfl 23 _ rfl _ rfl 23 cs (0, 0) _ HG2.out Try.underlying23 rfl hi.out ?_) | (refine wpList_built hb.out rfl _ rfl rfl ?_) | (refine wpList_store_row rfl 29 _ _ rfl _ vs rfl rfl 29 _ (heap_alloc_last _ _) hi9.out hv.out.symm ho.out ?_; rw [World.setRow_alloc_new]) | (refine wpList_load_row rfl 29 _ rfl _ rfl 29 vs (0, 0) _ (heap_alloc_last _ _) Try.underlying29 rfl hi9.out ?_))
  refine (zz_any vs ep ep2 _ hh.out hv.out).mono ?_
  rintro e w3 ⟨rfl, B3⟩
  have HG3 : Hid (w3.heap[w'.heap.size]? = some (.cells vs 29 (0, 0))) := (B3.block w'.heap.size (by simp)).trans (heap_alloc_last w' _)
  have hs3 : w'.heap.size < w3.heap.size := by have := B3.size; simp at this; omega
  have HB3 : Hid (Below w.heap.size w w3) := (HB2.out.alloc HB2.out.size _).trans (B3.mono (by have := HB2.out.size; simp; omega))
  clear B3 HG2 HB2
  go_wp2_with (refine wpList_built (bare_built ep) rfl _ rfl rfl ?_)
  refine (zz_any (bare ep) ep ep2 _ (bare_head ep) (bare_size ep)).mono ?_
  rintro e w4 ⟨rfl, B4⟩
  have HG4 : Hid (w4.heap[w'.heap.size]? = some (.cells vs 29 (0, 0))) := (B4.block w'.heap.size hs3).trans HG3.out
  have hs4 : w'.heap.size < w4.heap.size := by have := B4.size; omega
  have HB4 : Hid (Below w.heap.size w w4) := HB3.out.trans (B4.mono HB3.out.size)
  clear B4 HG3 HB3 hs3
  go_wp2_with (refine wpList_built (bare_built ep2) rfl _ rfl rfl ?_)
  refine (zz_any (bare ep2) ep2 ep _ (bare_head ep2) (bare_size ep2)).mono ?_
  rintro e w5 ⟨rfl, B5⟩
  have HG5 : Hid (w5.heap[w'.heap.size]? = some (.cells vs 29 (0, 0))) := (B5.block w'.heap.size hs4).trans HG4.out
  have HB5 : Hid (Below w.heap.size w w5) := HB4.out.trans (B5.mono HB4.out.size)
  clear B5 HG4 HB4 hs4
  go_wp2_with (refine wpList_load_row rfl 29 _ rfl _ rfl 29 vs (0, 0) _ HG5.out Try.underlying29 rfl hi9.out ?_)
  refine (zz_any vs ep ep _ hh.out hv.out).mono ?_
  rintro e w6 ⟨rfl, B6⟩
  have HB6 : Hid (Below w.heap.size w w6) := HB5.out.trans (B6.mono HB5.out.size)
  clear B6 HG5 HB5
  have e1 := sgn_self ep
  have e2 := sgn_swap ep ep2
  obtain ⟨b1, b2⟩ := sgn_bounds ep ep2
  go_wp2_with fail
  go_ret
  exact ⟨rfl, HB6.out⟩

end Go.Proofs.Qxb6612615a
