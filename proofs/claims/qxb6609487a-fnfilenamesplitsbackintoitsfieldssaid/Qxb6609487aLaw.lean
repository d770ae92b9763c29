import Derived.Test.Qxb6609487aPlain
namespace Go.Proofs.Qxb6609487a
open Go.RowKit

theorem grown_box (w : World) (c : Array Value) (t : TypeId) (n : Nat) : Grown w ((w.alloc (.cells c t)).drewN n) :=
  show Grown w (w.alloc (.cells c t)) from (Grown.refl w).alloc c t

set_option maxHeartbeats 1000000 in
set_option maxRecDepth 100000 in
theorem law_any (a0 a1 a2 a3 a4 a5 a6 a7 a8 a9 : ByteArray) (w : World) (w0 : a0.size ≤ maxLen) (w1 : a1.size ≤ maxLen) (w2 : a2.size ≤ maxLen) (w3 : a3.size ≤ maxLen) (w4 : a4.size ≤ maxLen) (w5 : a5.size ≤ maxLen) (w6 : a6.size ≤ maxLen) (w7 : a7.size ≤ maxLen) (w8 : a8.size ≤ maxLen) (w9 : a9.size ≤ maxLen) :
    Calls Try.prog 3 #[.string a0, .string a1, .string a2, .string a3, .string a4, .string a5, .string a6, .string a7, .string a8, .string a9] w fun e w' => e = .returned (.bool true) ∧ Grown w w' := by
  go_enter Try.func3, Try.ntmps3
  go_wp2_with fail
  refine (bytes_any a0 a1 a2 a3 a4 a5 a6 a7 a8 a9 _ w0 w1 w2 w3 w4 w5 w6 w7 w8 w9).mono ?_
  rintro e w' ⟨⟨b, rfl, hb⟩, rfl⟩
  clear w0 w1 w2 w3 w4 w5 w6 w7 w8 w9
  cases b
  · clear hb
    go_wp2_with fail
    go_ret
    exact ⟨rfl, Grown.refl _⟩
  have hsum := hb rfl
  clear hb
  go_wp2_with fail
  refine (has_any a0 _ (by omega)).mono ?_
  rintro e w' ⟨rfl, rfl⟩
  cases h0 : hasU a0
  case true =>
    go_wp2_with fail
    go_ret
    exact ⟨rfl, Grown.refl _⟩
  have H0 : Hid (hasU a0 = false) := h0
  clear h0
  go_wp2_with fail
  refine (has_any a1 _ (by omega)).mono ?_
  rintro e w' ⟨rfl, rfl⟩
  cases h1 : hasU a1
  case true =>
    go_wp2_with fail
    go_ret
    exact ⟨rfl, Grown.refl _⟩
  have H1 : Hid (hasU a1 = false) := h1
  clear h1
  go_wp2_with fail
  refine (fileName_any a0 a1 a2 _ _ ?ha ?hb ?hc (by omega)).mono ?_
  case ha => simp [go_sem]
  case hb => simp [go_sem]
  case hc => simp [go_sem]
  rintro e w1 ⟨rfl, n, rfl⟩
  have zn := name_size a0 a1 a2
  have zr := rest_size a1 a2
  have zt := tail_size a2
  obtain ⟨⟨n1, n2⟩, n3, n4, n5⟩ := split_at (name_list a0 a1 a2)
  obtain ⟨⟨r1, r2⟩, r3, r4, r5⟩ := split_at (rest_list a1 a2)
  obtain ⟨t1, t2⟩ := tail_cut a2
  have N2 : Hid _ := n2
  have N3 : Hid _ := n3
  have R2 : Hid _ := r2
  have R3 : Hid _ := r3
  clear n2 n3 r2 r3
  rw [zn] at n5
  rw [zr] at r5
  go_wp2_with fail
  refine (index_at (name a0 a1 a2) a0.size _ (by omega) n1 N2.out ?hno).mono ?_
  case hno => intro j hj hp; rw [N3.out j hj hp]; exact hasU_false H0.out j hp
  rintro e w2 ⟨rfl, rfl⟩
  go_wp2_with fail
  refine (index_at (rest a1 a2) a1.size _ (by omega) r1 R2.out ?hno).mono ?_
  case hno => intro j hj hp; rw [R3.out j hj hp]; exact hasU_false H1.out j hp
  rintro e w2 ⟨rfl, rfl⟩
  go_wp2_with fail
  go_ret
  exact ⟨rfl, grown_box _ _ _ _⟩

end Go.Proofs.Qxb6609487a
