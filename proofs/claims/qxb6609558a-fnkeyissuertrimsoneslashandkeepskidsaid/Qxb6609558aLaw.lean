import Derived.Test.Qxb6609558aLeaves
namespace Go.Proofs.Qxb6609558a
open Go.RowKit

set_option maxHeartbeats 400000 in
theorem law_any (a0 a1 : ByteArray) (w : World) (w0 : a0.size ≤ maxLen) (w1 : a1.size ≤ maxLen) :
    Calls Try.prog 3 #[.string a0, .string a1] w fun e w' => e = .returned (.bool true) ∧ w' = w := by
  go_enter Try.func3, Try.ntmps3
  go_wp2_with fail
  refine (bytes_any a0 a1 _ w0 w1).mono ?_
  rintro e w' ⟨⟨b, rfl, hb⟩, rfl⟩
  clear w0 w1
  cases b
  · clear hb
    go_wp2_with fail
    go_ret
    exact ⟨rfl, rfl⟩
  have hsum := hb rfl
  clear hb
  by_cases h0 : 524288 < a0.size
  · go_wp2_with fail
    go_ret
    exact ⟨rfl, rfl⟩
  by_cases h1 : 524288 < a1.size
  · go_wp2_with fail
    go_ret
    exact ⟨rfl, rfl⟩
  have z0 : (a0 ++ (⟨#[47]⟩ : ByteArray)).size = a0.size + 1 := size_append _ _
  go_wp2_with fail
  refine (issuer_any _ _ _ ?x1 ?x2).mono ?_
  case x1 => omega
  case x2 => omega
  rintro e w' ⟨rfl, rfl⟩
  go_wp2_with fail
  refine (issuer_any a0 a1 _ (by omega) (by omega)).mono ?_
  rintro e w' ⟨rfl, rfl⟩
  have f1 := issuer_slash a0 a1
  have f2 := same_just a0 a1
  obtain ⟨m, hm, zi, cut, hlt, at47⟩ := issuer_end a0 a1
  have f3 : (((issuer a0 a1)[m].toNat : Int) == 47) = true := by rw [at47]; rfl
  clear at47
  go_wp2_with fail
  refine (ends_any a0 _ (by omega)).mono ?_
  rintro e w' ⟨rfl, rfl⟩
  go_wp2_with fail
  go_ret
  exact ⟨rfl, rfl⟩

end Go.Proofs.Qxb6609558a
