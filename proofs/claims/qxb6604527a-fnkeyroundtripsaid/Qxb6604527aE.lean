import Derived.Test.Qxb6604527aD
namespace Go.Proofs.Qxb6604527a
open Go.RowKit

theorem walk_big (a0 a1 a2 a3 : Option Addr) (n0 c0 n1 c1 n2 c2 n3 c3 : Nat) (w : World) (h : 262144 < n0 ∨ 262144 < n1 ∨ 262144 < n2 ∨ 262144 < n3) :
    Calls Try.prog 4 #[.slice a0 n0 c0, .slice a1 n1 c1, .slice a2 n2 c2, .slice a3 n3 c3] w fun e w' => e = .returned (.bool true) ∧ Below w.heap.size w w' := by
  have HH := hid h
  clear h
  go_enter Try.func4, Try.ntmps4
  go_wp2_with fail
  refine (zb_any _ _ _ _ _ _ _ _ _ _ _ _ _).mono ?_
  rintro e w' ⟨b, rfl, rfl⟩
  cases b
  · go_wp2
    go_ret
    exact ⟨rfl, Below.refl _ _⟩
  · go_wp2
    all_goals first | (go_ret; exact ⟨rfl, Below.refl _ _⟩) | skip
    all_goals (exfalso; have := HH.out; omega)
end Go.Proofs.Qxb6604527a
