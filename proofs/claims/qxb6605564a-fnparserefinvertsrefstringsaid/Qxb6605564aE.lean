import Derived.Test.Qxb6605564aC
namespace Go.Proofs.Qxb6605564a
open Go.RowKit

theorem law3_big (a v : ByteArray) (x : Bool) (w : World) (h : 524288 < a.size ∨ 524288 < v.size) :
    Calls Try.prog 5 #[.string a, .string v, .bool x] w fun e w' => e = .returned (.bool true) ∧ Grown w w' := by
  by_cases h1 : 524288 < a.size
  · go_enter Try.func5, Try.ntmps5
    go_wp2_with (go_at_call 13; refine (zb13 _ _ _ _).mono ?_; rintro e w' ⟨b, rfl, rfl⟩; cases b)
    all_goals go_ret
    all_goals exact ⟨rfl, Grown.refl _⟩
  · have h2 : 524288 < v.size := by omega
    clear h
    go_enter Try.func5, Try.ntmps5
    go_wp2_with (go_at_call 13; refine (zb13 _ _ _ _).mono ?_; rintro e w' ⟨b, rfl, rfl⟩; cases b)
    all_goals go_ret
    all_goals exact ⟨rfl, Grown.refl _⟩

theorem law3_col (a v p r : ByteArray) (x y : Bool) (w : World) (h1 : a.size ≤ 524288) (h2 : v.size ≤ 524288) (ha : At a p r y) :
    Calls Try.prog 5 #[.string a, .string v, .bool x] w fun e w' => e = .returned (.bool true) ∧ Grown w w' := by
  have HA := hid ha
  clear ha
  go_enter Try.func5, Try.ntmps5
  go_wp2_with (first | (go_at_call 13; refine (zb13 _ _ _ _).mono ?_; rintro e w' ⟨b, rfl, rfl⟩; cases b) | (go_at_call 9; refine (hasC_of a p r y _ HA.out).mono ?_; rintro e w2 ⟨rfl, rfl⟩))
  all_goals go_ret
  all_goals exact ⟨rfl, Grown.refl _⟩

set_option maxHeartbeats 1000000 in
theorem law3_high (a : ByteArray) (w : World) (h1 : a.size ≤ 524288) (hn : noC a.data.toList) :
    Calls Try.prog 5 #[.string a, .string ⟨#[]⟩, .bool false] w fun e w' => e = .returned (.bool true) ∧ Grown w w' := by
  have HN := hid hn
  clear hn
  go_enter Try.func5, Try.ntmps5
  go_wp2_with (first | (go_at_call 13; refine (zb13 _ _ _ _).mono ?_; rintro e w' ⟨b, rfl, hw⟩; obtain rfl := hw.symm; cases b) | (go_at_call 9; refine (hasC_no _ _ HN.out (by unfold maxLen; omega)).mono ?_; rintro e w2 ⟨rfl, rfl⟩) | (go_at_call 14; refine (make_any _ _ _ _).mono ?_; rintro e w3 ⟨rfl, g3⟩; replace g3 := hid g3) | (go_at_call 12; refine (str_high _ _).mono ?_; rintro e w4 ⟨rfl, g4⟩; replace g4 := hid g4) | (go_at_call 8; refine (parse_none _ _ HN.out).mono ?_; rintro e w5 ⟨rfl, g5⟩; replace g5 := hid g5) | (go_at_call 10; refine (emptyV_any _ _ _ _).mono ?_; rintro e w6 ⟨rfl, rfl⟩))
  · go_ret
    exact ⟨rfl, Grown.refl _⟩
  · go_ret
    exact ⟨ret_bool (by simp), ((grown_trans (grown_trans g3.out g4.out) g5.out).alloc _ _).alloc _ _⟩

set_option maxHeartbeats 1000000 in
theorem law3_at (s a v : ByteArray) (x y : Bool) (w : World) (h1 : a.size ≤ 524288) (h2 : v.size ≤ 524288) (ha : At s a v y) (hy : y = true → x = true) :
    Calls Try.prog 5 #[.string a, .string v, .bool x] w fun e w' => e = .returned (.bool true) ∧ Grown w w' := by
  have HA := hid ha
  have HY := hid hy
  have hv : v.toList.isEmpty = y := ha.2.2.1
  have hxy : (x && y) = y := by cases y with
    | true => rw [hy rfl]; rfl
    | false => cases x <;> rfl
  clear ha hy
  cases x with
  | true =>
    clear hxy HY
    go_enter Try.func5, Try.ntmps5
    go_wp2_with (first | (go_at_call 13; refine (zb13 _ _ _ _).mono ?_; rintro e w' ⟨b, rfl, hw⟩; obtain rfl := hw.symm; cases b) | (go_at_call 9; refine (hasC_no _ _ HA.out.2.1 (by unfold maxLen; omega)).mono ?_; rintro e w2 ⟨rfl, rfl⟩) | (go_at_call 14; refine (make_any _ _ _ _).mono ?_; rintro e w3 ⟨rfl, g3⟩; replace g3 := hid g3) | (go_at_call 12; refine (str_at s _ _ y _ _ HA.out (fun _ => rfl)).mono ?_; rintro e w4 ⟨rfl, g4⟩; replace g4 := hid g4) | (go_at_call 8; refine (parse_at _ a v y _ HA.out).mono ?_; rintro e w5 ⟨rfl, g5⟩; replace g5 := hid g5) | (go_at_call 10; refine (emptyV_any _ _ _ _).mono ?_; rintro e w6 ⟨rfl, rfl⟩))
    · go_ret
      exact ⟨rfl, Grown.refl _⟩
    · go_ret
      exact ⟨ret_bool (by simp), ((grown_trans (grown_trans g3.out g4.out) g5.out).alloc _ _).alloc _ _⟩
  | false =>
    have hy0 : y = false := by cases y with
      | true => cases HY.out rfl
      | false => rfl
    subst hy0
    clear hxy
    go_enter Try.func5, Try.ntmps5
    go_wp2_with (first | (go_at_call 13; refine (zb13 _ _ _ _).mono ?_; rintro e w' ⟨b, rfl, hw⟩; obtain rfl := hw.symm; cases b) | (go_at_call 9; refine (hasC_no _ _ HA.out.2.1 (by unfold maxLen; omega)).mono ?_; rintro e w2 ⟨rfl, rfl⟩) | (go_at_call 14; refine (make_any _ _ _ _).mono ?_; rintro e w3 ⟨rfl, g3⟩; replace g3 := hid g3) | (go_at_call 12; refine (str_at s _ _ false _ _ HA.out HY.out).mono ?_; rintro e w4 ⟨rfl, g4⟩; replace g4 := hid g4) | (go_at_call 8; refine (parse_at _ a v false _ HA.out).mono ?_; rintro e w5 ⟨rfl, g5⟩; replace g5 := hid g5) | (go_at_call 10; refine (emptyV_any _ _ _ _).mono ?_; rintro e w6 ⟨rfl, rfl⟩))
    · go_ret
      exact ⟨rfl, Grown.refl _⟩
    · go_ret
      exact ⟨ret_bool (by simp), ((grown_trans (grown_trans g3.out g4.out) g5.out).alloc _ _).alloc _ _⟩

theorem law3 (a v : ByteArray) (x : Bool) (w : World) :
    Calls Try.prog 5 #[.string a, .string v, .bool x] w fun e w' => e = .returned (.bool true) ∧ Grown w w' := by
  by_cases h : 524288 < a.size ∨ 524288 < v.size
  · exact law3_big a v x w h
  · rcases parts_at a (by omega) with hn | ⟨p, r, y, ha⟩
    · have hz : (a ++ ⟨#[58]⟩ ++ v).size ≤ 4194304 := by rw [cat_size]; omega
      cases hv : v.toList.isEmpty with
      | false => exact law3_at _ a v x false w (by omega) (by omega) ⟨rfl, hn, hv, hz⟩ (fun h => by cases h)
      | true =>
        cases x with
        | true => exact law3_at _ a v true true w (by omega) (by omega) ⟨rfl, hn, hv, hz⟩ (fun _ => rfl)
        | false =>
          obtain rfl := isEmpty_eq hv
          exact law3_high a w (by omega) hn
    · exact law3_col a v p r x y w (by omega) (by omega) ha
end Go.Proofs.Qxb6605564a
