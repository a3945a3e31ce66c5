import Derived.Test.Qxb6605564aB
namespace Go.Proofs.Qxb6605564a
open Go.RowKit

theorem isEmpty_eq {v : ByteArray} (h : v.toList.isEmpty = true) : v = ⟨#[]⟩ := by
  apply ba_ext
  rw [Lib.toList_data] at h
  simpa using h

theorem grown_trans {a b c : World} (h : Grown a b) (k : Grown b c) : Grown a c :=
  ⟨World.keptBut_trans h.1 (World.keptBut_mono (fun _ f => f.elim) k.1), fun x => (k.2.1 x).trans (h.2.1 x), Nat.le_trans h.2.2 k.2.2⟩

theorem zb7 (s : ByteArray) (w : World) : Calls Try.prog 7 #[.string s] w fun e w' => ∃ b, e = .returned (.bool b) ∧ w' = w := by
  go_enter Try.func7, Try.ntmps7
  go_wp2
  all_goals go_ret
  all_goals exact ⟨_, rfl, rfl⟩
theorem zb11 (s : ByteArray) (w : World) : Calls Try.prog 11 #[.string s] w fun e w' => ∃ b, e = .returned (.bool b) ∧ w' = w := by
  go_enter Try.func11, Try.ntmps11
  go_wp2
  all_goals go_ret
  all_goals exact ⟨_, rfl, rfl⟩
theorem zb13 (s t : ByteArray) (x : Bool) (w : World) : Calls Try.prog 13 #[.string s, .string t, .bool x] w fun e w' => ∃ b, e = .returned (.bool b) ∧ w' = w := by
  go_enter Try.func13, Try.ntmps13
  go_wp2
  all_goals go_ret
  all_goals exact ⟨_, rfl, rfl⟩

theorem law2_big (s : ByteArray) (w : World) (h : 1048576 < s.size) :
    Calls Try.prog 4 #[.string s] w fun e w' => e = .returned (.bool true) ∧ Grown w w' := by
  go_enter Try.func4, Try.ntmps4
  go_wp2_with (go_at_call 11; refine (zb11 _ _).mono ?_; rintro e w' ⟨b, rfl, rfl⟩; cases b)
  all_goals go_ret
  all_goals exact ⟨rfl, Grown.refl _⟩

theorem law2_none (s : ByteArray) (w : World) (h : s.size ≤ 1048576) (hn : noC s.data.toList) :
    Calls Try.prog 4 #[.string s] w fun e w' => e = .returned (.bool true) ∧ Grown w w' := by
  have HN := hid hn
  clear hn
  go_enter Try.func4, Try.ntmps4
  go_wp2_with (first | (go_at_call 11; refine (zb11 _ _).mono ?_; rintro e w' ⟨b, rfl, hw⟩; obtain rfl := hw.symm; cases b) | (go_at_call 8; refine (parse_none _ _ HN.out).mono ?_; rintro e w1 ⟨rfl, g1⟩; replace g1 := hid g1) | (go_at_call 12; refine (str_high _ _).mono ?_; rintro e w2 ⟨rfl, g2⟩; replace g2 := hid g2))
  all_goals go_ret
  · exact ⟨rfl, Grown.refl _⟩
  · exact ⟨ret_bool (by simp), grown_trans g1.out g2.out⟩

/-- s is p, a colon, v, and no colon stands in p; x: is v empty? -/
def At (s p v : ByteArray) (x : Bool) : Prop := s = p ++ ⟨#[58]⟩ ++ v ∧ noC p.data.toList ∧ v.toList.isEmpty = x ∧ s.size ≤ 4194304
theorem At.sizes {s p v : ByteArray} {x : Bool} (h : At s p v x) : p.size ≤ 4194304 ∧ v.size ≤ 4194304 := by
  have hz := cat_size p v
  have h1 := h.2.2.2
  rw [h.1, hz] at h1
  omega
theorem parse_at (s p v : ByteArray) (x : Bool) (w : World) (h : At s p v x) :
    Calls Try.prog 8 #[.string s] w fun e w' => e = .returned (.agg #[.string p, .string v, .bool x]) ∧ Grown w w' := by
  have hz := h.sizes
  obtain ⟨rfl, hn, hx, _⟩ := h
  cases x with
  | false => exact parse_ver p v w hn hz.1 hx
  | true => obtain rfl := isEmpty_eq hx; exact parse_col p w hn hz.1
theorem str_at (s p v : ByteArray) (x y : Bool) (w : World) (h : At s p v x) (hy : x = true → y = true) :
    Calls Try.prog 12 #[.agg #[.string p, .string v, .bool y]] w fun e w' => e = .returned (.string s) ∧ Grown w w' := by
  have hz := h.sizes
  obtain ⟨rfl, hn, hx, _⟩ := h
  cases x with
  | false => exact str_ver p v y w hz.1 hz.2 hx
  | true => obtain rfl := isEmpty_eq hx; obtain rfl := hy rfl; exact str_col p w hz.1
theorem hasC_of (s p v : ByteArray) (x : Bool) (w : World) (h : At s p v x) :
    Calls Try.prog 9 #[.string s] w fun e w' => e = .returned (.bool true) ∧ w' = w := by
  obtain ⟨rfl, _, _, hz⟩ := h
  exact hasC_yes p v w (by unfold maxLen; omega)

theorem law2_at (s p v : ByteArray) (x : Bool) (w : World) (h : s.size ≤ 1048576) (ha : At s p v x) :
    Calls Try.prog 4 #[.string s] w fun e w' => e = .returned (.bool true) ∧ Grown w w' := by
  have HA := hid ha
  clear ha
  go_enter Try.func4, Try.ntmps4
  go_wp2_with (first | (go_at_call 11; refine (zb11 _ _).mono ?_; rintro e w' ⟨b, rfl, hw⟩; obtain rfl := hw.symm; cases b) | (go_at_call 8; refine (parse_at _ p v x _ HA.out).mono ?_; rintro e w1 ⟨rfl, g1⟩; replace g1 := hid g1) | (go_at_call 12; refine (str_at s _ _ x _ _ HA.out (fun h => h)).mono ?_; rintro e w2 ⟨rfl, g2⟩; replace g2 := hid g2))
  all_goals go_ret
  · exact ⟨rfl, Grown.refl _⟩
  · exact ⟨ret_bool (by simp), grown_trans g1.out g2.out⟩

theorem parts_at (s : ByteArray) (h : s.size ≤ 4194304) : noC s.data.toList ∨ ∃ p v x, At s p v x := by
  rcases parts_ba s with hn | ⟨p, v, hs, hp⟩
  · exact .inl hn
  · exact .inr ⟨p, v, _, hs, hp, rfl, h⟩

theorem law2 (s : ByteArray) (_w0 : s.size ≤ maxLen) (w : World) :
    Calls Try.prog 4 #[.string s] w fun e w' => e = .returned (.bool true) ∧ Grown w w' := by
  by_cases h : 1048576 < s.size
  · exact law2_big s w h
  · rcases parts_at s (by omega) with hn | ⟨p, v, x, ha⟩
    · exact law2_none s w (by omega) hn
    · exact law2_at s p v x w (by omega) ha
end Go.Proofs.Qxb6605564a
