import Derived.Test.Qxb6605564aC
import Derived.Deep.RegionHeld
namespace Go.Proofs.Qxb6605564a
open Go.RowKit

theorem law1_big (s : ByteArray) (w : World) (h : 1048576 < s.size) :
    Calls Try.prog 3 #[.string s] w fun e w' => e = .returned (.bool true) ∧ Grown w w' := by
  go_enter Try.func3, Try.ntmps3
  go_wp2_with (go_at_call 7; refine (zb7 _ _).mono ?_; rintro e w' ⟨b, rfl, rfl⟩; cases b)
  all_goals go_ret
  all_goals exact ⟨rfl, Grown.refl _⟩

theorem ne_cat (s : ByteArray) : (s.toList == (s ++ ⟨#[58]⟩).toList) = false := by
  rw [beq_eq_false_iff_ne, Lib.toList_data, Lib.toList_data]
  intro h
  have := congrArg List.length h
  simp [ByteArray.data_append] at this

theorem law1_none (s : ByteArray) (w : World) (h : s.size ≤ 1048576) (hn : noC s.data.toList) :
    Calls Try.prog 3 #[.string s] w fun e w' => e = .returned (.bool true) ∧ Grown w w' := by
  have HN := hid hn
  have hne := ne_cat s
  have hsz : ¬ 9223372036854775807 < s.size + 1 := by omega
  clear hn
  go_enter Try.func3, Try.ntmps3
  go_wp2_with (first | (go_at_call 7; refine (zb7 _ _).mono ?_; rintro e w' ⟨b, rfl, hw⟩; obtain rfl := hw.symm; cases b) | (go_at_call 8; refine (parse_none _ _ HN.out).mono ?_; rintro e w1 ⟨rfl, g1⟩; replace g1 := hid g1) | (go_at_call 9; refine (hasC_no _ _ HN.out (by unfold maxLen; omega)).mono ?_; rintro e w2 ⟨rfl, rfl⟩))
  · go_ret
    exact ⟨rfl, Grown.refl _⟩
  go_region_held (fun w' => w'.cell? ⟨w1.heap.size, 0, none⟩ = some (.string s) ∧ w'.cell? ⟨w1.heap.size, 1, none⟩ = some (.string ⟨#[]⟩) ∧ w'.cell? ⟨w1.heap.size, 2, none⟩ = some (.bool false)) (go_keep) (first | (go_at_call 10; refine (emptyV_any _ _ _ _).mono ?_; rintro e w' ⟨rfl, rfl⟩))
  all_goals go_wp2
  all_goals go_ret
  all_goals exact ⟨rfl, ((g1.out.alloc _ _).alloc _ _).drew⟩

theorem at_colon {s p v : ByteArray} {x : Bool} (h : At s p v x) : (s.toList == (p ++ ⟨#[58]⟩).toList) = x := by
  obtain ⟨rfl, _, hx, _⟩ := h
  rw [Lib.toList_data, Lib.toList_data, cat_list]
  have e : (p ++ ⟨#[58]⟩ : ByteArray).data.toList = p.data.toList ++ [58] := by simp [ByteArray.data_append]
  rw [e, ← hx, Lib.toList_data]
  cases v.data.toList with
  | nil => simp
  | cons c l => simp
theorem at_whole {s p v : ByteArray} {x : Bool} (h : At s p v x) : (p ++ ⟨#[58]⟩ ++ v) = s := h.1.symm

set_option maxHeartbeats 1000000 in
theorem law1_at (s p v : ByteArray) (x : Bool) (w : World) (h : s.size ≤ 1048576) (ha : At s p v x) :
    Calls Try.prog 3 #[.string s] w fun e w' => e = .returned (.bool true) ∧ Grown w w' := by
  have HA := hid ha
  have hc := at_colon ha
  have hw := at_whole ha
  have hz := ha.sizes
  obtain ⟨hz1, hz2⟩ := hz
  have HP := hid (hasC_no p · ha.2.1 (by unfold maxLen; omega))
  have hsz : ¬ 9223372036854775807 < p.size + 1 := by omega
  have hsz2 : ¬ 9223372036854775807 < p.size + 1 + v.size := by omega
  clear ha
  go_enter Try.func3, Try.ntmps3
  go_wp2_with (first | (go_at_call 7; refine (zb7 _ _).mono ?_; rintro e w' ⟨b, rfl, hw⟩; obtain rfl := hw.symm; cases b) | (go_at_call 8; refine (parse_at _ p v x _ HA.out).mono ?_; rintro e w1 ⟨rfl, g1⟩; replace g1 := hid g1) | (go_at_call_of 9 p; refine (HP.out _).mono ?_; rintro e w2 ⟨rfl, rfl⟩) | (go_at_call_of 9 s; refine (hasC_of s p v x _ HA.out).mono ?_; rintro e w2 ⟨rfl, rfl⟩))
  · go_ret
    exact ⟨rfl, Grown.refl _⟩
  go_region_held (fun w' => w'.cell? ⟨w1.heap.size, 0, none⟩ = some (.string p) ∧ w'.cell? ⟨w1.heap.size, 1, none⟩ = some (.string v) ∧ w'.cell? ⟨w1.heap.size, 2, none⟩ = some (.bool x)) (go_keep) (first | (go_at_call 10; refine (emptyV_any _ _ _ _).mono ?_; rintro e w' ⟨rfl, rfl⟩))
  all_goals go_wp2
  all_goals go_ret
  all_goals exact ⟨ret_bool (by simp), ((g1.out.alloc _ _).alloc _ _).drew⟩
theorem law1 (s : ByteArray) (_w0 : s.size ≤ maxLen) (w : World) :
    Calls Try.prog 3 #[.string s] w fun e w' => e = .returned (.bool true) ∧ Grown w w' := by
  by_cases h : 1048576 < s.size
  · exact law1_big s w h
  · rcases parts_at s (by omega) with hn | ⟨p, v, x, ha⟩
    · exact law1_none s w (by omega) hn
    · exact law1_at s p v x w (by omega) ha
end Go.Proofs.Qxb6605564a
