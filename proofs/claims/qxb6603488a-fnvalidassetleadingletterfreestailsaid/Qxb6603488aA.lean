import Derived.Test.Qxb6603488aRows
import Derived.Test.Qxb6603488aPlain
import Derived.WalkKit
import Derived.ProofKit
import Derived.WalkSpells
import Derived.WalkLawsBesides
import Derived.Deep.OwnRows
import Derived.Laws.IdiomStrings
namespace Go.Proofs.Qxb6603488a
open Go.RowKit

theorem hid {p : Prop} (h : p) : Hid p := h
theorem ne_empty {s : ByteArray} (h : 0 < s.size) : ¬ s = ByteArray.empty := by rintro rfl; simp at h
theorem size_ne {s : ByteArray} (h : 0 < s.size) : ((s.size : Int) == 0) = false := by rw [beq_eq_false_iff_ne]; omega
theorem size_le {s : ByteArray} {n : Nat} (h : s.size ≤ n) : decide ((n : Int) < (s.size : Int)) = false := by simp; omega
theorem ret_bool {a b : Bool} (h : a = b) : Ending.returned (.bool a) = .returned (.bool b) := by rw [h]

theorem inMask_any (n : Int) (h0 : 0 ≤ n) (h1 : n < 256) (w : World) :
    Calls Try.prog 13 #[.int .u64 287948901175001088, .int .u64 134217726, .int .u8 n] w fun e w' => e = .returned (.bool (okB n)) ∧ w' = w := by
  go_enter Try.func13, Try.ntmps13
  go_wp2
  · go_ret
    exact ⟨ret_bool (tab1' n h0 ‹_›), rfl⟩
  · go_ret
    exact ⟨ret_bool (tab2' n ‹_› ‹_›), rfl⟩
  · go_ret
    exact ⟨ret_bool (okB_big n ‹_›).symm, rfl⟩
theorem isUpper_any (n : Int) (w : World) :
    Calls Try.prog 14 #[.int .u8 n] w fun e w' => e = .returned (.bool (upB n)) ∧ w' = w := by
  go_enter Try.func14, Try.ntmps14
  go_wp2
  all_goals go_ret
  all_goals exact ⟨ret_bool (by unfold upB; rw [Bool.eq_iff_iff]; simp; omega), rfl⟩
theorem isDigit_any (n : Int) (w : World) :
    Calls Try.prog 15 #[.int .u8 n] w fun e w' => e = .returned (.bool (dgB n)) ∧ w' = w := by
  go_enter Try.func15, Try.ntmps15
  go_wp2
  all_goals go_ret
  all_goals exact ⟨ret_bool (by unfold dgB; rw [Bool.eq_iff_iff]; simp; omega), rfl⟩
theorem isLower_any (n : Int) (w : World) :
    Calls Try.prog 16 #[.int .u8 n] w fun e w' => e = .returned (.bool (loB n)) ∧ w' = w := by
  go_enter Try.func16, Try.ntmps16
  go_wp2
  all_goals go_ret
  all_goals exact ⟨ret_bool (by unfold loB; rw [Bool.eq_iff_iff]; simp; omega), rfl⟩

theorem u8_lt (c : UInt8) : (c.toNat : Int) < 256 := by have := c.toNat_lt; omega

set_option maxHeartbeats 400000 in
theorem allIn_any (s : ByteArray) (w : World) (hs : s.size ≤ maxLen) :
    Calls Try.prog 6 #[.int .u64 287948901175001088, .int .u64 134217726, .string s] w fun e w' => e = .returned (.bool (allFrom 0 s.data.toList)) ∧ w' = w := by
  unfold maxLen at hs
  go_enter Try.func6, Try.ntmps6
  go_wp2
  go_loop [7] (fun i => ∃ k : Nat, k ≤ s.size ∧ i = .int .i64 k ∧ Hid (((s.data.toList.take k).drop 0).all okC = true)) (fun i => s.size - (intOf i).toNat)
  case atStart => exact ⟨0, Nat.zero_le _, rfl, hid rfl⟩
  case round =>
    obtain ⟨k, hk, rfl, hall⟩ := hrel
    by_cases hlt : k < s.size
    · have hl : k < s.data.toList.length := by simpa using hlt
      cases hok : okB (s[k].toNat : Int) with
      | true =>
        have HS := hid (all_take_succ s.data.toList okC 0 k (Nat.zero_le _) hl hall.out hok)
        go_wp2_with (go_at_call 13; refine (inMask_any _ (by omega) (u8_lt _) _).mono ?_; rintro e w' ⟨rfl, rfl⟩)
        go_round
        case rel => exact ⟨k + 1, by omega, by go_num, HS⟩
        case measure => simp [intOf]; omega
      | false =>
        have HS := hid (all_drop_false s.data.toList okC 0 k (Nat.zero_le _) hl hok)
        go_wp2_with (go_at_call 13; refine (inMask_any _ (by omega) (u8_lt _) _).mono ?_; rintro e w' ⟨rfl, rfl⟩)
        go_ret
        exact ⟨ret_bool HS.out.symm, rfl⟩
    · go_wp2
      go_ret
      refine ⟨ret_bool ?_, rfl⟩
      have h := hall.out
      rw [List.take_of_length_le (by simp; omega)] at h
      exact h.symm

set_option maxHeartbeats 400000 in
theorem vAsset_long (s : ByteArray) (w : World) (h1 : 16 < s.size) (hs : s.size ≤ maxLen) :
    Calls Try.prog 7 #[.string s] w fun e w' => e = .returned (.bool false) ∧ w' = w := by
  unfold maxLen at hs
  have hne := ne_empty (s := s) (by omega)
  go_enter Try.func7, Try.ntmps7
  go_wp2_with fail
  go_ret
  exact ⟨rfl, rfl⟩

set_option maxHeartbeats 400000 in
theorem vAsset_head (s : ByteArray) (w : World) (h0 : 0 < s.size) (hs : s.size ≤ maxLen) (hh : upB (s[0].toNat : Int) = false) :
    Calls Try.prog 7 #[.string s] w fun e w' => e = .returned (.bool false) ∧ w' = w := by
  unfold maxLen at hs
  have hne := ne_empty h0
  by_cases h1 : 16 < s.size
  · go_enter Try.func7, Try.ntmps7
    go_wp2_with fail
    go_ret
    exact ⟨rfl, rfl⟩
  · go_enter Try.func7, Try.ntmps7
    go_wp2_with (go_at_call 14; refine (isUpper_any _ _).mono ?_; rintro e w' ⟨rfl, rfl⟩)
    go_ret
    exact ⟨rfl, rfl⟩

set_option maxHeartbeats 400000 in
theorem vAsset_short (s : ByteArray) (w : World) (h0 : 0 < s.size) (h1 : s.size ≤ 16) (hh : upB (s[0].toNat : Int) = true) :
    Calls Try.prog 7 #[.string s] w fun e w' => e = .returned (.bool (allFrom 1 s.data.toList)) ∧ w' = w := by
  have hne := size_ne h0
  have hne2 : decide ((16 : Int) < (s.size : Int)) = false := size_le (n := 16) h1
  go_enter Try.func7, Try.ntmps7
  go_wp2_with (go_at_call 14; refine (isUpper_any _ _).mono ?_; rintro e w' ⟨rfl, rfl⟩)
  go_loop [3] (fun i => ∃ k : Nat, 1 ≤ k ∧ k ≤ s.size ∧ i = .int .i64 k ∧ Hid (((s.data.toList.take k).drop 1).all okC = true)) (fun i => s.size - (intOf i).toNat)
  case atStart => exact ⟨1, by omega, by omega, rfl, hid (by simp)⟩
  case round =>
    obtain ⟨k, hk1, hk, rfl, hall⟩ := hrel
    by_cases hlt : k < s.size
    · have hl : k < s.data.toList.length := by simpa using hlt
      have hbd := u8_lt s[k]
      cases hup : upB (s[k].toNat : Int) with
      | true =>
        have HS := hid (all_take_succ s.data.toList okC 1 k hk1 hl hall.out (by show okB (s[k].toNat : Int) = true; rw [okB_eq, hup]; rfl))
        go_wp2_with (go_at_call 14; refine (isUpper_any _ _).mono ?_; rintro e w' ⟨rfl, rfl⟩)
        go_round
        case rel => exact ⟨k + 1, by omega, by omega, by go_num, HS⟩
        case measure => simp [intOf]; omega
      | false =>
        cases hdg : dgB (s[k].toNat : Int) with
        | true =>
          have HS := hid (all_take_succ s.data.toList okC 1 k hk1 hl hall.out (by show okB (s[k].toNat : Int) = true; rw [okB_eq, hup, hdg]; rfl))
          go_wp2_with (first | (go_at_call 14; refine (isUpper_any _ _).mono ?_; rintro e w' ⟨rfl, rfl⟩) | (go_at_call 15; refine (isDigit_any _ _).mono ?_; rintro e w' ⟨rfl, rfl⟩))
          go_round
          case rel => exact ⟨k + 1, by omega, by omega, by go_num, HS⟩
          case measure => simp [intOf]; omega
        | false =>
          have HS := hid (all_drop_false s.data.toList okC 1 k hk1 hl (by show okB (s[k].toNat : Int) = false; rw [okB_eq, hup, hdg]; rfl))
          go_wp2_with (first | (go_at_call 14; refine (isUpper_any _ _).mono ?_; rintro e w' ⟨rfl, rfl⟩) | (go_at_call 15; refine (isDigit_any _ _).mono ?_; rintro e w' ⟨rfl, rfl⟩))
          go_ret
          exact ⟨ret_bool HS.out.symm, rfl⟩
    · go_wp2
      go_ret
      refine ⟨ret_bool ?_, rfl⟩
      have h := hall.out
      rw [List.take_of_length_le (by simp; omega)] at h
      exact h.symm

set_option maxHeartbeats 400000 in
theorem vAccount_yes (s : ByteArray) (w : World) (h0 : 0 < s.size) (h1 : s.size ≤ 128) (hh : loB (s[0].toNat : Int) = true)
    (hr : ∀ k (hk : k < s.size), 1 ≤ k → loB (s[k].toNat : Int) = true ∨ dgB (s[k].toNat : Int) = true) :
    Calls Try.prog 8 #[.string s] w fun e w' => e = .returned (.bool true) ∧ w' = w := by
  have HR := hid (hr)
  clear hr
  have hne := size_ne h0
  have hne2 : decide ((128 : Int) < (s.size : Int)) = false := size_le (n := 128) h1
  go_enter Try.func8, Try.ntmps8
  go_wp2_with (go_at_call 16; refine (isLower_any _ _).mono ?_; rintro e w' ⟨rfl, rfl⟩)
  go_loop [3] (fun i => ∃ k : Nat, 1 ≤ k ∧ k ≤ s.size ∧ i = .int .i64 k) (fun i => s.size - (intOf i).toNat)
  case atStart => exact ⟨1, by omega, by omega, rfl⟩
  case round =>
    obtain ⟨k, hk1, hk, rfl⟩ := hrel
    by_cases hlt : k < s.size
    · have hbd := u8_lt s[k]
      cases hup : loB (s[k].toNat : Int) with
      | true =>
        go_wp2_with (go_at_call 16; refine (isLower_any _ _).mono ?_; rintro e w' ⟨rfl, rfl⟩)
        go_round
        case rel => exact ⟨k + 1, by omega, by omega, by go_num⟩
        case measure => simp [intOf]; omega
      | false =>
        have hdg : dgB (s[k].toNat : Int) = true := by
          rcases HR.out k hlt hk1 with h | h
          · rw [hup] at h; cases h
          · exact h
        go_wp2_with (first | (go_at_call 16; refine (isLower_any _ _).mono ?_; rintro e w' ⟨rfl, rfl⟩) | (go_at_call 15; refine (isDigit_any _ _).mono ?_; rintro e w' ⟨rfl, rfl⟩))
        go_round
        case rel => exact ⟨k + 1, by omega, by omega, by go_num⟩
        case measure => simp [intOf]; omega
    · go_wp2
      go_ret
      exact ⟨rfl, rfl⟩
end Go.Proofs.Qxb6603488a
