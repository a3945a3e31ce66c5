import Derived.Test.Qxb6603488aB
namespace Go.Proofs.Qxb6603488a
open Go.RowKit

theorem zb_yes (s : ByteArray) (w : World) (h : s.size ≤ 1048576) :
    Calls Try.prog 5 #[.string s] w fun e w' => e = .returned (.bool true) ∧ w' = w := by
  go_enter Try.func5, Try.ntmps5
  go_wp2
  go_ret
  exact ⟨rfl, rfl⟩
theorem zb_no (s : ByteArray) (w : World) (h : 1048576 < s.size) :
    Calls Try.prog 5 #[.string s] w fun e w' => e = .returned (.bool false) ∧ w' = w := by
  go_enter Try.func5, Try.ntmps5
  go_wp2
  go_ret
  exact ⟨rfl, rfl⟩

theorem walk_big (a0 : ByteArray) (w : World) (h : 1048576 < a0.size) :
    Calls Try.prog 3 #[.string a0] w fun e w' => e = .returned (.bool true) ∧ Grown w w' := by
  go_enter Try.func3, Try.ntmps3
  go_wp2_with (go_at_call 5; refine (zb_no _ _ h).mono ?_; rintro e w' ⟨rfl, rfl⟩)
  go_ret
  exact ⟨rfl, Grown.refl _⟩
theorem walk_mid (a0 : ByteArray) (w : World) (h : a0.size ≤ 1048576) (h2 : 65536 < a0.size) :
    Calls Try.prog 3 #[.string a0] w fun e w' => e = .returned (.bool true) ∧ Grown w w' := by
  go_enter Try.func3, Try.ntmps3
  go_wp2_with (go_at_call 5; refine (zb_yes _ _ h).mono ?_; rintro e w' ⟨rfl, rfl⟩)
  go_ret
  exact ⟨rfl, Grown.refl _⟩

def vaB (c : UInt8) (a : ByteArray) : Bool := decide (a.size ≤ 15) && upB (c.toNat : Int) && allFrom 0 a.data.toList
theorem cat_size (c : UInt8) (a : ByteArray) : ((⟨#[c]⟩ : ByteArray) ++ a).size = a.size + 1 := by
  rw [ByteArray.size_append]; show 1 + a.size = _; omega
theorem cat_list (c : UInt8) (a : ByteArray) : ((⟨#[c]⟩ : ByteArray) ++ a).data.toList = c :: a.data.toList := by
  rw [ByteArray.data_append]; simp
theorem get_of_list {s : ByteArray} {l : List UInt8} (h : s.data.toList = l) (k : Nat) (hk : k < s.size) : s[k] = l[k]'(by rw [← h]; simpa using hk) := by
  subst h; rfl
theorem va_cat (c : UInt8) (a : ByteArray) (w : World) (ha : a.size ≤ 1048576) :
    Calls Try.prog 7 #[.string (⟨#[c]⟩ ++ a)] w fun e w' => e = .returned (.bool (vaB c a)) ∧ w' = w := by
  have hsz := cat_size c a
  have hpos : 0 < ((⟨#[c]⟩ : ByteArray) ++ a).size := by omega
  have h0 : ((⟨#[c]⟩ : ByteArray) ++ a)[0] = c := get_of_list (cat_list c a) 0 hpos
  by_cases h : a.size ≤ 15
  · cases hc : upB (c.toNat : Int) with
    | true =>
      refine (vAsset_short _ w hpos (by omega) (by rw [h0]; exact hc)).mono ?_
      rintro e w' ⟨rfl, rfl⟩
      refine ⟨ret_bool ?_, rfl⟩
      unfold vaB allFrom
      rw [cat_list, hc]; simp [h]
    | false =>
      refine (vAsset_head _ w hpos (by unfold maxLen; omega) (by rw [h0]; exact hc)).mono ?_
      rintro e w' ⟨rfl, rfl⟩
      exact ⟨ret_bool (by simp [vaB, hc]), rfl⟩
  · refine (vAsset_long _ w (by omega) (by unfold maxLen; omega)).mono ?_
    rintro e w' ⟨rfl, rfl⟩
    exact ⟨ret_bool (by simp [vaB, h]), rfl⟩

theorem vaB_q (a : ByteArray) : vaB 113 a = false := by
  have : upB (((113 : UInt8).toNat : Nat) : Int) = false := by decide
  simp only [vaB, this, Bool.and_false, Bool.false_and]
theorem vaB_7 (a : ByteArray) : vaB 55 a = false := by
  have : upB (((55 : UInt8).toNat : Nat) : Int) = false := by decide
  simp only [vaB, this, Bool.and_false, Bool.false_and]
theorem upB_Q : upB (((81 : UInt8).toNat : Nat) : Int) = true := by decide
theorem vaB_Q (a : ByteArray) (h : a.size ≤ 15) : vaB 81 a = allFrom 0 a.data.toList := by
  simp only [vaB, upB_Q, h, decide_true, Bool.and_true, Bool.true_and]
theorem vaB_Qlong (a : ByteArray) (h : 15 < a.size) : vaB 81 a = false := by
  have : decide (a.size ≤ 15) = false := by simp; omega
  simp only [vaB, this, Bool.false_and]

/-- the lower-cased code is an account name -/
theorem acc_low (a : ByteArray) (w : World) (h : a.size ≤ 15) (hall : allFrom 0 a.data.toList = true) :
    Calls Try.prog 8 #[.string ⟨(lowL ((⟨#[81]⟩ : ByteArray) ++ a).data.toList).toArray⟩] w fun e w' => e = .returned (.bool true) ∧ w' = w := by
  have hL : (⟨(lowL ((⟨#[81]⟩ : ByteArray) ++ a).data.toList).toArray⟩ : ByteArray).data.toList = lowC 81 :: lowL a.data.toList := by
    rw [cat_list]; rfl
  have hsz : (⟨(lowL ((⟨#[81]⟩ : ByteArray) ++ a).data.toList).toArray⟩ : ByteArray).size = a.size + 1 := by
    have : (⟨(lowL ((⟨#[81]⟩ : ByteArray) ++ a).data.toList).toArray⟩ : ByteArray).size = (lowC 81 :: lowL a.data.toList).length := by rw [← hL]; simp [ByteArray.size]
    rw [this]; simp [lowL]
  refine vAccount_yes _ w (by omega) (by omega) ?_ ?_
  · rw [get_of_list hL 0 (by omega)]
    exact loB_low 81 upB_Q
  · intro k hk h1
    rw [get_of_list hL k hk]
    obtain ⟨j, rfl⟩ : ∃ j, k = j + 1 := ⟨k - 1, by omega⟩
    have hj : j < a.data.toList.length := by simp; omega
    have he : (lowC 81 :: lowL a.data.toList)[j + 1]'(by simp [lowL]; omega) = lowC a.data.toList[j] := by
      rw [List.getElem_cons_succ]; exact List.getElem_map ..
    rw [he]
    exact lodg_low _ (all_elem a.data.toList okC 0 j (Nat.zero_le _) hj hall)

set_option maxHeartbeats 400000 in
theorem walk_far (a0 : ByteArray) (w : World) (h : a0.size ≤ 65536) (h2 : 15 < a0.size) :
    Calls Try.prog 3 #[.string a0] w fun e w' => e = .returned (.bool true) ∧ Grown w w' := by
  have e1 := vaB_q a0
  have e2 := vaB_7 a0
  have e3 := vaB_Qlong a0 h2
  go_enter Try.func3, Try.ntmps3
  go_wp2_with (first | (go_at_call 5; refine (zb_yes _ _ (by omega)).mono ?_; rintro e w' ⟨rfl, rfl⟩) | (go_at_call 7; refine (va_cat _ _ _ (by omega)).mono ?_; rintro e w' ⟨rfl, rfl⟩))
  go_ret
  exact ⟨rfl, Grown.refl _⟩
set_option maxHeartbeats 400000 in
theorem walk_bad (a0 : ByteArray) (w : World) (h2 : a0.size ≤ 15) (hall : allFrom 0 a0.data.toList = false) :
    Calls Try.prog 3 #[.string a0] w fun e w' => e = .returned (.bool true) ∧ Grown w w' := by
  have e1 := vaB_q a0
  have e2 := vaB_7 a0
  have e3 := (vaB_Q a0 h2).trans hall
  go_enter Try.func3, Try.ntmps3
  go_wp2_with (first | (go_at_call 5; refine (zb_yes _ _ (by omega)).mono ?_; rintro e w' ⟨rfl, rfl⟩) | (go_at_call 7; refine (va_cat _ _ _ (by omega)).mono ?_; rintro e w' ⟨rfl, rfl⟩) | (go_at_call 6; refine (allIn_any _ _ (by unfold maxLen; omega)).mono ?_; rintro e w' ⟨rfl, rfl⟩))
  go_ret
  exact ⟨rfl, Grown.refl _⟩
set_option maxHeartbeats 400000 in
theorem walk_good (a0 : ByteArray) (w : World) (h2 : a0.size ≤ 15) (hall : allFrom 0 a0.data.toList = true) :
    Calls Try.prog 3 #[.string a0] w fun e w' => e = .returned (.bool true) ∧ Grown w w' := by
  have e1 := vaB_q a0
  have e2 := vaB_7 a0
  have e3 := (vaB_Q a0 h2).trans hall
  have hz := cat_size 81 a0
  go_enter Try.func3, Try.ntmps3
  go_wp2_with (first | (go_at_call 5; refine (zb_yes _ _ (by omega)).mono ?_; rintro e w' ⟨rfl, rfl⟩) | (go_at_call 7; refine (va_cat _ _ _ (by omega)).mono ?_; rintro e w' ⟨rfl, rfl⟩) | (go_at_call 6; refine (allIn_any _ _ (by unfold maxLen; omega)).mono ?_; rintro e w' ⟨rfl, rfl⟩) | (go_at_call 9; refine (lower_any _ _ (by omega)).mono ?_; rintro e w1 ⟨rfl, hg⟩) | (go_at_call 8; refine (acc_low _ _ h2 hall).mono ?_; rintro e w' ⟨rfl, rfl⟩))
  go_ret
  exact ⟨rfl, by assumption⟩

theorem walk (a0 : ByteArray) (_w0 : a0.size ≤ maxLen) (w : World) :
    Calls Try.prog 3 #[.string a0] w fun e w' => e = .returned (.bool true) ∧ Grown w w' := by
  by_cases h1 : 1048576 < a0.size
  · exact walk_big a0 w h1
  by_cases h2 : 65536 < a0.size
  · exact walk_mid a0 w (by omega) h2
  by_cases h3 : 15 < a0.size
  · exact walk_far a0 w (by omega) h3
  cases hall : allFrom 0 a0.data.toList with
  | true => exact walk_good a0 w (by omega) hall
  | false => exact walk_bad a0 w (by omega) hall
end Go.Proofs.Qxb6603488a
