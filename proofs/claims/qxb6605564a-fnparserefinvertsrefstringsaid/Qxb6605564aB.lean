import Derived.Test.Qxb6605564aA
namespace Go.Proofs.Qxb6605564a
open Go.RowKit

theorem cut_none (s : ByteArray) (w : World) (h : noC s.data.toList) :
    Calls Try.prog 16 #[.string s, .string ⟨#[58]⟩] w fun e w' => e = .returned (.tuple #[.string s, .string ⟨#[]⟩, .bool false]) ∧ w' = w := by
  have HH := hid h
  clear h
  go_enter Try.func16, Try.ntmps16
  go_wp2_with (go_at_call 18; refine (cutlite_none _ _ HH.out).mono ?_; rintro e w' ⟨rfl, rfl⟩)
  go_ret3
  exact ⟨rfl, rfl⟩
theorem cut_some (p v : ByteArray) (w : World) (h : noC p.data.toList) (hpz : p.size ≤ 4194304) :
    Calls Try.prog 16 #[.string (p ++ ⟨#[58]⟩ ++ v), .string ⟨#[58]⟩] w fun e w' => e = .returned (.tuple #[.string p, .string v, .bool true]) ∧ ∃ n, w' = w.drewN n := by
  have HH := hid h
  clear h
  go_enter Try.func16, Try.ntmps16
  go_wp2_with (go_at_call 18; refine (cutlite_some _ _ _ HH.out hpz).mono ?_; rintro e w' ⟨rfl, n, rfl⟩)
  go_ret3
  exact ⟨rfl, _, rfl⟩

set_option maxHeartbeats 400000 in
theorem hasC_no (s : ByteArray) (w : World) (h : noC s.data.toList) (hs : s.size ≤ maxLen) :
    Calls Try.prog 9 #[.string s] w fun e w' => e = .returned (.bool false) ∧ w' = w := by
  have HH := hid h
  clear h
  unfold maxLen at hs
  go_enter Try.func9, Try.ntmps9
  go_wp2
  go_loop [3] (fun i => ∃ k : Nat, k ≤ s.size ∧ i = .int .i64 k) (fun i => s.size - (intOf i).toNat)
  case atStart => exact ⟨0, Nat.zero_le _, rfl⟩
  case round =>
    obtain ⟨k, hk, rfl⟩ := hrel
    by_cases hlt : k < s.size
    · have hne : ((s[k].toNat : Int) == 58) = false := by
        rw [beq_eq_false_iff_ne]
        intro hc
        have hm : s[k] ∈ s.data.toList := List.mem_iff_getElem.2 ⟨k, by simpa using hlt, rfl⟩
        refine HH.out _ hm ?_
        apply UInt8.toNat_inj.1
        show s[k].toNat = 58
        omega
      go_wp2
      go_round
      case rel => exact ⟨k + 1, by omega, by go_num⟩
      case measure => simp [intOf]; omega
    · go_wp2
      go_ret
      exact ⟨rfl, rfl⟩
set_option maxHeartbeats 400000 in
theorem hasC_at (s : ByteArray) (q : Nat) (w : World) (hq : q < s.size) (hget : s[q] = 58) (hs : s.size ≤ maxLen) :
    Calls Try.prog 9 #[.string s] w fun e w' => e = .returned (.bool true) ∧ w' = w := by
  have HH : Hid (∀ k (hk : k < s.size), k = q → s[k] = 58) := by rintro k hk rfl; exact hget
  clear hget
  unfold maxLen at hs
  go_enter Try.func9, Try.ntmps9
  go_wp2
  go_loop [3] (fun i => ∃ k : Nat, k ≤ q ∧ i = .int .i64 k) (fun i => s.size - (intOf i).toNat)
  case atStart => exact ⟨0, Nat.zero_le _, rfl⟩
  case round =>
    obtain ⟨k, hk, rfl⟩ := hrel
    have hlt : k < s.size := by omega
    by_cases hkp : k = q
    · have hne : ((s[k].toNat : Int) == 58) = true := by rw [HH.out k hlt hkp]; rfl
      have HK := hid hkp
      clear hkp
      go_wp2
      go_ret
      exact ⟨rfl, rfl⟩
    · cases hc : ((s[k].toNat : Int) == 58) with
      | true =>
        go_wp2
        go_ret
        exact ⟨rfl, rfl⟩
      | false =>
        go_wp2
        go_round
        case rel => exact ⟨k + 1, by omega, by go_num⟩
        case measure => simp [intOf]; omega
theorem hasC_yes (p v : ByteArray) (w : World) (hs : (p ++ ⟨#[58]⟩ ++ v).size ≤ maxLen) :
    Calls Try.prog 9 #[.string (p ++ ⟨#[58]⟩ ++ v)] w fun e w' => e = .returned (.bool true) ∧ w' = w := by
  have hz := cat_size p v
  refine hasC_at _ p.size w (by omega) ?_ hs
  have hl := cat_list p v
  have e : (p ++ ⟨#[58]⟩ ++ v)[p.size]'(by omega) = ((p ++ ⟨#[58]⟩ ++ v).data.toList)[p.size]'(by rw [size_list]; omega) := rfl
  rw [e]
  simp only [hl]
  rw [List.getElem_append_right (by rw [size_list]; omega)]
  simp

theorem ret_agg {a b : ByteArray} {x y : Bool} (h : x = y) : Ending.returned (.agg #[.string a, .string b, .bool x]) = .returned (.agg #[.string a, .string b, .bool y]) := by rw [h]

theorem parse_none (s : ByteArray) (w : World) (h : noC s.data.toList) :
    Calls Try.prog 8 #[.string s] w fun e w' => e = .returned (.agg #[.string s, .string ⟨#[]⟩, .bool false]) ∧ Grown w w' := by
  have HH := hid h
  clear h
  go_enter Try.func8, Try.ntmps8
  go_wp2_with (go_at_call 16; refine (cut_none _ _ HH.out).mono ?_; rintro e w' ⟨rfl, rfl⟩)
  exact bodyPost_ret (v := .agg #[.string s, .string ⟨#[]⟩, .bool false]) (by simp [results, Try.results8, go_sem]) rfl ⟨rfl, (Grown.refl _).alloc _ _⟩

theorem grown_drewN {W w : World} (h : Grown W w) (n : Nat) : Grown W (w.drewN n) := h

theorem parse_ver (p v : ByteArray) (w : World) (h : noC p.data.toList) (hpz : p.size ≤ 4194304) (hv : v.toList.isEmpty = false) :
    Calls Try.prog 8 #[.string (p ++ ⟨#[58]⟩ ++ v)] w fun e w' => e = .returned (.agg #[.string p, .string v, .bool false]) ∧ Grown w w' := by
  have HH := hid h
  clear h
  go_enter Try.func8, Try.ntmps8
  go_wp2_with (go_at_call 16; refine (cut_some _ _ _ HH.out hpz).mono ?_; rintro e w' ⟨rfl, n, rfl⟩)
  exact bodyPost_ret (v := .agg #[.string p, .string v, .bool false]) (by simp [results, Try.results8, go_sem]) rfl ⟨rfl, ((((grown_drewN ((Grown.refl _).alloc _ _) n).setCell (by exact Nat.le_refl _) _).setCell (by exact Nat.le_refl _) _).setCell (by exact Nat.le_refl _) _)⟩
theorem parse_col (p : ByteArray) (w : World) (h : noC p.data.toList) (hpz : p.size ≤ 4194304) :
    Calls Try.prog 8 #[.string (p ++ ⟨#[58]⟩ ++ ⟨#[]⟩)] w fun e w' => e = .returned (.agg #[.string p, .string ⟨#[]⟩, .bool true]) ∧ Grown w w' := by
  have HH := hid h
  clear h
  go_enter Try.func8, Try.ntmps8
  go_wp2_with (go_at_call 16; refine (cut_some _ _ _ HH.out hpz).mono ?_; rintro e w' ⟨rfl, n, rfl⟩)
  exact bodyPost_ret (v := .agg #[.string p, .string ⟨#[]⟩, .bool true]) (by simp [results, Try.results8, go_sem]) rfl ⟨rfl, ((((grown_drewN ((Grown.refl _).alloc _ _) n).setCell (by exact Nat.le_refl _) _).setCell (by exact Nat.le_refl _) _).setCell (by exact Nat.le_refl _) _)⟩

theorem emptyV_any (a b : ByteArray) (x : Bool) (w : World) :
    Calls Try.prog 10 #[.agg #[.string a, .string b, .bool x]] w fun e w' => e = .returned (.bool x) ∧ w' = w.alloc (.cells #[.string a, .string b, .bool x] 24) := by
  go_enter Try.func10, Try.ntmps10
  go_wp2
  go_ret
  exact ⟨rfl, rfl⟩
theorem make_any (a b : ByteArray) (x : Bool) (w : World) :
    Calls Try.prog 14 #[.string a, .string b, .bool x] w fun e w' => e = .returned (.agg #[.string a, .string b, .bool x]) ∧ Grown w w' := by
  go_enter Try.func14, Try.ntmps14
  go_wp2
  exact bodyPost_ret (v := .agg #[.string a, .string b, .bool x]) (by simp [results, Try.results14, go_sem]) rfl ⟨rfl, (Grown.refl _).alloc _ _⟩

/-- (Ref).String -/
theorem str_high (a : ByteArray) (w : World) :
    Calls Try.prog 12 #[.agg #[.string a, .string ⟨#[]⟩, .bool false]] w fun e w' => e = .returned (.string a) ∧ Grown w w' := by
  go_enter Try.func12, Try.ntmps12
  go_wp2
  go_ret
  exact ⟨rfl, ((Grown.refl _).alloc _ _).alloc _ _⟩
theorem str_col (a : ByteArray) (w : World) (ha : a.size ≤ 4194304) :
    Calls Try.prog 12 #[.agg #[.string a, .string ⟨#[]⟩, .bool true]] w fun e w' => e = .returned (.string (a ++ ⟨#[58]⟩ ++ ⟨#[]⟩)) ∧ Grown w w' := by
  go_enter Try.func12, Try.ntmps12
  go_wp2
  go_ret
  exact ⟨rfl, ((Grown.refl _).alloc _ _).alloc _ _⟩
theorem str_ver (a v : ByteArray) (x : Bool) (w : World) (ha : a.size ≤ 4194304) (hvs : v.size ≤ 4194304) (hv : v.toList.isEmpty = false) :
    Calls Try.prog 12 #[.agg #[.string a, .string v, .bool x]] w fun e w' => e = .returned (.string (a ++ ⟨#[58]⟩ ++ v)) ∧ Grown w w' := by
  go_enter Try.func12, Try.ntmps12
  go_wp2
  go_ret
  exact ⟨rfl, ((Grown.refl _).alloc _ _).alloc _ _⟩
end Go.Proofs.Qxb6605564a
