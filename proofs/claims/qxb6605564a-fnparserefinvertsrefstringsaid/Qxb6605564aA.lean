import Derived.Test.Qxb6605564aRows
import Derived.Test.Qxb6605564aShelf
import Derived.WalkKit
import Derived.ProofKit
import Derived.WalkSpells
import Derived.WalkLawsBesides
import Derived.Deep.QuietTactic
import Derived.Deep.RegionWith
import Derived.BigQuiet
namespace Go.Proofs.Qxb6605564a
open Go.RowKit

theorem hid {p : Prop} (h : p) : Hid p := h
theorem ret_bool {a b : Bool} (h : a = b) : Ending.returned (.bool a) = .returned (.bool b) := by rw [h]
theorem ret_cut {a a' b b' : ByteArray} {c : Bool} (h : a = a') (h' : b = b') : Ending.returned (.tuple #[.string a, .string b, .bool c]) = .returned (.tuple #[.string a', .string b', .bool c]) := by rw [h, h']

/-- no byte of l is ':' -/
def noC (l : List UInt8) : Prop := ∀ c ∈ l, c ≠ 58
def colon : ByteArray := ⟨#[58]⟩

theorem idx_none : ∀ (l : List UInt8), noC l → Lib.indexByte l 58 = -1
  | [], _ => rfl
  | c :: l, h => by
    have ih := idx_none l (fun x hx => h x (List.mem_cons_of_mem _ hx))
    have hc : (c == (58 : UInt8)) = false := by rw [beq_eq_false_iff_ne]; exact h c List.mem_cons_self
    rw [Lib.indexByte, ih, hc]; rfl
theorem idx_some (r : List UInt8) : ∀ (l : List UInt8), noC l → Lib.indexByte (l ++ 58 :: r) 58 = l.length
  | [], _ => rfl
  | c :: l, h => by
    have ih := idx_some r l (fun x hx => h x (List.mem_cons_of_mem _ hx))
    have hc : (c == (58 : UInt8)) = false := by rw [beq_eq_false_iff_ne]; exact h c List.mem_cons_self
    rw [List.cons_append, Lib.indexByte, ih, hc]
    have h2 : ((l.length : Int) == -1) = false := by rw [beq_eq_false_iff_ne]; omega
    simp [h2]
/-- every string has no colon, or is parted at its first one -/
theorem parts : ∀ (l : List UInt8), noC l ∨ ∃ p v, l = p ++ 58 :: v ∧ noC p
  | [] => .inl (fun c hc => by cases hc)
  | c :: l => by
    by_cases h : c = 58
    · subst h; exact .inr ⟨[], l, rfl, fun c hc => by cases hc⟩
    · rcases parts l with h1 | ⟨p, v, rfl, hp⟩
      · exact .inl (fun x hx => by rcases List.mem_cons.1 hx with rfl | hx'; exact h; exact h1 x hx')
      · exact .inr ⟨c :: p, v, rfl, fun x hx => by rcases List.mem_cons.1 hx with rfl | hx'; exact h; exact hp x hx'⟩

theorem ba_ext {a b : ByteArray} (h : a.data.toList = b.data.toList) : a = b := by
  cases a; cases b; congr 1; exact Array.toList_inj.1 h
theorem cat_list (p v : ByteArray) : (p ++ ⟨#[58]⟩ ++ v).data.toList = p.data.toList ++ 58 :: v.data.toList := by
  simp [ByteArray.data_append]
theorem parts_ba (s : ByteArray) : noC s.data.toList ∨ ∃ p v : ByteArray, s = p ++ ⟨#[58]⟩ ++ v ∧ noC p.data.toList := by
  rcases parts s.data.toList with h | ⟨p, v, h, hp⟩
  · exact .inl h
  · refine .inr ⟨⟨p.toArray⟩, ⟨v.toArray⟩, ba_ext ?_, by simpa using hp⟩
    rw [cat_list, h]
theorem drop_cat (p v : List UInt8) : (p ++ 58 :: v).drop (p.length + 1) = v := by
  rw [List.drop_append]; simp
theorem cat_size (p v : ByteArray) : (p ++ ⟨#[58]⟩ ++ v).size = p.size + 1 + v.size := by
  rw [ByteArray.size_append, ByteArray.size_append]; rfl

theorem cutlite_none (s : ByteArray) (w : World) (h : noC s.data.toList) :
    Calls Try.prog 18 #[.string s, .string ⟨#[58]⟩] w fun e w' => e = .returned (.tuple #[.string s, .string ⟨#[]⟩, .bool false]) ∧ w' = w := by
  have hi := idx_none _ h
  go_enter Try.func18, Try.ntmps18
  go_wp2_with (go_at_call 19; refine (Try.stringslite_Index_one _ _ _).mono ?_; rintro e w' ⟨rfl, rfl⟩)
  go_ret3
  exact ⟨rfl, rfl⟩
theorem size_list (s : ByteArray) : s.data.toList.length = s.size := rfl
theorem slice_to (s p : ByteArray) (n : Nat) (h : s.extract 0 n = p) (hn : n ≤ s.size) (w : World) :
    (Instr.slice 9 (.string s) none (some (.int .i64 (n : Int))) none).run Try.prog w = .ok (.string p) w := by
  rw [run_slice_string_to_if (P := Try.prog) w 9 s .i64 n Try.underlying9, if_pos (by omega), Int.toNat_natCast, h]
theorem slice_from (s v : ByteArray) (n : Nat) (h : s.extract (n + 1) s.size = v) (hn : n + 1 ≤ s.size) (w : World) :
    (Instr.slice 9 (.string s) (some (.int .i64 ((n : Int) + 1))) none none).run Try.prog w = .ok (.string v) w := by
  have e : ((n : Int) + 1).toNat = n + 1 := by omega
  rw [run_slice_string_from_if (P := Try.prog) w 9 s .i64 _ Try.underlying9, if_pos (by omega), e, h]

set_option maxHeartbeats 400000 in
theorem cutlite_some (p v : ByteArray) (w : World) (h : noC p.data.toList) (hpz : p.size ≤ 4194304) :
    Calls Try.prog 18 #[.string (p ++ ⟨#[58]⟩ ++ v), .string ⟨#[58]⟩] w fun e w' => e = .returned (.tuple #[.string p, .string v, .bool true]) ∧ ∃ n, w' = w.drewN n := by
  have hi : Lib.indexByte (p ++ ⟨#[58]⟩ ++ v).data.toList 58 = p.size := by
    rw [cat_list, idx_some _ _ h, size_list]
  have hz := cat_size p v
  obtain ⟨s, hs⟩ : ∃ s, s = p ++ ⟨#[58]⟩ ++ v := ⟨_, rfl⟩
  rw [← hs] at hi hz
  rw [← hs]
  have hl : s.data.toList = p.data.toList ++ 58 :: v.data.toList := by rw [hs, cat_list]
  have h1 : s.extract 0 p.size = p := by
    apply ba_ext; rw [Lib.extract_data, hl, Nat.sub_zero, List.drop_zero, ← size_list, List.take_left']; rfl
  have h2 : s.extract (p.size + 1) s.size = v := by
    apply ba_ext; rw [Lib.extract_to_end, hl, ← size_list, drop_cat]
  have hs1 := slice_to s p p.size h1 (by omega)
  have hs2 := slice_from s v p.size h2 (by omega)
  clear h1 h2 hs h hz hl
  go_enter Try.func18, Try.ntmps18
  go_wp2_with (go_at_call 19; refine (Try.stringslite_Index_one _ _ _).mono ?_; rintro e w' ⟨rfl, rfl⟩)
  go_quiet (fail)
  go_wp2
  go_ret3
  exact ⟨rfl, _, rfl⟩
end Go.Proofs.Qxb6605564a
