import Derived.Test.Qxb6609196aA
import Derived.Lib.OthersKept
namespace Go.Proofs.Qxb6609196a
open Go.RowKit

theorem below_iterAt {B : Nat} {a w : World} (h : Below B a w) (k : Nat) (hk : B ≤ k) (s : ByteArray) (p : Nat) : Below B a (w.iterAt k s p) :=
  h.trans ⟨rfl, rfl, rfl, by simp [World.iterAt], fun i hi => by
    simp only [World.iterAt, Array.getElem?_setIfInBounds]
    rw [if_neg (by omega)]⟩
theorem iterAt_at {w : World} {k : Nat} (s : ByteArray) (p : Nat) (hk : k < w.heap.size) : (w.iterAt k s p).heap[k]? = some (.stringIter s p) := by
  simp [World.iterAt, hk]
theorem iterAt_size {w : World} {k : Nat} (s : ByteArray) (p : Nat) : (w.iterAt k s p).heap.size = w.heap.size := by
  simp [World.iterAt]

/-- the iterator over s stands at i in block b, all below b is as it was -/
def Iter (w wx : World) (b : Nat) (s : ByteArray) (i : Nat) : Prop := wx.heap[b]? = some (.stringIter s i) ∧ Below b w wx
theorem Iter.lt {w wx : World} {b : Nat} {s : ByteArray} {i : Nat} (h : Iter w wx b s i) : b < wx.heap.size := (Array.getElem?_eq_some_iff.1 h.1).1
theorem Iter.move {w wx : World} {b : Nat} {s : ByteArray} {i : Nat} (h : Iter w wx b s i) (j : Nat) : Iter w (wx.iterAt b s j) b s j :=
  ⟨iterAt_at s j h.lt, below_iterAt h.2 b (Nat.le_refl _) s j⟩
theorem Iter.below {w wx wy : World} {b : Nat} {s : ByteArray} {i : Nat} (h : Iter w wx b s i) (hb : Below wx.heap.size wx wy) : Iter w wy b s i :=
  ⟨(hb.block b h.lt).trans h.1, h.2.trans (hb.mono (Nat.le_of_lt h.lt))⟩

theorem noAny_skip {s : ByteArray} {i d : Nat} (h : Lib.NoAny s.data.toList [47, 126, 37] i) (hb : ∀ hi : i < s.size, ¬ (s[i]).toNat < 128) (hd : ∀ k (hk : i + k < s.size), 1 ≤ k → k < d → ¬ (s[i + k]).toNat < 128) :
    Lib.NoAny s.data.toList [47, 126, 37] (i + d) := by
  intro j b hj hjb
  by_cases h1 : j < i
  · exact h j b h1 hjb
  · obtain ⟨hlt, hjb'⟩ := List.getElem?_eq_some_iff.1 hjb
    have hjs : j < s.size := hlt
    have hb' : ¬ b.toNat < 128 := by
      rw [← hjb']
      by_cases e : j = i
      · subst e; exact hb hjs
      · obtain ⟨k, rfl⟩ : ∃ k, j = i + k := ⟨j - i, by omega⟩
        exact hd k hjs (by omega) (by omega)
    have n1 : b ≠ 47 := fun e => hb' (by rw [e]; decide)
    have n2 : b ≠ 126 := fun e => hb' (by rw [e]; decide)
    have n3 : b ≠ 37 := fun e => hb' (by rw [e]; decide)
    simp [n1, n2, n3]

/-- IndexRune at whatever rune that decode gives at a high byte -/
theorem indexRune_hi (r : Int) (w : World) (h : 128 ≤ r) (h2 : r ≤ 1114111) :
    Calls Try.prog 35 #[.string ⟨#[47, 126, 37]⟩, .int .i32 r] w fun e w' => e = .returned (.int .i64 (-1)) ∧ Below w.heap.size w w' := by
  by_cases hr : r = 65533
  · subst hr; exact indexRune_err w
  · exact indexRune_high r w h h2 (by rw [beq_eq_false_iff_ne]; exact hr)

set_option maxHeartbeats 2000000 in
set_option maxRecDepth 100000 in
theorem indexAny_short (s : ByteArray) (w : World) (h8 : s.size ≤ 8) :
    Calls Try.prog 34 #[.string s, .string ⟨#[47, 126, 37]⟩] w fun e w' => e = .returned (.int .i64 (Lib.indexAny s.data.toList [47, 126, 37])) ∧ Below w.heap.size w w' := by
  have h8z : decide ((8 : Int) < (s.size : Int)) = false := decide_eq_false (by omega)
  have HI : Hid (∀ wx b i, Iter w wx b s i → ∀ (hi : i < s.size) (ty : TypeId), (Instr.next (.pointer (some ⟨b, 0, none⟩)) true ty).run Try.prog wx = .ok (.tuple #[.bool true, .int .i64 i, .int .i32 (Utf8.decode s i).1]) (wx.iterAt b s (i + (Utf8.decode s i).2))) :=
    fun wx b i h hi ty => Lib.run_next_any_at wx b s i ty h.1 hi
  have HE : Hid (∀ wx b i, Iter w wx b s i → ∀ (hi : ¬ i < s.size) (ty : TypeId), (Instr.next (.pointer (some ⟨b, 0, none⟩)) true ty).run Try.prog wx = .ok (.tuple #[.bool false]) wx) :=
    fun wx b i h hi ty => Lib.run_next_end_at wx b s i ty h.1 hi
  go_enter Try.func34, Try.ntmps34
  go_wp2_with (go_at_call 36; refine (Try.strings_shouldUseASCIISet _ _).mono ?_; rintro e w' ⟨rfl, hw⟩; obtain rfl := hw.symm; rw [h8z])
  go_loopg [9, 10] s.size (fun g _ _ wx => ∃ i : Nat, i + g = s.size ∧ Hid (Iter w wx w.heap.size s i) ∧ Hid (Lib.NoAny s.data.toList [47, 126, 37] i))
  case atStart => exact ⟨0, by omega, hid ⟨World.iter_heap w s 0, (Below.refl _ _).alloc (Nat.le_refl _) _⟩, hid (Lib.NoAny.zero _ _)⟩
  case round =>
    obtain ⟨i, hig, HW, HN⟩ := hrel
    by_cases hi : i < s.size
    · have hnx := HI.out wr w.heap.size i HW.out hi
      by_cases hb : (s[i]).toNat < 128
      · rw [decode_ascii s i hi hb] at hnx
        obtain ⟨x, hx⟩ : ∃ x : UInt8, s[i]'hi = x := ⟨_, rfl⟩
        rw [hx] at hnx hb
        have Hx : Hid (s.data.toList[i]? = some x) := by rw [← hx]; exact Lib.data_getElem? s i hi
        have HM := hid (HW.out.move (i + 1))
        obtain ⟨wy, hwy⟩ : ∃ wy, wy = wr.iterAt w.heap.size s (i + 1) := ⟨_, rfl⟩
        rw [← hwy] at hnx HM
        have hcon := Lib.contains_iff_indexByte [47, 126, 37] x
        have hback : ((x.toNat : Int)).toNat.toUInt8 = x := by simp
        clear hx hwy HI HE
        cases hin : ([47, 126, 37] : List UInt8).contains x
        · rw [hin] at hcon
          have hlt : ¬ ((0 : Int) ≤ Lib.indexByte [47, 126, 37] x) := of_decide_eq_false hcon.symm
          have HIN := hid hin
          clear hcon hin
          go_wp2_with (go_at_call 35; refine (Try.strings_IndexRune_ascii _ _ _ (by omega) (by omega)).mono ?_; rintro e w' ⟨rfl, hw⟩; obtain rfl := hw.symm; rw [hback])
          go_roundg (s.size - (i + 1))
          case measure => omega
          case rel => exact ⟨i + 1, by omega, HM, hid (HN.out.succ Hx.out HIN.out)⟩
        · rw [hin] at hcon
          have hge : (0 : Int) ≤ Lib.indexByte [47, 126, 37] x := of_decide_eq_true hcon.symm
          have HIN := hid hin
          clear hcon hin
          go_wp2_with (go_at_call 35; refine (Try.strings_IndexRune_ascii _ _ _ (by omega) (by omega)).mono ?_; rintro e w' ⟨rfl, hw⟩; obtain rfl := hw.symm; rw [hback])
          go_ret
          exact ⟨by rw [Lib.indexAny_hit HN.out Hx.out HIN.out]; rfl, HM.out.2⟩
      · obtain ⟨r, d, hd, r1, r2, d1, d2, hs⟩ := decode_high s i hi hb
        rw [hd] at hnx
        have HS := hid (noAny_skip HN.out (fun _ => hb) hs)
        have HM := hid (HW.out.move (i + d))
        obtain ⟨wy, hwy⟩ : ∃ wy, wy = wr.iterAt w.heap.size s (i + d) := ⟨_, rfl⟩
        simp only at hnx
        rw [← hwy] at hnx HM
        clear hwy hd hs HI HE
        go_wp2_with (go_at_call 35; refine (indexRune_hi _ _ (by omega) (by omega)).mono ?_; rintro e w1 ⟨rfl, hb1⟩; have HB1 := hid hb1; clear hb1)
        go_roundg (s.size - (i + d))
        case measure => omega
        case rel => exact ⟨i + d, by omega, hid (HM.out.below HB1.out), HS⟩
    · have hnx := HE.out wr w.heap.size i HW.out hi
      clear HI HE
      go_wp2
      go_ret
      have hi' : i = s.size := by omega
      exact ⟨by rw [Lib.indexAny_none (by rw [← Lib.size_eq, ← hi']; exact HN.out)]; rfl, HW.out.2⟩

theorem signs_ascii : ∀ (j : Nat) b, (⟨#[47, 126, 37]⟩ : ByteArray).data.toList[j]? = some b → b.toNat < 128 := by
  intro j b h
  match j, h with
  | 0, h => simp at h; subst h; decide
  | 1, h => simp at h; subst h; decide
  | 2, h => simp at h; subst h; decide
  | j + 3, h => simp at h

theorem zero59 : ∀ w, (zeroValue 59).run Try.prog w = .ok (.agg (Array.replicate 256 (.bool false))) w := fun w => by kernel_rfl

theorem indexAny_any (s : ByteArray) (w : World) (hs : s.size ≤ 4194304) :
    Calls Try.prog 34 #[.string s, .string ⟨#[47, 126, 37]⟩] w fun e w' => e = .returned (.int .i64 (Lib.indexAny s.data.toList [47, 126, 37])) ∧ Below w.heap.size w w' := by
  by_cases h8 : s.size ≤ 8
  · exact indexAny_short s w h8
  · refine (Try.strings_IndexAny_long zero59 s ⟨#[47, 126, 37]⟩ w (by decide) (by omega) (by omega) (by decide) signs_ascii).mono ?_
    rintro e w' ⟨rfl, rfl⟩
    exact ⟨rfl, ((Below.refl _ _).alloc (Nat.le_refl _) _).alloc (by simp) _⟩

theorem containsAny_any (s : ByteArray) (w : World) (hs : s.size ≤ 4194304) :
    Calls Try.prog 27 #[.string s, .string ⟨#[47, 126, 37]⟩] w fun e w' => e = .returned (.bool (Lib.containsAny s.data.toList [47, 126, 37])) ∧ Below w.heap.size w w' := by
  go_enter Try.func27, Try.ntmps27
  go_wp2_with (go_at_call 34; refine (indexAny_any _ _ hs).mono ?_; rintro e w1 ⟨rfl, hb1⟩; have HB1 := hid hb1; clear hb1)
  go_ret
  exact ⟨rfl, HB1.out⟩
end Go.Proofs.Qxb6609196a
