import Derived.Test.Qxb6609196aRows
import Derived.Test.Qxb6609196aShelf
import Derived.WalkKit
import Derived.ProofKit
import Derived.WalkSpells
import Derived.WalkLawsBesides
import Derived.Deep.QuietTactic
import Derived.Deep.LoopGhost
import Derived.BigQuiet
import Derived.Laws.RangeString
import Derived.Lib.IndexAny
namespace Go.Proofs.Qxb6609196a
open Go.RowKit

theorem hid {p : Prop} (h : p) : Hid p := h
theorem ret_bool {a b : Bool} (h : a = b) : Ending.returned (.bool a) = .returned (.bool b) := by rw [h]

theorem run_next_any {P : Program} (w : World) (s : ByteArray) (pos r d : Nat) (ty : TypeId) (h : pos < s.size) (hd : Utf8.decode s pos = (r, d)) :
    (Instr.next (.pointer (some ⟨w.heap.size, 0, none⟩)) true ty).run P (w.iter s pos) =
      .ok (.tuple #[.bool true, .int .i64 pos, .int .i32 r]) (w.iter s (pos + d)) := by
  simp only [Instr.next, getObj, setObj, Sem.run_bind, Sem.run, World.iter_heap, Result.andThen, h, if_true, hd, World.iter_set]
  simp [goInt]

theorem get_bang (s : ByteArray) (k : Nat) (h : k < s.size) : s.get! k = s[k] := by
  simp [ByteArray.get!, getElem!_pos, h]
  rfl

/-- what decode does at a byte that is no ASCII: a rune that is none, and no ASCII byte is skipped -/
theorem decode_high (s : ByteArray) (i : Nat) (h : i < s.size) (hb : ¬ (s[i]).toNat < 128) :
    ∃ r d, Utf8.decode s i = (r, d) ∧ 128 ≤ r ∧ r ≤ 1114111 ∧ 1 ≤ d ∧ i + d ≤ s.size ∧ ∀ k (hk : i + k < s.size), 1 ≤ k → k < d → ¬ (s[i + k]).toNat < 128 := by
  have e0 : s.get! (i + 0) = s[i] := get_bang s i h
  have cont : ∀ k, (decide (i + k < s.size) && (s.get! (i + k)).toNat / 64 == 2) = true → ∃ hk : i + k < s.size, ¬ (s[i + k]).toNat < 128 := by
    intro k hk
    simp only [Bool.and_eq_true, decide_eq_true_eq, beq_iff_eq] at hk
    refine ⟨hk.1, ?_⟩
    rw [get_bang s (i + k) hk.1] at hk
    omega
  have b1 := (s.get! (i + 1)).toNat_lt
  have b2 := (s.get! (i + 2)).toNat_lt
  have b3 := (s.get! (i + 3)).toNat_lt
  have b0 := (s[i]).toNat_lt
  unfold Utf8.decode
  simp only [e0, hb, if_false]
  split
  · rename_i hc
    simp only [Bool.and_eq_true] at hc
    obtain ⟨k1, c1⟩ := cont 1 (by simpa using hc.2)
    split
    · refine ⟨_, 2, rfl, by omega, by omega, by omega, by omega, fun k hk h1 h2 => ?_⟩
      obtain rfl : k = 1 := by omega
      exact c1
    · exact ⟨_, 1, rfl, by decide, by decide, by omega, by omega, fun k hk h1 h2 => by omega⟩
  · split
    · rename_i hc
      simp only [Bool.and_eq_true] at hc
      obtain ⟨k1, c1⟩ := cont 1 (by simpa using hc.1.2)
      obtain ⟨k2, c2⟩ := cont 2 (by simpa using hc.2)
      split
      · rename_i hv
        simp only [Bool.and_eq_true, decide_eq_true_eq, ge_iff_le] at hv
        refine ⟨_, 3, rfl, by omega, by omega, by omega, by omega, fun k hk h1 h2 => ?_⟩
        have : k = 1 ∨ k = 2 := by omega
        rcases this with rfl | rfl
        · exact c1
        · exact c2
      · exact ⟨_, 1, rfl, by decide, by decide, by omega, by omega, fun k hk h1 h2 => by omega⟩
    · split
      · rename_i hc
        simp only [Bool.and_eq_true] at hc
        obtain ⟨k1, c1⟩ := cont 1 (by simpa using hc.1.1.2)
        obtain ⟨k2, c2⟩ := cont 2 (by simpa using hc.1.2)
        obtain ⟨k3, c3⟩ := cont 3 (by simpa using hc.2)
        split
        · rename_i hv
          simp only [Bool.and_eq_true, decide_eq_true_eq, ge_iff_le, Utf8.valid, Bool.or_eq_true] at hv
          refine ⟨_, 4, rfl, by omega, by omega, by omega, by omega, fun k hk h1 h2 => ?_⟩
          have : k = 1 ∨ k = 2 ∨ k = 3 := by omega
          rcases this with rfl | rfl | rfl
          · exact c1
          · exact c2
          · exact c3
        · exact ⟨_, 1, rfl, by decide, by decide, by omega, by omega, fun k hk h1 h2 => by omega⟩
      · exact ⟨_, 1, rfl, by decide, by decide, by omega, by omega, fun k hk h1 h2 => by omega⟩

/-- string(r), r no ASCII: two to four bytes, the last no ASCII -/
theorem encode_high (r : Int) (h : 128 ≤ r) : ∃ t : ByteArray, Utf8.encode r = t ∧ 2 ≤ t.size ∧ t.size ≤ 4 ∧ ∀ k (hk : k < t.size), k + 1 = t.size → 128 ≤ (t[k]).toNat := by
  have last : ∀ n : Nat, 128 ≤ (UInt8.ofNat (0x80 + n % 64)).toNat := by intro n; rw [UInt8.toNat_ofNat']; omega
  have two : ∀ a n, 2 ≤ (⟨#[a, UInt8.ofNat (0x80 + n % 64)]⟩ : ByteArray).size ∧ (⟨#[a, UInt8.ofNat (0x80 + n % 64)]⟩ : ByteArray).size ≤ 4 ∧ ∀ k (hk : k < (⟨#[a, UInt8.ofNat (0x80 + n % 64)]⟩ : ByteArray).size), k + 1 = (⟨#[a, UInt8.ofNat (0x80 + n % 64)]⟩ : ByteArray).size → 128 ≤ ((⟨#[a, UInt8.ofNat (0x80 + n % 64)]⟩ : ByteArray)[k]).toNat := by
    intro a n
    refine ⟨(show (2 : Nat) ≤ 2 by omega), (show (2 : Nat) ≤ 4 by omega), fun k hk he => ?_⟩
    have he' : k + 1 = 2 := he
    obtain rfl : k = 1 := by omega
    exact last _
  have three : ∀ a b n, 2 ≤ (⟨#[a, b, UInt8.ofNat (0x80 + n % 64)]⟩ : ByteArray).size ∧ (⟨#[a, b, UInt8.ofNat (0x80 + n % 64)]⟩ : ByteArray).size ≤ 4 ∧ ∀ k (hk : k < (⟨#[a, b, UInt8.ofNat (0x80 + n % 64)]⟩ : ByteArray).size), k + 1 = (⟨#[a, b, UInt8.ofNat (0x80 + n % 64)]⟩ : ByteArray).size → 128 ≤ ((⟨#[a, b, UInt8.ofNat (0x80 + n % 64)]⟩ : ByteArray)[k]).toNat := by
    intro a b n
    refine ⟨(show (2 : Nat) ≤ 3 by omega), (show (3 : Nat) ≤ 4 by omega), fun k hk he => ?_⟩
    have he' : k + 1 = 3 := he
    obtain rfl : k = 2 := by omega
    exact last _
  have four : ∀ a b c n, 2 ≤ (⟨#[a, b, c, UInt8.ofNat (0x80 + n % 64)]⟩ : ByteArray).size ∧ (⟨#[a, b, c, UInt8.ofNat (0x80 + n % 64)]⟩ : ByteArray).size ≤ 4 ∧ ∀ k (hk : k < (⟨#[a, b, c, UInt8.ofNat (0x80 + n % 64)]⟩ : ByteArray).size), k + 1 = (⟨#[a, b, c, UInt8.ofNat (0x80 + n % 64)]⟩ : ByteArray).size → 128 ≤ ((⟨#[a, b, c, UInt8.ofNat (0x80 + n % 64)]⟩ : ByteArray)[k]).toNat := by
    intro a b c n
    refine ⟨(show (2 : Nat) ≤ 4 by omega), (show (4 : Nat) ≤ 4 by omega), fun k hk he => ?_⟩
    have he' : k + 1 = 4 := he
    obtain rfl : k = 3 := by omega
    exact last _
  refine ⟨_, rfl, ?_⟩
  unfold Utf8.encode
  split <;> rename_i hv
  · have hn : ¬ r.toNat < 0x80 := by omega
    simp only [hn, if_false]
    split
    · exact two _ _
    · split
      · exact three _ _ _
      · exact four _ _ _ _
  · exact three _ _ _

/-- the three signs that a schema's name does not hold -/
def signs : ByteArray := ⟨#[47, 126, 37]⟩

theorem ib_none (s : ByteArray) (c : Int) (w : World) (h : ∀ b ∈ s.data.toList, (b.toNat : Int) ≠ c) (h0 : 0 ≤ c) (h1 : c < 256) :
    Calls Try.prog 39 #[.string s, .int .u8 c] w fun e w' => e = .returned (.int .i64 (-1)) ∧ w' = w := by
  refine (Try.strings_IndexByte s c w).mono ?_
  rintro e w' ⟨rfl, rfl⟩
  refine ⟨?_, rfl⟩
  have key : ∀ l : List UInt8, (∀ b ∈ l, (b.toNat : Int) ≠ c) → Lib.indexByte l c.toNat.toUInt8 = -1 := by
    intro l
    induction l with
    | nil => intro _; rfl
    | cons b l ih =>
      intro hb
      have hne : (b == c.toNat.toUInt8) = false := by
        rw [beq_eq_false_iff_ne]
        intro e
        apply hb b List.mem_cons_self
        rw [e]
        show ((UInt8.ofNat c.toNat).toNat : Int) = c
        rw [UInt8.toNat_ofNat']
        omega
      rw [Lib.indexByte, hne, ih (fun x hx => hb x (List.mem_cons_of_mem _ hx))]
      rfl
  rw [key _ h]

set_option maxHeartbeats 2000000 in
set_option maxRecDepth 100000 in
theorem indexRune_err (w : World) :
    Calls Try.prog 35 #[.string ⟨#[47, 126, 37]⟩, .int .i32 65533] w fun e w' => e = .returned (.int .i64 (-1)) ∧ Below w.heap.size w w' := by
  have n0 := fun ty => run_next_ascii (P := Try.prog) w ⟨#[47, 126, 37]⟩ 0 ty (by decide) (by decide)
  have n1 := fun ty => run_next_ascii (P := Try.prog) w ⟨#[47, 126, 37]⟩ 1 ty (by decide) (by decide)
  have n2 := fun ty => run_next_ascii (P := Try.prog) w ⟨#[47, 126, 37]⟩ 2 ty (by decide) (by decide)
  have n3 := fun ty => run_next_end (P := Try.prog) w ⟨#[47, 126, 37]⟩ 3 ty (by decide)
  have hb : Hid (∀ i, Below w.heap.size w (w.iter ⟨#[47, 126, 37]⟩ i)) := fun i => (Below.refl _ _).alloc (Nat.le_refl _) _
  go_enter Try.func35, Try.ntmps35
  go_wp2
  go_loopg [5, 6] 3 (fun g _ _ wx => ∃ i : Nat, i + g = 3 ∧ wx = w.iter ⟨#[47, 126, 37]⟩ i)
  case atStart => exact ⟨0, by omega, rfl⟩
  case round =>
    obtain ⟨i, hig, rfl⟩ := hrel
    have hi : i = 0 ∨ i = 1 ∨ i = 2 ∨ i = 3 := by omega
    rcases hi with rfl | rfl | rfl | rfl
    · go_wp2
      go_roundg 2
      case measure => omega
      case rel => exact ⟨1, by omega, rfl⟩
    · go_wp2
      go_roundg 1
      case measure => omega
      case rel => exact ⟨2, by omega, rfl⟩
    · go_wp2
      go_roundg 0
      case measure => omega
      case rel => exact ⟨3, by omega, rfl⟩
    · go_wp2
      go_ret
      exact ⟨rfl, hb.out _⟩
set_option maxHeartbeats 2000000 in
set_option maxRecDepth 100000 in
theorem indexRune_high (r : Int) (w : World) (h : 128 ≤ r) (h2 : r ≤ 1114111) (hne : (r == 65533) = false) :
    Calls Try.prog 35 #[.string ⟨#[47, 126, 37]⟩, .int .i32 r] w fun e w' => e = .returned (.int .i64 (-1)) ∧ Below w.heap.size w w' := by
  obtain ⟨t, ht, l1, l2, hl⟩ := encode_high r h
  have HL := hid hl
  clear hl
  cases hv : Lib.validRune r with
  | false =>
    go_enter Try.func35, Try.ntmps35
    go_wp2_with (go_at_call 40; refine (Try.utf8_ValidRune _ _).mono ?_; rintro e w' ⟨rfl, hw⟩; obtain rfl := hw.symm)
    go_ret
    exact ⟨rfl, Below.refl _ _⟩
  | true =>
    have hz : t.size = 2 ∨ t.size = 3 ∨ t.size = 4 := by omega
    have hsl2 : ∀ w, (Instr.slice 9 (.string ⟨#[47, 126, 37]⟩) (some (.int .i64 2)) none none).run Try.prog w = .ok (.string ⟨#[37]⟩) w := fun w => by kernel_rfl
    have hsl3 : ∀ w, (Instr.slice 9 (.string ⟨#[47, 126, 37]⟩) (some (.int .i64 3)) none none).run Try.prog w = .ok (.string ⟨#[]⟩) w := fun w => by kernel_rfl
    go_enter Try.func35, Try.ntmps35
    go_wp2_with (go_at_call 40; refine (Try.utf8_ValidRune _ _).mono ?_; rintro e w' ⟨rfl, hw⟩; obtain rfl := hw.symm)
    go_step3
    rcases hz with hz | hz | hz
    · have hlt : (1 : Int) < (t.size : Int) := by omega
      have hge := HL.out 1 (by omega) (by omega)
      have hbb := (t[1]'(by omega)).toNat_lt
      have hne1 : ((((⟨#[47, 126, 37]⟩ : ByteArray)[1]'(by decide)).toNat : Int) != ((t[1]'(by omega)).toNat : Int)) = true := by rw [bne_iff_ne]; show (126 : Int) ≠ _; omega
      have hwr : IntKind.i64.wrap 2 = 2 := by decide
      have HI : Hid (∀ w, Calls Try.prog 39 #[.string ⟨#[37]⟩, .int .u8 ((t[1]'(by omega)).toNat : Int)] w fun e w' => e = .returned (.int .i64 (-1)) ∧ w' = w) := fun w => ib_none ⟨#[37]⟩ _ w (by
        intro b hb
        have hb' : b = 37 := by simpa using hb
        subst hb'
        show (37 : Int) ≠ _
        omega) (by omega) (by omega)
      go_wp2
      go_loopg [9, 10, 11, 12] 1 (fun _ i _ _ _ wx => i = .int .i64 1 ∧ wx = w)
      case atStart => exact ⟨rfl, rfl⟩
      case round =>
        obtain ⟨rfl, rfl⟩ := hrel
        go_wp2
        go_step3
        go_wp2
        go_quiet (fail)
        go_wp2
        go_quiet ((go_at_call 39; refine (HI.out _).mono ?_; rintro e w' ⟨rfl, rfl⟩; exact ⟨rfl, _, rfl⟩))
        go_wp2
        simp only [Exit.noGoto_ret, Exit.inBlock, Exit.then]
        go_ret
        exact ⟨rfl, below_drewN (Below.refl _ _) _⟩
    · have hlt : (2 : Int) < (t.size : Int) := by omega
      have hge := HL.out 2 (by omega) (by omega)
      have hbb := (t[2]'(by omega)).toNat_lt
      have hne1 : ((((⟨#[47, 126, 37]⟩ : ByteArray)[2]'(by decide)).toNat : Int) != ((t[2]'(by omega)).toNat : Int)) = true := by rw [bne_iff_ne]; show (37 : Int) ≠ _; omega
      have hwr : IntKind.i64.wrap 3 = 3 := by decide
      have HI : Hid (∀ w, Calls Try.prog 39 #[.string ⟨#[]⟩, .int .u8 ((t[2]'(by omega)).toNat : Int)] w fun e w' => e = .returned (.int .i64 (-1)) ∧ w' = w) := fun w => ib_none ⟨#[]⟩ _ w (by
        intro b hb
        simp at hb) (by omega) (by omega)
      go_wp2
      go_loopg [9, 10, 11, 12] 1 (fun _ i _ _ _ wx => i = .int .i64 2 ∧ wx = w)
      case atStart => exact ⟨rfl, rfl⟩
      case round =>
        obtain ⟨rfl, rfl⟩ := hrel
        go_wp2
        go_step3
        go_wp2
        go_quiet (fail)
        go_wp2
        go_quiet ((go_at_call 39; refine (HI.out _).mono ?_; rintro e w' ⟨rfl, rfl⟩; exact ⟨rfl, _, rfl⟩))
        go_wp2
        simp only [Exit.noGoto_ret, Exit.inBlock, Exit.then]
        go_ret
        exact ⟨rfl, below_drewN (Below.refl _ _) _⟩
    · go_wp2
      go_loopg [9, 10, 11, 12] 1 (fun _ i _ _ _ wx => i = .int .i64 3 ∧ wx = w)
      case atStart => exact ⟨rfl, rfl⟩
      case round =>
        obtain ⟨rfl, rfl⟩ := hrel
        go_wp2
        rw [Exit.noGoto_ret]
        go_ret
        exact ⟨rfl, Below.refl _ _⟩
end Go.Proofs.Qxb6609196a
