import Derived.Test.Qxb6609196aR
namespace Go.Proofs.Qxb6609196a
open Go.RowKit

def FitPost (w : World) (e : Ending) (w' : World) : Prop := ∃ b m, e = .returned (.bool b) ∧ w' = w.drewN m

set_option maxRecDepth 5000 in
set_option maxHeartbeats 1000000 in
theorem fit_any (a : Option Addr) (n c : Nat) (nm rf : Nat → ByteArray) (pre : ByteArray) (w : World) (h : IsRefs w a n nm rf) (hs : Short n nm rf pre) (hn : n ≤ 4096) :
    Calls Try.prog 13 #[.slice a n c, .string pre] w (FitPost w) := by
  have HS := hid h
  have HT := hid hs.1
  have hpre : pre.size ≤ 1048576 := hs.2
  clear h hs
  go_enter Try.func13, Try.ntmps13
  go_wp2
  go_loopw [5, 6] (fun z i wr => ∃ k t m : Nat, k ≤ n ∧ t ≤ 1048576 ∧ z = .int .i64 t ∧ i = .int .i64 k ∧ wr = w.drewN m) (fun _ i _ => n - (intOf i).toNat)
  case atStart => exact ⟨0, pre.size, 0, Nat.zero_le _, hpre, rfl, rfl, rfl⟩
  case round =>
    obtain ⟨k, t, m, hk, ht, rfl, rfl, rfl⟩ := hrel
    by_cases hlt : k < n
    · obtain ⟨b, off, rfl, hbl, hc⟩ := HS.out.2 (by omega)
      obtain ⟨c0, c1⟩ := hc k hlt
      obtain ⟨b0, b1⟩ := HT.out k hlt
      obtain ⟨x, hx⟩ : ∃ x, x = nm k := ⟨_, rfl⟩
      obtain ⟨y, hy⟩ : ∃ y, y = rf k := ⟨_, rfl⟩
      rw [← hx] at c0 b0
      rw [← hy] at c1 b1
      have hkn : (k : Int) < (n : Int) := by omega
      clear hc hx hy hbl HS HT
      go_wp2
      go_quiet (fail)
      go_wp2
      · go_ret
        exact ⟨false, _, rfl, rfl⟩
      · go_roundw
        case rel => exact ⟨k + 1, t + (32 + x.size + y.size), _, by omega, by omega, by go_num, by go_num, rfl⟩
        case measure => simp [intOf]; omega
    · go_wp2
      go_ret
      exact ⟨true, _, rfl, rfl⟩

theorem Try.info9 : (Try.prog.info? 9).map (fun i => (i.zero, i.size, i.bytes)) = some (some (.string ⟨#[]⟩), 1, 16) := by kernel_rfl

/-- block b is a row of n strings f -/
def Strs (w : World) (b n : Nat) (f : Nat → ByteArray) : Prop := w.rowIs b 9 n (fun i => .string (f i))
theorem Strs.cell {w : World} {b n : Nat} {f : Nat → ByteArray} (h : Strs w b n f) {i : Nat} (hi : i < n) : w.cell? ⟨b, i, none⟩ = some (.string (f i)) := World.rowIs.cell h hi
theorem Strs.kept {ex : Nat → Prop} {w w' : World} {b n : Nat} {f : Nat → ByteArray} (h : Strs w b n f) (k : Kept ex w w') (hn : ¬ ex b) : Strs w' b n f := row_kept h k hn
theorem Strs.lt {w : World} {b n : Nat} {f : Nat → ByteArray} (h : Strs w b n f) : b < w.heap.size := World.rowIs.lt h

/-- the row behind k rounds -/
def fillF (f : Nat → ByteArray) (k : Nat) (j : Nat) : Value := .string (if j < k then f j else ⟨#[]⟩)
theorem fillF_step {wr : World} {b n : Nat} (f : Nat → ByteArray) (k : Nat) (v : ByteArray) (hv : v = f k) (h : wr.rowIs b 9 n (fillF f k)) :
    (wr.setCell ⟨b, k, none⟩ (.string v)).rowIs b 9 n (fillF f (k + 1)) := by
  refine (h.set k (.string v)).congr fun j hj => ?_
  unfold fillF
  by_cases e : j = k
  · subst e; rw [if_pos rfl, if_pos (by omega), hv]
  · rw [if_neg e]
    by_cases h2 : j < k
    · rw [if_pos h2, if_pos (by omega)]
    · rw [if_neg h2, if_neg (by omega)]
theorem fillF_end {wr : World} {b n : Nat} {f : Nat → ByteArray} (h : wr.rowIs b 9 n (fillF f n)) : Strs wr b n f :=
  h.congr fun j hj => by unfold fillF; rw [if_pos hj]
theorem fillF_start (w : World) (n : Nat) (f : Nat → ByteArray) : (w.alloc (.cells (madeCells #[.string ⟨#[]⟩] n) 9)).rowIs w.heap.size 9 n (fillF f 0) :=
  (World.rowIs_made w (.string ⟨#[]⟩) n 9).congr fun j _ => by unfold fillF; rw [if_neg (by omega)]

def SplitPost (n : Nat) (nm rf : Nat → ByteArray) (w : World) (e : Ending) (w' : World) : Prop :=
  e = .returned (.tuple #[.slice (some ⟨w.heap.size, 0, none⟩) n n, .slice (some ⟨w.heap.size + 1, 0, none⟩) n n]) ∧ Strs w' w.heap.size n nm ∧ Strs w' (w.heap.size + 1) n rf ∧ Below w.heap.size w w'

set_option maxRecDepth 5000 in
set_option maxHeartbeats 1000000 in
theorem split_any (a : Option Addr) (n c : Nat) (nm rf : Nat → ByteArray) (w : World) (h : IsRefs w a n nm rf) (hn : n ≤ 4096) :
    Calls Try.prog 14 #[.slice a n c] w (SplitPost n nm rf w) := by
  have HS := hid h
  clear h
  have hmk := fun w => run_make_row' (P := Try.prog) 29 9 (.string ⟨#[]⟩) 16 Try.underlying29 Try.info9 rfl .i64 .i64 n (by omega) (by omega) w
  go_enter Try.func14, Try.ntmps14
  go_wp2
  clear hmk
  go_loopw [6] (fun i wr => ∃ k : Nat, k ≤ n ∧ i = .int .i64 k ∧ wr.rowIs w.heap.size 9 n (fillF nm k) ∧ wr.rowIs (w.heap.size + 1) 9 n (fillF rf k) ∧ Below w.heap.size w wr) (fun i _ => n - (intOf i).toNat)
  case atStart =>
    refine ⟨0, Nat.zero_le _, rfl, (fillF_start w n nm).alloc _, ?_, ((Below.refl _ _).alloc (Nat.le_refl _) _).alloc (by simp) _⟩
    have := fillF_start (w.alloc (.cells (madeCells #[.string ⟨#[]⟩] n) 9)) n rf
    simpa using this
  case round =>
    obtain ⟨k, hk, rfl, r0, r1, hb⟩ := hrel
    by_cases hlt : k < n
    · obtain ⟨b, off, rfl, hbl, hc⟩ := HS.out.2 (by omega)
      obtain ⟨c0, c1⟩ := hc k hlt
      have c0' := (hb.cell (p := ⟨b, off + k * 2, none⟩) hbl).trans c0
      have c1' := (hb.cell (p := ⟨b, off + k * 2 + 1, none⟩) hbl).trans c1
      obtain ⟨x, hx⟩ : ∃ x, x = nm k := ⟨_, rfl⟩
      obtain ⟨y, hy⟩ : ∃ y, y = rf k := ⟨_, rfl⟩
      rw [← hx] at c0'
      rw [← hy] at c1'
      have HX := hid (And.intro hx hy)
      obtain ⟨v0, d0⟩ : ∃ v, wr.cell? ⟨w.heap.size, k, none⟩ = some v := ⟨_, r0.cell hlt⟩
      obtain ⟨v1, d1⟩ : ∃ v, wr.cell? ⟨w.heap.size + 1, k, none⟩ = some v := ⟨_, r1.cell hlt⟩
      have f0 := r0.frozen k
      have f1 := r1.frozen k
      have hne : b ≠ w.heap.size := by omega
      have c1'' : (wr.setCell ⟨w.heap.size, k, none⟩ (.string x)).cell? ⟨b, off + k * 2 + 1, none⟩ = some (.string y) := by
        rw [World.cell?_of_block (w := wr) (Below.heap_setCell _ _ _ _ (by exact hne))]; exact c1'
      have d1'' : (wr.setCell ⟨w.heap.size, k, none⟩ (.string x)).cell? ⟨w.heap.size + 1, k, none⟩ = some v1 := by
        rw [World.cell?_of_block (w := wr) (Below.heap_setCell _ _ _ _ (by simp))]; exact d1
      have f1'' : (wr.setCell ⟨w.heap.size, k, none⟩ (.string x)).frozen? ⟨w.heap.size + 1, k, none⟩ = false := by
        rw [World.frozen?_of_block (w := wr) (Below.heap_setCell _ _ _ _ (by simp))]; exact f1
      have R0 := hid ((fillF_step nm k x HX.out.1 r0).setOther (a := ⟨w.heap.size + 1, k, none⟩) (by simp) (.string y))
      have R1 := hid (fillF_step rf k y HX.out.2 (r1.setOther (a := ⟨w.heap.size, k, none⟩) (by simp) (.string x)))
      have HB := hid ((hb.setCell (p := ⟨w.heap.size, k, none⟩) (Nat.le_refl _) (.string x)).setCell (p := ⟨w.heap.size + 1, k, none⟩) (Nat.le_succ _) (.string y))
      clear hc c0 c1 c1' hx hy hbl HS r0 r1 hb d1 f1 HX hne
      go_wp2
      go_roundw
      case rel => exact ⟨k + 1, by omega, by go_num, R0.out, R1.out, HB.out⟩
      case measure => simp [intOf]; omega
    · have hk' : k = n := by omega
      subst hk'
      have HE := hid (And.intro (fillF_end r0) (And.intro (fillF_end r1) hb))
      clear r0 r1 hb HS
      go_wp2
      go_ret2
      exact ⟨rfl, HE.out.1, HE.out.2.1, HE.out.2.2⟩
end Go.Proofs.Qxb6609196a
