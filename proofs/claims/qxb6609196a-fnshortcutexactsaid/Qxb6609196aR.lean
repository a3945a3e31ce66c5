import Derived.Test.Qxb6609196aM
import Derived.Deep.OwnRows
namespace Go.Proofs.Qxb6609196a
open Go.RowKit

/-- all that was there is as it was, but for the blocks ex -/
structure Kept (ex : Nat → Prop) (w w' : World) : Prop where
  os : w'.os = w.os
  tape : w'.tape = w.tape
  output : w'.output = w.output
  size : w.heap.size ≤ w'.heap.size
  block : ∀ k, k < w.heap.size → ¬ ex k → w'.heap[k]? = w.heap[k]?

theorem Kept.refl (ex : Nat → Prop) (w : World) : Kept ex w w := ⟨rfl, rfl, rfl, Nat.le_refl _, fun _ _ _ => rfl⟩
theorem Kept.trans {ex : Nat → Prop} {a b c : World} (h : Kept ex a b) (k : Kept ex b c) : Kept ex a c :=
  ⟨k.os.trans h.os, k.tape.trans h.tape, k.output.trans h.output, Nat.le_trans h.size k.size, fun i hi hn => (k.block i (Nat.lt_of_lt_of_le hi h.size) hn).trans (h.block i hi hn)⟩
theorem Kept.mono {ex ey : Nat → Prop} {a b : World} (h : Kept ex a b) (hs : ∀ k, ex k → ey k) : Kept ey a b :=
  ⟨h.os, h.tape, h.output, h.size, fun i hi hn => h.block i hi (fun he => hn (hs i he))⟩
theorem Kept.of_below {ex : Nat → Prop} {a b : World} (h : Below a.heap.size a b) : Kept ex a b := ⟨h.os, h.tape, h.output, h.size, fun i hi _ => h.block i hi⟩
theorem Kept.of_grown {ex : Nat → Prop} {a b : World} {r : Nat} (h : a.grownBy b (some r)) (hr : ex r) : Kept ex a b :=
  ⟨h.os, h.tape, h.output, h.size, fun i hi hn => h.block i hi (fun e => hn (by cases e; exact hr))⟩
theorem Kept.of_grownNone {ex : Nat → Prop} {a b : World} (h : a.grownBy b none) : Kept ex a b :=
  ⟨h.os, h.tape, h.output, h.size, fun i hi _ => h.block i hi (fun e => by cases e)⟩
theorem Kept.below {ex : Nat → Prop} {B : Nat} {a b : World} (h : Kept ex a b) (hB : B ≤ a.heap.size) (he : ∀ k, ex k → B ≤ k) : Below B a b :=
  ⟨h.os, h.tape, h.output, h.size, fun i hi => h.block i (by omega) (fun e => by have := he i e; omega)⟩
theorem Kept.alloc {ex : Nat → Prop} {a w : World} (h : Kept ex a w) (o : Obj) : Kept ex a (w.alloc o) :=
  h.trans (Kept.of_below ((Below.refl _ _).alloc (Nat.le_refl _) o))
theorem Kept.drewN {ex : Nat → Prop} {a w : World} (h : Kept ex a w) (n : Nat) : Kept ex a (w.drewN n) := ⟨h.os, h.tape, h.output, h.size, h.block⟩
theorem Kept.setCell {ex : Nat → Prop} {a w : World} (h : Kept ex a w) {p : Addr} (hp : ex p.block) (v : Value) : Kept ex a (w.setCell p v) :=
  h.trans ⟨rfl, rfl, rfl, by simp [World.setCell], fun i hi hn => Below.heap_setCell _ _ _ _ (fun e => hn (by rw [e]; exact hp))⟩
/-- what is laid anew behind a may be written -/
theorem Kept.fresh {ex : Nat → Prop} {a b : World} (h : Kept (fun k => ex k ∨ a.heap.size ≤ k) a b) : Kept ex a b :=
  ⟨h.os, h.tape, h.output, h.size, fun i hi hn => h.block i hi (fun e => by rcases e with e | e; exact hn e; omega)⟩

theorem SM.kept {ex : Nat → Prop} {w w' : World} {b : Nat} {f : ByteArray → Option Value} (h : SM w b f) (k : Kept ex w w') (hn : ¬ ex b) : SM w' b f := h.of_block (k.block b h.lt hn)
theorem row_kept {ex : Nat → Prop} {w w' : World} {b n : Nat} {t : TypeId} {f : Nat → Value} (h : w.rowIs b t n f) (k : Kept ex w w') (hn : ¬ ex b) : w'.rowIs b t n f := h.of_block (k.block b h.lt hn)

/-- the slice of SchemaRef that came in: element i is (nm i, rf i) -/
def IsRefs (w : World) (a : Option Addr) (n : Nat) (nm rf : Nat → ByteArray) : Prop :=
  (a = none → n = 0) ∧ (0 < n → ∃ b off, a = some ⟨b, off, none⟩ ∧ b < w.heap.size ∧ ∀ i, i < n → w.cell? ⟨b, off + i * 2, none⟩ = some (.string (nm i)) ∧ w.cell? ⟨b, off + i * 2 + 1, none⟩ = some (.string (rf i)))

/-- every name and every ref is at most 1<<20 bytes, the prefix too -/
def Short (n : Nat) (nm rf : Nat → ByteArray) (pre : ByteArray) : Prop := (∀ i, i < n → (nm i).size ≤ 1048576 ∧ (rf i).size ≤ 1048576) ∧ pre.size ≤ 1048576

def ZbPost (n : Nat) (nm rf : Nat → ByteArray) (pre : ByteArray) (w : World) (e : Ending) (w' : World) : Prop := ∃ b, e = .returned (.bool b) ∧ (b = true → Short n nm rf pre) ∧ w' = w
theorem zb_no {n : Nat} {nm rf : Nat → ByteArray} {pre : ByteArray} {w : World} : ZbPost n nm rf pre w (.returned (.bool false)) w := ⟨false, rfl, (fun h => nomatch h), rfl⟩

set_option maxRecDepth 5000 in
set_option maxHeartbeats 1000000 in
theorem zb18 (a : Option Addr) (n c : Nat) (nm rf : Nat → ByteArray) (pre : ByteArray) (pass : Bool) (w : World) (h : IsRefs w a n nm rf) :
    Calls Try.prog 18 #[.slice a n c, .string pre, .bool pass] w (ZbPost n nm rf pre w) := by
  have HS := hid h
  clear h
  by_cases hbig : 1048576 < n
  · go_enter Try.func18, Try.ntmps18
    go_wp2
    go_ret
    exact zb_no
  go_enter Try.func18, Try.ntmps18
  go_wp2
  go_loop [7, 8] (fun z i => ∃ k t : Nat, k ≤ n ∧ t ≤ 1048576 ∧ z = .int .i64 t ∧ i = .int .i64 k ∧ Hid (∀ j, j < k → (nm j).size ≤ 1048576 ∧ (rf j).size ≤ 1048576)) (fun _ i => n - (intOf i).toNat)
  case atStart => exact ⟨0, n, Nat.zero_le _, by omega, rfl, rfl, hid (fun j hj => absurd hj (by omega))⟩
  case round =>
    obtain ⟨k, t, hk, ht, rfl, rfl, HP⟩ := hrel
    by_cases hlt : k < n
    · obtain ⟨b, off, rfl, hbl, hc⟩ := HS.out.2 (by omega)
      obtain ⟨c0, c1⟩ := hc k hlt
      obtain ⟨x, hx⟩ : ∃ x, x = nm k := ⟨_, rfl⟩
      obtain ⟨y, hy⟩ : ∃ y, y = rf k := ⟨_, rfl⟩
      rw [← hx] at c0
      rw [← hy] at c1
      have HX := hid (And.intro hx hy)
      clear hc hx hy hbl HS
      go_wp2
      all_goals first
        | (go_ret; exact zb_no)
        | skip
      go_round
      case rel =>
        refine ⟨k + 1, t + x.size + y.size, by omega, by omega, by go_num, by go_num, hid (fun j hj => ?_)⟩
        by_cases e : j = k
        · subst e; rw [← HX.out.1, ← HX.out.2]; exact ⟨by omega, by omega⟩
        · exact HP.out j (by omega)
      case measure => simp [intOf]; omega
    · have hk' : k = n := by omega
      subst hk'
      go_wp2
      all_goals go_ret
      · exact zb_no
      · exact zb_no
      · exact ⟨true, rfl, fun _ => ⟨HP.out, by omega⟩, rfl⟩
end Go.Proofs.Qxb6609196a
