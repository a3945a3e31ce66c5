import Derived.Test.Qxb6609196aY
import Derived.Test.Qxb6609196aN
namespace Go.Proofs.Qxb6609196a
open Go.RowKit

theorem memo28 (v1 v2 : Value) (a1 a2 b1 b2 : Array Value) (f1 f2 : Fn) (h1 : v1 = .func f1 a1 b1) (h2 : v2 = .func f2 a2 b2) (w : World) :
    Calls Try.prog 28 #[v1, v2] w fun e w' => e = .returned (.pointer (some ⟨w.heap.size + 1, 0, none⟩)) ∧ w' = (w.alloc (.map #[] 0)).alloc (.cells #[v1, v2, .map (some w.heap.size)] 54) := by
  subst h1 h2
  have hmm := @run_makeMap Try.prog
  go_enter Try.func28, Try.ntmps28
  go_wp2
  go_ret
  exact ⟨rfl, rfl⟩

section
variable (E : ByteArray → ByteArray)
/-- is the ref changed? -/
def chg (r : ByteArray) : Bool := !isE r && (!isE (E r) && !(E r).toList == r.toList)
/-- the ref behind the shortcut -/
def res (r : ByteArray) : ByteArray := if chg E r then E r else r
/-- what 'written' and 'shortcuts' hold -/
def newW (L : ByteArray → Option Nat) (c : Nat → ByteArray) (s : ByteArray) : Option Value := match L s with
  | some i => if chg E (c i) then some (.string (c i)) else none
  | none => none
def newS (L : ByteArray → Option Nat) (c : Nat → ByteArray) (s : ByteArray) : Option Value := match L s with
  | some i => if chg E (c i) then some (.string (E (c i))) else none
  | none => none
/-- .. of the names that were seen -/
def Part (V : ByteArray → Prop) (f g : ByteArray → Option Value) : Prop := ∀ s, (V s → f s = g s) ∧ (¬ V s → f s = none)
end

theorem Part.keep {V V' : ByteArray → Prop} {f g : ByteArray → Option Value} (h : Part V f g) {s : ByteArray} (hV : ∀ x, V' x ↔ (V x ∨ x = s)) (hg : g s = none) : Part V' f g := by
  intro x
  constructor
  · intro hx
    rcases (hV x).1 hx with h1 | rfl
    · exact (h x).1 h1
    · by_cases h2 : V x
      · exact (h x).1 h2
      · rw [(h x).2 h2, hg]
  · intro hx
    exact (h x).2 (fun h1 => hx ((hV x).2 (.inl h1)))
theorem Part.step {V V' : ByteArray → Prop} {f g : ByteArray → Option Value} (h : Part V f g) {s : ByteArray} {v : Value} (hV : ∀ x, V' x ↔ (V x ∨ x = s)) (hg : g s = some v) : Part V' (upd f s v) g := by
  intro x
  unfold upd
  by_cases e : x = s
  · subst e
    exact ⟨fun _ => by rw [if_pos rfl, hg], fun hx => absurd ((hV x).2 (.inr rfl)) hx⟩
  · rw [if_neg e]
    refine ⟨fun hx => ?_, fun hx => (h x).2 (fun h1 => hx ((hV x).2 (.inl h1)))⟩
    rcases (hV x).1 hx with h1 | h1
    · exact (h x).1 h1
    · exact absurd h1 e

/-- what the shortcut leaves -/
def ShortPost (E : ByteArray → ByteArray) (L : ByteArray → Option Nat) (c : Nat → ByteArray) (X n : Nat) (w : World) (e : Ending) (w' : World) : Prop :=
  ∃ Wb, e = .returned (.map (some Wb)) ∧ w.heap.size ≤ Wb ∧ SM w' Wb (newW E L c) ∧ (∀ s i, L s = some i → w'.rowIs (X + i) 9 1 (fun _ => .string (res E (c i)))) ∧ Kept (fun k => X ≤ k ∧ k < X + n) w w'

/-- in the first loop, the names V done -/
structure Core (E : ByteArray → ByteArray) (QB Rb X n : Nat) (L : ByteArray → Option Nat) (c : Nat → ByteArray) (pre : ByteArray) (pass : Bool) (es : Array MapEntry) (clock : Nat) (w : World) (V : ByteArray → Prop) (wr : World) : Prop where
  env : Env wr (w.heap.size + 1) w.heap.size (w.heap.size + 1 + 1) QB Rb X n L c pre pass
  row : wr.rowIs (w.heap.size + 1 + 1 + 1 + 1) 54 3 (memoF (w.heap.size + 1) w.heap.size (w.heap.size + 1 + 1) (w.heap.size + 1 + 1 + 1))
  memo : ∃ f, SM wr (w.heap.size + 1 + 1 + 1) f ∧ MemoOk E f
  mp : wr.heap[Rb]? = some (.map es clock)
  wm : ∃ f, SM wr (w.heap.size + 1 + 1 + 1 + 1 + 1) f ∧ Part V f (newW E L c)
  sm : ∃ f, SM wr (w.heap.size + 1 + 1 + 1 + 1 + 1 + 1) f ∧ Part V f (newS E L c)
  kept : Kept (fun _ => False) w wr
  qlt : QB < w.heap.size
  rlt : Rb < w.heap.size
  xlt : ∀ i, i < n → X + i < w.heap.size

section
variable {E : ByteArray → ByteArray} {QB Rb X n : Nat} {L : ByteArray → Option Nat} {c : Nat → ByteArray} {pre : ByteArray} {pass : Bool} {es : Array MapEntry} {clock : Nat} {w : World} {V V' : ByteArray → Prop} {wr w' : World}
theorem Core.envAt (h : Core E QB Rb X n L c pre pass es clock w V wr) {k : Nat} (hk : EnvAt (w.heap.size + 1) w.heap.size (w.heap.size + 1 + 1) QB Rb X n k) : k < w.heap.size + 1 + 1 + 1 := by
  have h1 := h.qlt
  have h2 := h.rlt
  rcases hk with rfl | rfl | rfl | rfl | rfl | ⟨h3, h4⟩
  · omega
  · omega
  · omega
  · omega
  · omega
  · have := h.xlt (k - X) (by omega); omega
theorem Core.keptAll (h : Core E QB Rb X n L c pre pass es clock w V wr) {ex : Nat → Prop} (k : Kept ex wr w') (he : ∀ k, ex k → w.heap.size + 1 + 1 + 1 + 1 + 1 + 1 + 1 ≤ k) : Core E QB Rb X n L c pre pass es clock w V w' := by
  obtain ⟨f1, a1, b1⟩ := h.memo
  obtain ⟨f2, a2, b2⟩ := h.wm
  obtain ⟨f3, a3, b3⟩ := h.sm
  have hr := h.rlt
  refine ⟨h.env.kept k (fun j hj hx => ?_), row_kept h.row k (fun hx => ?_), ⟨f1, a1.kept k (fun hx => ?_), b1⟩, ?_, ⟨f2, a2.kept k (fun hx => ?_), b2⟩, ⟨f3, a3.kept k (fun hx => ?_), b3⟩, ?_, h.qlt, h.rlt, h.xlt⟩
  · have := h.envAt hj; have := he j hx; omega
  · have := he _ hx; omega
  · have := he _ hx; omega
  · rw [k.block Rb h.env.sm.lt (fun hx => by have := he _ hx; omega)]; exact h.mp
  · have := he _ hx; omega
  · have := he _ hx; omega
  · exact ⟨k.os.trans h.kept.os, k.tape.trans h.kept.tape, k.output.trans h.kept.output, Nat.le_trans h.kept.size k.size, fun i hi _ => (k.block i (Nat.lt_of_lt_of_le hi h.kept.size) (fun hx => by have := he i hx; omega)).trans (h.kept.block i hi (fun f => f))⟩
theorem Core.memoTo (h : Core E QB Rb X n L c pre pass es clock w V wr) (k : Kept (fun k => k = w.heap.size + 1 + 1 + 1) wr w') (hm : ∃ f, SM w' (w.heap.size + 1 + 1 + 1) f ∧ MemoOk E f) : Core E QB Rb X n L c pre pass es clock w V w' := by
  obtain ⟨f2, a2, b2⟩ := h.wm
  obtain ⟨f3, a3, b3⟩ := h.sm
  have hr := h.rlt
  refine ⟨h.env.kept k (fun j hj hx => ?_), row_kept h.row k (by omega), hm, ?_, ⟨f2, a2.kept k (by omega), b2⟩, ⟨f3, a3.kept k (by omega), b3⟩, ?_, h.qlt, h.rlt, h.xlt⟩
  · have := h.envAt hj; omega
  · rw [k.block Rb h.env.sm.lt (by omega)]; exact h.mp
  · exact ⟨k.os.trans h.kept.os, k.tape.trans h.kept.tape, k.output.trans h.kept.output, Nat.le_trans h.kept.size k.size, fun i hi _ => (k.block i (Nat.lt_of_lt_of_le hi h.kept.size) (by omega)).trans (h.kept.block i hi (fun f => f))⟩
theorem Core.same (h : Core E QB Rb X n L c pre pass es clock w V wr) {s : ByteArray} (hV : ∀ x, V' x ↔ (V x ∨ x = s)) (h1 : newW E L c s = none) (h2 : newS E L c s = none) : Core E QB Rb X n L c pre pass es clock w V' wr := by
  obtain ⟨f2, a2, b2⟩ := h.wm
  obtain ⟨f3, a3, b3⟩ := h.sm
  exact ⟨h.env, h.row, h.memo, h.mp, ⟨f2, a2, b2.keep hV h1⟩, ⟨f3, a3, b3.keep hV h2⟩, h.kept, h.qlt, h.rlt, h.xlt⟩
theorem Core.maps (h : Core E QB Rb X n L c pre pass es clock w V wr) (k : Kept (fun k => k = w.heap.size + 1 + 1 + 1 + 1 + 1 ∨ k = w.heap.size + 1 + 1 + 1 + 1 + 1 + 1) wr w') (hw : ∃ f, SM w' (w.heap.size + 1 + 1 + 1 + 1 + 1) f ∧ Part V' f (newW E L c)) (hs : ∃ f, SM w' (w.heap.size + 1 + 1 + 1 + 1 + 1 + 1) f ∧ Part V' f (newS E L c)) :
    Core E QB Rb X n L c pre pass es clock w V' w' := by
  obtain ⟨f1, a1, b1⟩ := h.memo
  have hr := h.rlt
  refine ⟨h.env.kept k (fun j hj hx => ?_), row_kept h.row k (by omega), ⟨f1, a1.kept k (by omega), b1⟩, ?_, hw, hs, ?_, h.qlt, h.rlt, h.xlt⟩
  · have := h.envAt hj; omega
  · rw [k.block Rb h.env.sm.lt (by omega)]; exact h.mp
  · exact ⟨k.os.trans h.kept.os, k.tape.trans h.kept.tape, k.output.trans h.kept.output, Nat.le_trans h.kept.size k.size, fun i hi _ => (k.block i (Nat.lt_of_lt_of_le hi h.kept.size) (by omega)).trans (h.kept.block i hi (fun f => f))⟩

/-- the world when the first loop begins -/
theorem core_start (hq : w.rowIs QB 4 1 (fun _ => .bool pass)) (hmp : w.heap[Rb]? = some (.map es clock)) (hok : MOk es clock (boxF L X)) (hb : ∀ i, i < n → w.rowIs (X + i) 9 1 (fun _ => .string (c i))) (hlt : ∀ s i, L s = some i → i < n) (hsz : ∀ i, i < n → (c i).size ≤ 1048576) (hpre : pre.size ≤ 1048576)
    (hV : ∀ s, ¬ V s) :
    Core E QB Rb X n L c pre pass es clock w V
      (((((((w.alloc (.cells #[.map (some Rb)] 42)).alloc (.cells #[.string pre] 9)).alloc (.cells #[.func (Fn.func 23) #[] #[.pointer (some ⟨QB, 0, none⟩)]] 25)).alloc (.map #[] 0)).alloc
        (.cells #[.func (Fn.func 29) #[] #[.pointer (some ⟨w.heap.size + 1, 0, none⟩), .pointer (some ⟨w.heap.size, 0, none⟩), .pointer (some ⟨w.heap.size + 1 + 1, 0, none⟩)], .func (Fn.func 30) #[] #[], .map (some (w.heap.size + 1 + 1 + 1))] 54)).alloc (.map #[] 0)).alloc (.map #[] 0)) := by
  have one : ∀ (w : World) (v : Value) (t : TypeId), (w.alloc (.cells #[v] t)).rowIs w.heap.size t 1 (fun _ => v) := fun w v t => World.rowIs_alloc w #[v] t (fun _ => v) (fun j hj => by
    match j, hj with
    | 0, _ => rfl)
  obtain ⟨w1, hw1⟩ : ∃ w1, w1 = w.alloc (.cells #[.map (some Rb)] 42) := ⟨_, rfl⟩
  have s1 : w1.heap.size = w.heap.size + 1 := by rw [hw1]; simp
  have r1 : w1.rowIs w.heap.size 42 1 (fun _ => .map (some Rb)) := by rw [hw1]; exact one _ _ _
  have k1 : Kept (fun _ => False) w w1 := by rw [hw1]; exact (Kept.refl _ _).alloc _
  rw [← hw1]
  obtain ⟨w2, hw2⟩ : ∃ w2, w2 = w1.alloc (.cells #[.string pre] 9) := ⟨_, rfl⟩
  have s2 : w2.heap.size = w.heap.size + 1 + 1 := by rw [hw2]; simp [s1]
  have r2 : w2.rowIs (w.heap.size + 1) 9 1 (fun _ => .string pre) := by rw [hw2, ← s1]; exact one _ _ _
  have q2 : w2.rowIs w.heap.size 42 1 (fun _ => .map (some Rb)) := by rw [hw2]; exact r1.alloc _
  have k2 : Kept (fun _ => False) w w2 := by rw [hw2]; exact k1.alloc _
  rw [← hw2]
  obtain ⟨w3, hw3⟩ : ∃ w3, w3 = w2.alloc (.cells #[.func (Fn.func 23) #[] #[.pointer (some ⟨QB, 0, none⟩)]] 25) := ⟨_, rfl⟩
  have s3 : w3.heap.size = w.heap.size + 1 + 1 + 1 := by rw [hw3]; simp [s2]
  have r3 : w3.rowIs (w.heap.size + 1 + 1) 25 1 (fun _ => .func (Fn.func 23) #[] #[.pointer (some ⟨QB, 0, none⟩)]) := by rw [hw3, ← s2]; exact one _ _ _
  have k3 : Kept (fun _ => False) w w3 := by rw [hw3]; exact k2.alloc _
  have henv : Env w3 (w.heap.size + 1) w.heap.size (w.heap.size + 1 + 1) QB Rb X n L c pre pass :=
    ⟨by rw [hw3]; exact r2.alloc _, by rw [hw3]; exact q2.alloc _, r3, row_kept hq k3 (fun h => h), SM.kept ⟨es, clock, hmp, hok⟩ k3 (fun h => h), fun i hi => row_kept (hb i hi) k3 (fun h => h), hlt, hsz, hpre⟩
  rw [← hw3]
  obtain ⟨w4, hw4⟩ : ∃ w4, w4 = w3.alloc (.map #[] 0) := ⟨_, rfl⟩
  have s4 : w4.heap.size = w.heap.size + 1 + 1 + 1 + 1 := by rw [hw4]; simp [s3]
  have r4 : SM w4 (w.heap.size + 1 + 1 + 1) (fun _ => none) := by rw [hw4, ← s3]; exact SM.made w3
  have k4 : Kept (fun _ => False) w3 w4 := by rw [hw4]; exact (Kept.refl _ _).alloc _
  rw [← hw4]
  obtain ⟨w5, hw5⟩ : ∃ w5, w5 = w4.alloc (.cells #[.func (Fn.func 29) #[] #[.pointer (some ⟨w.heap.size + 1, 0, none⟩), .pointer (some ⟨w.heap.size, 0, none⟩), .pointer (some ⟨w.heap.size + 1 + 1, 0, none⟩)], .func (Fn.func 30) #[] #[], .map (some (w.heap.size + 1 + 1 + 1))] 54) := ⟨_, rfl⟩
  have s5 : w5.heap.size = w.heap.size + 1 + 1 + 1 + 1 + 1 := by rw [hw5]; simp [s4]
  have r5 : w5.rowIs (w.heap.size + 1 + 1 + 1 + 1) 54 3 (memoF (w.heap.size + 1) w.heap.size (w.heap.size + 1 + 1) (w.heap.size + 1 + 1 + 1)) := by
    rw [hw5, ← s4]
    exact World.rowIs_alloc w4 _ 54 _ (fun j hj => by
      match j, hj with
      | 0, _ => rfl
      | 1, _ => rfl
      | 2, _ => rfl)
  have k5 : Kept (fun _ => False) w3 w5 := by rw [hw5]; exact k4.alloc _
  have k45 : Kept (fun _ => False) w4 w5 := by rw [hw5]; exact (Kept.refl _ _).alloc _
  rw [← hw5]
  obtain ⟨w6, hw6⟩ : ∃ w6, w6 = w5.alloc (.map #[] 0) := ⟨_, rfl⟩
  have s6 : w6.heap.size = w.heap.size + 1 + 1 + 1 + 1 + 1 + 1 := by rw [hw6]; simp [s5]
  have r6 : SM w6 (w.heap.size + 1 + 1 + 1 + 1 + 1) (fun _ => none) := by rw [hw6, ← s5]; exact SM.made w5
  have k6 : Kept (fun _ => False) w5 w6 := by rw [hw6]; exact (Kept.refl _ _).alloc _
  rw [← hw6]
  obtain ⟨w7, hw7⟩ : ∃ w7, w7 = w6.alloc (.map #[] 0) := ⟨_, rfl⟩
  have r7 : SM w7 (w.heap.size + 1 + 1 + 1 + 1 + 1 + 1) (fun _ => none) := by rw [hw7, ← s6]; exact SM.made w6
  have k7 : Kept (fun _ => False) w6 w7 := by rw [hw7]; exact (Kept.refl _ _).alloc _
  rw [← hw7]
  have k57 := k6.trans k7
  have k37 := k5.trans k57
  have hp : ∀ g, Part V (fun _ => none) g := fun g s => ⟨fun h => absurd h (hV s), fun _ => rfl⟩
  refine ⟨henv.kept k37 (fun _ _ h => h), row_kept r5 k57 (fun h => h), ⟨_, (r4.kept k45 (fun h => h)).kept k57 (fun h => h), fun s v h => by cases h⟩, ?_, ⟨_, r6.kept k7 (fun h => h), hp _⟩, ⟨_, r7, hp _⟩, k3.trans k37, hq.lt, (Array.getElem?_eq_some_iff.1 hmp).1, fun i hi => (hb i hi).lt⟩
  rw [(k3.trans k37).block Rb (Array.getElem?_eq_some_iff.1 hmp).1 (fun h => h)]; exact hmp
end
end Go.Proofs.Qxb6609196a
