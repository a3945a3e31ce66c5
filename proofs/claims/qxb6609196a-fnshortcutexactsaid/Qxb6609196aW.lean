import Derived.Test.Qxb6609196aV
import Derived.Deep.AppendLies
import Derived.Deep.DeepCutAuto
import Derived.Deep.RegionHeldLaw
import Derived.BigRegion
namespace Go.Proofs.Qxb6609196a
open Go.RowKit

/-- the memo's three cells -/
def memoF (PB RB FB M : Nat) (j : Nat) : Value := if j = 0 then .func (Fn.func 29) #[] #[.pointer (some ⟨PB, 0, none⟩), .pointer (some ⟨RB, 0, none⟩), .pointer (some ⟨FB, 0, none⟩)] else if j = 1 then .func (Fn.func 30) #[] #[] else .map (some M)

/-- what the memo holds are ends -/
def MemoOk (E : ByteArray → ByteArray) (f : ByteArray → Option Value) : Prop := ∀ s v, f s = some v → v = .string (E s)
theorem MemoOk.upd {E : ByteArray → ByteArray} {f : ByteArray → Option Value} (h : MemoOk E f) (k v : ByteArray) (hv : v = E k) : MemoOk E (upd f k (.string v)) := by
  intro s x hx
  unfold Qxb6609196a.upd at hx
  by_cases e : s = k
  · rw [if_pos e] at hx; cases hx; rw [e, hv]
  · rw [if_neg e] at hx; exact h s x hx

/-- a slice of strings that the call owns -/
def OwnS (base : Nat) (w : World) (v : Value) (ss : List ByteArray) : Prop := w.ownsRow base 9 1 v ss.length (ss.map Value.string)
theorem OwnS.cell {base : Nat} {w : World} {v : Value} {ss : List ByteArray} (h : OwnS base w v ss) {i : Nat} (hi : i < ss.length) :
    ∃ g cap, v = .slice (some ⟨g, 0, none⟩) ss.length cap ∧ w.cell? ⟨g, i, none⟩ = some (.string (ss.getD i ⟨#[]⟩)) ∧ base ≤ g ∧ g < w.heap.size := by
  obtain ⟨g, cap, hv, hb, hg⟩ := World.ownsRow.form h (by omega)
  refine ⟨g, cap, hv, ?_, hb, hg⟩
  have := World.ownsRow.cells h (g := g) (by rw [hv]; rfl) i (.string (ss.getD i ⟨#[]⟩)) (by
    rw [List.getElem?_map, List.getElem?_eq_getElem hi, List.getD_eq_getElem?_getD, List.getElem?_eq_getElem hi]; rfl)
  rw [Go.WideShapes.add_plain, Nat.zero_add] at this
  exact this
theorem OwnS.nilS (base : Nat) (w : World) : OwnS base w (.slice none 0 0) [] := World.ownsRow_nil w base 9 1
theorem OwnS.kept {base : Nat} {w w' : World} {v : Value} {ss : List ByteArray} {row : Option Nat} (h : OwnS base w v ss) (hg : w.grownBy w' row) (hne : v.ownBlock = none ∨ v.ownBlock ≠ row) : OwnS base w' v ss := World.ownsRow.kept h hg hne
theorem OwnS.alloc {base : Nat} {w : World} {v : Value} {ss : List ByteArray} (h : OwnS base w v ss) (o : Obj) : OwnS base (w.alloc o) v ss := World.ownsRow.alloc h o
theorem OwnS.lt {base : Nat} {w : World} {v : Value} {ss : List ByteArray} (h : OwnS base w v ss) : ∀ k, v.ownBlock = some k → base ≤ k ∧ k < w.heap.size := World.ownsRow.lt h
theorem OwnS.form {base : Nat} {w : World} {v : Value} {ss : List ByteArray} (h : OwnS base w v ss) : ∃ a c, v = .slice a ss.length c := by
  rcases h.2 with ⟨rfl, h0⟩ | ⟨g, cap, _, hv, _⟩
  · exact ⟨none, 0, by rw [show ss.length = 0 from h0]⟩
  · exact ⟨_, _, hv⟩

theorem wpList_appS {w : World} {ops : Array Oper} {rest : List Oper} {o : Oper} {a : Act} {Q : Exit → Act → World → Prop} (hgd : o.guard = none) (s x : Operand)
    (ho : o.op = .call { callee := .builtin .append, args := #[s, x], argTypes := #[29, 29] })
    (base : Nat) (v : Value) (ss : List ByteArray) (y : ByteArray) (H : Nat) (hs : a.eval s = v) (hown : OwnS base w v ss) (hx : a.eval x = .slice (some ⟨H, 0, none⟩) 1 1) (hy : w.cell? ⟨H, 0, none⟩ = some (.string y))
    (hlen : ss.length ≤ 100000) (hbase : base ≤ w.heap.size)
    (h : ∀ v' w', OwnS base w' v' (ss ++ [y]) → w.grownBy w' v.ownBlock → (∃ g, v'.ownBlock = some g ∧ (v.ownBlock = some g ∨ g = w.heap.size)) → wpList Try.prog ops Q rest (a.put o.dst v') w') : wpList Try.prog ops Q (o :: rest) a w := by
  obtain ⟨i, hi, hz⟩ := Option.map_eq_some_iff.1 Try.info9
  simp only [Prod.mk.injEq] at hz
  obtain ⟨hz0, hz1, hz2⟩ := hz
  refine wpList_append_lies w hgd s x 29 ho base 9 i (.string ⟨#[]⟩) 1 16 Try.underlying29 hi hz0 hz1 hz2 rfl (by decide) v ss.length (ss.map Value.string) hs hown ⟨H, 0, none⟩ 1 1 [.string y] hx rfl ?_ ?_ (by decide) (by unfold maxLen; omega) (by omega) hbase w.heap.size rfl ?_
  · intro j u hj
    match j, hj with
    | 0, hj => simp at hj; subst hj; simpa [Addr.add] using hy
  · intro u hu; simp at hu; subst hu; rfl
  · intro g cap w' h1 h2 h3 h4
    refine h _ w' ?_ h2 ⟨g, rfl, h3⟩
    unfold OwnS
    rw [List.length_append, List.map_append]
    exact h1

section
variable (lk : ByteArray → Option ByteArray) (p0 : ByteArray)
/-- the j-th pointer of the chain from p0 -/
def gp (j : Nat) : ByteArray := (iter lk j p0).getD ⟨#[]⟩
def gl (k : Nat) : List ByteArray := (List.range k).map (gp lk p0)
theorem gl_len (k : Nat) : (gl lk p0 k).length = k := by simp [gl]
theorem gl_succ (k : Nat) : gl lk p0 (k + 1) = gl lk p0 k ++ [gp lk p0 k] := by simp [gl, List.range_succ]
theorem gl_get (k i : Nat) (h : i < k) : (gl lk p0 k).getD i ⟨#[]⟩ = gp lk p0 i := by
  simp [gl, List.getD_eq_getElem?_getD, h]

/-- k links have been followed, no pointer met twice -/
structure Trail (k : Nat) : Prop where
  here : iter lk k p0 = some (gp lk p0 k)
  dist : ∀ i j, i < j → j < k → gp lk p0 i ≠ gp lk p0 j

variable {lk p0}
theorem Trail.zero : Trail lk p0 0 := ⟨rfl, fun i j _ h => by omega⟩
theorem Trail.at {k : Nat} (h : Trail lk p0 k) {j : Nat} (hj : j ≤ k) : iter lk j p0 = some (gp lk p0 j) := by
  cases e : iter lk j p0 with
  | none => have := iter_none lk e hj; rw [h.here] at this; cases this
  | some x => unfold gp; rw [e]; rfl
theorem Trail.link {k : Nat} (h : Trail lk p0 k) {j : Nat} (hj : j < k) : lk (gp lk p0 j) = some (gp lk p0 (j + 1)) := by
  have h1 := h.at (j := j + 1) (by omega)
  rw [iter, h.at (j := j) (by omega)] at h1
  exact h1
theorem Trail.next {k : Nat} (h : Trail lk p0 k) {q : ByteArray} (hq : lk (gp lk p0 k) = some q) (hno : ∀ j, j < k → gp lk p0 j ≠ gp lk p0 k) : Trail lk p0 (k + 1) ∧ gp lk p0 (k + 1) = q := by
  have h1 : iter lk (k + 1) p0 = some q := by rw [iter, h.here]; exact hq
  have h2 : gp lk p0 (k + 1) = q := by unfold gp; rw [h1]; rfl
  refine ⟨⟨by rw [h1, h2], fun i j hij hj => ?_⟩, h2⟩
  by_cases e : j = k
  · subst e; exact hno i hij
  · exact h.dist i j hij (by omega)
theorem Trail.few {n : Nat} {ix : ByteArray → Nat} (hf : Few lk n ix) {k : Nat} (h : Trail lk p0 k) : k ≤ n := by
  have hnd : (gl lk p0 k).Nodup := by
    unfold gl
    rw [List.Nodup, List.pairwise_map]
    refine List.Pairwise.imp_of_mem ?_ List.pairwise_lt_range
    intro a b _ hb hab
    exact h.dist a b hab (List.mem_range.1 hb)
  have := few_list lk hf (gl lk p0 k) hnd (fun x hx => by
    obtain ⟨i, hi, rfl⟩ := List.mem_map.1 hx
    exact ⟨_, h.link (List.mem_range.1 hi)⟩)
  rwa [gl_len] at this
theorem Trail.same {n : Nat} {ix : ByteArray → Nat} (hf : Few lk n ix) {k : Nat} (h : Trail lk p0 k) : ∀ d j, j + d = k → EE lk n (gp lk p0 j) = EE lk n (gp lk p0 k)
  | 0, j, e => by rw [show j = k by omega]
  | d + 1, j, e => by rw [EE_link hf (h.link (j := j) (by omega))]; exact Trail.same hf h d (j + 1) (by omega)
theorem Trail.loop {n : Nat} {k : Nat} (h : Trail lk p0 k) {i : Nat} (hi : i < k) (he : gp lk p0 i = gp lk p0 k) : EE lk n (gp lk p0 k) = ⟨#[]⟩ := by
  apply EE_loop (k := k - i) (by omega)
  have h1 := h.here
  have h2 : i + (k - i) = k := by omega
  rw [← h2, iter_add, h.at (j := i) (by omega)] at h1
  rw [h2, ← he] at h1
  rw [← he]
  exact h1
end
end Go.Proofs.Qxb6609196a
