/- More laws for maps keyed by strings: an entry laid and filled; a range. -/
import Derived.Test.Qxb6609196aR
namespace Go.Proofs.Qxb6609196a
open Go.RowKit
open Go.ChangeMaps (setBlock)
open Go.MapKept

section
variable {P : Program} {w : World} {b : Nat} {f : ByteArray → Option Value} {T K E : TypeId}

/-- 'm[k], .. = v, ..': the entry is laid, then filled -/
theorem run_entry_pair (hT : P.underlying T = some (.map K E)) (hK : P.underlying K = some .string) {z : Value} (hz : ∀ w, (zeroValue E).run P w = .ok z w) (h : SM w b f) (k : ByteArray) (v : Value) (hk : f k = none) :
    ∃ (ck : Nat) (w1 w2 : World), (Instr.mapEntry T (.map (some b)) (.string k)).run P w = .ok (.tuple #[z, .int .i64 (ck : Nat)]) w1 ∧ (Instr.entryStore T (.map (some b)) (.int .i64 (ck : Nat)) v).run P w1 = .ok () w2 ∧
      w.grownBy w1 (some b) ∧ w1.heap.size = w.heap.size ∧ w1.grownBy w2 (some b) ∧ w2.heap.size = w1.heap.size ∧ SM w2 b (upd f k v) := by
  obtain ⟨es, c, hb, hok⟩ := h
  rcases hok.find k with ⟨h1, _, h3⟩ | ⟨j, e, _, _, _, h2⟩
  · obtain ⟨g1, g2, g3⟩ := grown_set (o' := .map (es.push { key := .string k, val := z, born := c }) (c + 1)) hb
    obtain ⟨w1, hw1⟩ : ∃ w1 : World, w1 = { w with heap := w.heap.setIfInBounds b (.map (es.push { key := .string k, val := z, born := c }) (c + 1)) } := ⟨_, rfl⟩
    rw [← hw1] at g1 g2 g3
    have hr1 : (Instr.mapEntry T (.map (some b)) (.string k)).run P w = .ok (.tuple #[z, .int .i64 (c : Nat)]) w1 := by
      rw [hw1]
      simp [Instr.mapEntry, run_underlying hT, Go.MapKept.run_getObj_map hb, run_checkKey hK (isKey_str k), run_findKey hK h1, run_setObj_map _ hb, hz, Result.andThen, goInt]
    have hfi : (es.push { key := .string k, val := z, born := c }).findIdx? (fun e => (e.born : Int) == (c : Int)) = some es.size := by
      rw [Array.findIdx?_eq_some_iff_getElem]
      refine ⟨by simp, by simp, fun i hi => ?_⟩
      rw [Array.getElem_push_lt hi]
      obtain ⟨_, _, _, hl⟩ := hok.1 es[i] (by simp)
      simp
      omega
    have hmod : (es.push { key := .string k, val := z, born := c }).modify es.size (fun e => { e with val := v }) = es.push { key := .string k, val := v, born := c } := by
      apply Array.ext'
      apply List.ext_getElem?
      intro i
      rw [Array.getElem?_toList, Array.getElem?_toList, Array.getElem?_modify, Array.getElem?_push, Array.getElem?_push]
      by_cases e : es.size = i
      · subst e; simp
      · rw [if_neg e, if_neg (fun h => e h.symm), if_neg (fun h => e h.symm)]
    obtain ⟨q1, q2, q3⟩ := grown_set (o' := .map (es.push { key := .string k, val := v, born := c }) (c + 1)) g3
    refine ⟨c, w1, _, hr1, ?_, g1, g2, q1, q2, ⟨_, _, q3, hok.push k v h3⟩⟩
    simp [Instr.entryStore, Go.MapKept.run_getObj_map g3, run_setObj_map _ g3, asInt, asIntOf, Result.andThen, hfi, hmod]
  · rw [hk] at h2; cases h2
end

section
variable {P : Program} {w : World} {ops : Array Oper} {rest : List Oper} {o : Oper} {a : Act} {Q : Exit → Act → World → Prop}

theorem setBlock_facts {w w1 : World} {r : Nat} {o o' : Obj} (hr : w.heap[r]? = some o) (hw : w1 = w ∨ w1 = w.drew) : w.grownBy (setBlock w1 r o') (some r) ∧ (setBlock w1 r o').heap.size = w.heap.size ∧ (setBlock w1 r o').heap[r]? = some o' := by
  have hlt : r < w.heap.size := (Array.getElem?_eq_some_iff.1 hr).1
  have hh : w1.heap = w.heap := by rcases hw with rfl | rfl <;> rfl
  have ho : w1.os = w.os := by rcases hw with rfl | rfl <;> rfl
  have ht : w1.tape = w.tape := by rcases hw with rfl | rfl <;> rfl
  have hu : w1.output = w.output := by rcases hw with rfl | rfl <;> rfl
  refine ⟨⟨ho, ht, hu, by simp [setBlock, hh], fun k hk hne => ?_⟩, by simp [setBlock, hh], by simp [setBlock, hh, hlt]⟩
  have : r ≠ k := fun e => hne (by rw [e])
  simp [setBlock, hh, this]

/-- a step of a range over a map: nothing is left, or one entry that has not been seen comes -/
theorem wpList_next (hg : o.guard = none) (it : Operand) (hop : o.op = Op.next it false) (r bm clock : Nat) (seen : Array Nat) (es : Array MapEntry) (f : ByteArray → Option Value) (hit : a.eval it = .pointer (some ⟨r, 0, none⟩))
    (hr : w.heap[r]? = some (.mapIter (some bm) clock seen clock)) (hb : w.heap[bm]? = some (.map es clock)) (hok : MOk es clock f)
    (hDone : (leftOf es seen).size = 0 → wpList P ops Q rest (a.put o.dst (.tuple #[.bool false])) w)
    (hMore : ∀ (e : MapEntry) (s : ByteArray) (w' : World), e ∈ (leftOf es seen).toList → e.key = .string s → f s = some e.val → w.grownBy w' (some r) → w'.heap.size = w.heap.size → w'.heap[r]? = some (.mapIter (some bm) clock (seen.push e.born) clock) → (r ≠ bm → (Instr.entry (.pointer (some ⟨r, 0, none⟩))).run P w' = .ok (.tuple #[.string s, e.val]) w') →
      wpList P ops Q rest (a.put o.dst (.tuple #[.bool true, .string s, e.val])) w') : wpList P ops Q (o :: rest) a w := by
  refine wpList_plain hg fun K' hK' => ?_
  unfold Oper.wp
  have hold : ∀ x ∈ es.toList, x.born < clock := fun x hx => by obtain ⟨_, _, _, h⟩ := hok.1 x hx; exact h
  rcases run_next_at (P := P) w o.type r bm clock clock seen es clock hr hb hold (Nat.le_refl _) with ⟨h0, hrun⟩ | ⟨e, he, w1, hw1, hrun⟩
  · simp [execOp, hop, hit, hrun, Result.andThen]
    exact hK' _ _ (hDone h0)
  · have hes := (mem_left he).1
    obtain ⟨s, hs, hf, _⟩ := hok.1 e hes
    obtain ⟨q1, q2, q3⟩ := setBlock_facts (o' := .mapIter (some bm) clock (seen.push e.born) clock) hr hw1
    rw [hs] at hrun
    simp [execOp, hop, hit, hrun, Result.andThen]
    refine hK' _ _ (hMore e s _ he hs hf q1 q2 q3 fun hne => ?_)
    have hb' : (setBlock w1 r (.mapIter (some bm) clock (seen.push e.born) clock)).heap[bm]? = some (.map es clock) := by
      rw [q1.block bm (Array.getElem?_eq_some_iff.1 hb).1 (fun e => hne (by cases e; rfl))]; exact hb
    have := run_entry_at (P := P) _ r bm clock seen es clock e q3 hb' hes hok.2.1
    rw [hs] at this
    exact this

/-- .. the elements' shape told by mk -/
theorem wpList_nextB {β : Type} (mk : β → Value) (hg : o.guard = none) (it : Operand) (hop : o.op = Op.next it false) (r bm clock : Nat) (seen : Array Nat) (es : Array MapEntry) (f : ByteArray → Option Value) (hit : a.eval it = .pointer (some ⟨r, 0, none⟩))
    (hr : w.heap[r]? = some (.mapIter (some bm) clock seen clock)) (hb : w.heap[bm]? = some (.map es clock)) (hok : MOk es clock f) (hmk : ∀ s v, f s = some v → ∃ b, v = mk b) (hne : r ≠ bm)
    (hDone : (leftOf es seen).size = 0 → wpList P ops Q rest (a.put o.dst (.tuple #[.bool false])) w)
    (hMore : ∀ (e : MapEntry) (s : ByteArray) (b : β) (w' : World), e ∈ (leftOf es seen).toList → e.key = .string s → f s = some (mk b) → w.grownBy w' (some r) → w'.heap.size = w.heap.size → w'.heap[r]? = some (.mapIter (some bm) clock (seen.push e.born) clock) → (Instr.entry (.pointer (some ⟨r, 0, none⟩))).run P w' = .ok (.tuple #[.string s, mk b]) w' →
      wpList P ops Q rest (a.put o.dst (.tuple #[.bool true, .string s, mk b])) w') : wpList P ops Q (o :: rest) a w :=
  wpList_next hg it hop r bm clock seen es f hit hr hb hok hDone fun e s w' h1 h2 h3 h4 h5 h6 h7 => by
    obtain ⟨b, hv⟩ := hmk s _ h3
    rw [hv] at h3 h7 ⊢
    exact hMore e s b w' h1 h2 h3 h4 h5 h6 (h7 hne)

theorem wpList_rangeM (hg : o.guard = none) (m : Operand) (T : TypeId) (hop : o.op = Op.range T m) (K E : TypeId) (hT : P.underlying T = some (.map K E)) (bm clock : Nat) (es : Array MapEntry) (hm : a.eval m = .map (some bm)) (hb : w.heap[bm]? = some (.map es clock)) (H : Nat) (hH : w.heap.size = H)
    (hK : ∀ w', w'.heap[H]? = some (.mapIter (some bm) clock #[] clock) → w.grownBy w' none → w'.heap.size = H + 1 → wpList P ops Q rest (a.put o.dst (.pointer (some ⟨H, 0, none⟩))) w') : wpList P ops Q (o :: rest) a w := by
  subst hH
  refine wpList_plain hg fun K' hK' => ?_
  have hrun : (Instr.range T (.map (some bm))).run P w = .ok (.pointer (some ⟨w.heap.size, 0, none⟩)) (w.alloc (.mapIter (some bm) clock #[] clock)) := by
    simp [Instr.range, run_underlying hT, Go.MapKept.run_getObj_map hb, Result.andThen]
  unfold Oper.wp
  simp [execOp, hop, hm, hrun, Result.andThen]
  exact hK' _ _ (hK _ (by show (w.heap.push _)[w.heap.size]? = _; simp) (World.grownBy_alloc w _ none) (by simp))

theorem run_range_sm {T K E : TypeId} (hT : P.underlying T = some (.map K E)) {w : World} {bm : Nat} {es : Array MapEntry} {clock : Nat} (hb : w.heap[bm]? = some (.map es clock)) :
    (Instr.range T (.map (some bm))).run P w = .ok (.pointer (some ⟨w.heap.size, 0, none⟩)) (w.alloc (.mapIter (some bm) clock #[] clock)) := by
  simp [Instr.range, run_underlying hT, Go.MapKept.run_getObj_map hb, Result.andThen]
end

/-- has the entry at s been seen? -/
def Vis (es : Array MapEntry) (seen : Array Nat) (s : ByteArray) : Prop := ∃ e ∈ es.toList, e.key = .string s ∧ seen.contains e.born = true
theorem vis_none (es : Array MapEntry) (s : ByteArray) : ¬ Vis es #[] s := by
  rintro ⟨e, _, _, h⟩; simp at h
theorem vis_all {es : Array MapEntry} {clock : Nat} {f : ByteArray → Option Value} (hok : MOk es clock f) {seen : Array Nat} (h : (leftOf es seen).size = 0) {s : ByteArray} {v : Value} (hs : f s = some v) : Vis es seen s := by
  obtain ⟨e, he, hk⟩ := hok.2.2.2 s v hs
  refine ⟨e, he, hk, ?_⟩
  cases hc : seen.contains e.born with
  | true => rfl
  | false =>
    exfalso
    have : e ∈ (leftOf es seen) := by
      unfold leftOf
      rw [Array.mem_filter]
      refine ⟨by simpa using he, ?_⟩
      simp only [hc]; rfl
    have h0 : leftOf es seen = #[] := Array.eq_empty_of_size_eq_zero h
    rw [h0] at this
    simp at this
theorem vis_push {es : Array MapEntry} {clock : Nat} {f : ByteArray → Option Value} (hok : MOk es clock f) {seen : Array Nat} {e : MapEntry} {s : ByteArray} (he : e ∈ es.toList) (hs : e.key = .string s) (x : ByteArray) :
    Vis es (seen.push e.born) x ↔ (Vis es seen x ∨ x = s) := by
  constructor
  · rintro ⟨e', he', hk, hc⟩
    rw [Array.contains_iff_mem, Array.mem_push] at hc
    rcases hc with hc | hc
    · exact .inl ⟨e', he', hk, by rw [Array.contains_iff_mem]; exact hc⟩
    · right
      have : e' = e := nodup_key_inj hok.2.1 he' he hc
      subst this
      rw [hs] at hk
      cases hk; rfl
  · rintro (⟨e', he', hk, hc⟩ | rfl)
    · exact ⟨e', he', hk, by rw [Array.contains_iff_mem] at hc ⊢; exact Array.mem_push.2 (.inl hc)⟩
    · exact ⟨e, he, hs, by rw [Array.contains_iff_mem]; exact Array.mem_push.2 (.inr rfl)⟩
theorem not_vis {es : Array MapEntry} {clock : Nat} {f : ByteArray → Option Value} (hok : MOk es clock f) {seen : Array Nat} {e : MapEntry} {s : ByteArray} (he : e ∈ (leftOf es seen).toList) (hs : e.key = .string s) : ¬ Vis es seen s := by
  rintro ⟨e', he', hk, hc⟩
  obtain ⟨h1, h2⟩ := mem_left he
  have : e' = e := nodup_key_inj hok.2.2.1 he' h1 (by rw [hk, hs])
  subst this
  rw [h2] at hc
  cases hc
end Go.Proofs.Qxb6609196a
