/- Laws for maps keyed by strings, seen as functions from keys (this program's own work; over the model's run). -/
import Derived.Test.Qxb6609196aC
import Derived.Maps.OwnOps
import Derived.Maps.OwnSet
import Derived.Maps.RangeWalk
namespace Go.Proofs.Qxb6609196a
open Go.RowKit
open Go.ChangeMaps (setBlock)
open Go.MapKept

/-- the entries es, stamped below clock, are the function f -/
def MOk (es : Array MapEntry) (clock : Nat) (f : ByteArray → Option Value) : Prop :=
  (∀ e ∈ es.toList, ∃ k, e.key = .string k ∧ f k = some e.val ∧ e.born < clock) ∧ (es.toList.map (·.born)).Nodup ∧ (es.toList.map (·.key)).Nodup ∧ ∀ k v, f k = some v → ∃ e ∈ es.toList, e.key = .string k
/-- block b is a map: f -/
def SM (w : World) (b : Nat) (f : ByteArray → Option Value) : Prop := ∃ es clock, w.heap[b]? = some (.map es clock) ∧ MOk es clock f

/-- f with k at v -/
def upd (f : ByteArray → Option Value) (k : ByteArray) (v : Value) : ByteArray → Option Value := fun x => if x = k then some v else f x

theorem SM.of_block {w w' : World} {b : Nat} {f : ByteArray → Option Value} (h : SM w b f) (e : w'.heap[b]? = w.heap[b]?) : SM w' b f := by
  obtain ⟨es, c, hb, hok⟩ := h
  exact ⟨es, c, e.trans hb, hok⟩
theorem SM.lt {w : World} {b : Nat} {f : ByteArray → Option Value} (h : SM w b f) : b < w.heap.size := by
  obtain ⟨es, c, hb, _⟩ := h
  exact (Array.getElem?_eq_some_iff.1 hb).1
theorem SM.congr {w : World} {b : Nat} {f g : ByteArray → Option Value} (h : SM w b f) (e : ∀ k, f k = g k) : SM w b g := by
  have : f = g := funext e
  subst this; exact h
theorem SM.made (w : World) : SM (w.alloc (.map #[] 0)) w.heap.size (fun _ => none) :=
  ⟨#[], 0, by show (w.heap.push _)[w.heap.size]? = _; simp, by simp [MOk]⟩

theorem nodup_key_inj {α β : Type} {g : α → β} : ∀ {l : List α}, (l.map g).Nodup → ∀ {x y : α}, x ∈ l → y ∈ l → g x = g y → x = y
  | [], _, _, _, hx, _, _ => by cases hx
  | a :: l, h, x, y, hx, hy, e => by
    simp only [List.map_cons, List.nodup_cons] at h
    rcases List.mem_cons.1 hx with rfl | hx'
    · rcases List.mem_cons.1 hy with rfl | hy'
      · rfl
      · exact absurd (List.mem_map.2 ⟨y, hy', e.symm⟩) h.1
    · rcases List.mem_cons.1 hy with rfl | hy'
      · exact absurd (List.mem_map.2 ⟨x, hx', e⟩) h.1
      · exact nodup_key_inj h.2 hx' hy' e

theorem isKey_str (k : ByteArray) : IsKey .string (.string k) := trivial
theorem MOk.keys {es : Array MapEntry} {c : Nat} {f : ByteArray → Option Value} (h : MOk es c f) : ∀ x ∈ es.toList, IsKey .string x.key := by
  intro x hx
  obtain ⟨k, hk, _⟩ := h.1 x hx
  rw [hk]; trivial

theorem MOk.find {es : Array MapEntry} {c : Nat} {f : ByteArray → Option Value} (h : MOk es c f) (k : ByteArray) :
    (Instr.findNow .string (.string k) es.toList 0 = some none ∧ f k = none ∧ ∀ x ∈ es.toList, x.key ≠ .string k) ∨
    ∃ j e, Instr.findNow .string (.string k) es.toList 0 = some (some (j, e.val)) ∧ es.toList[j]? = some e ∧ e.key = .string k ∧ f k = some e.val := by
  rcases findNow_spec (isKey_str k) es.toList 0 h.keys with ⟨h1, h2⟩ | ⟨j, e, h1, h2, h3⟩
  · refine .inl ⟨h1, ?_, h2⟩
    cases hf : f k with
    | none => rfl
    | some v => obtain ⟨e, he, hk⟩ := h.2.2.2 k v hf; exact absurd hk (h2 e he)
  · refine .inr ⟨j, e, by rw [h1, Nat.zero_add], h2, h3, ?_⟩
    obtain ⟨k', hk', hf, _⟩ := h.1 e (List.mem_of_getElem? h2)
    rw [h3] at hk'
    cases hk'
    exact hf

section
variable {P : Program} {w : World} {b : Nat} {f : ByteArray → Option Value} {T K E : TypeId}

theorem run_look (hT : P.underlying T = some (.map K E)) (hK : P.underlying K = some .string) {z : Value} (hz : (zeroValue E).run P w = .ok z w) (h : SM w b f) (k : ByteArray) (ok : Bool) :
    (Instr.lookup T (.map (some b)) (.string k) ok).run P w = .ok (if ok then .tuple #[(f k).getD z, .bool (f k).isSome] else (f k).getD z) w := by
  obtain ⟨es, c, hb, hok⟩ := h
  rcases hok.find k with ⟨h1, h2, _⟩ | ⟨j, e, h1, _, _, h2⟩
  · simp [Instr.lookup, run_underlying hT, Go.MapKept.run_getObj_map hb, run_checkKey hK (isKey_str k), run_findKey hK h1, hz, h2, Result.andThen]
  · simp [Instr.lookup, run_underlying hT, Go.MapKept.run_getObj_map hb, run_checkKey hK (isKey_str k), run_findKey hK h1, h2, Result.andThen]

theorem MOk.push {es : Array MapEntry} {c : Nat} (h : MOk es c f) (k : ByteArray) (v : Value) (hn : ∀ x ∈ es.toList, x.key ≠ .string k) :
    MOk (es.push { key := .string k, val := v, born := c }) (c + 1) (upd f k v) := by
  refine ⟨?_, ?_, ?_, ?_⟩
  · intro e he
    rw [Array.toList_push, List.mem_append, List.mem_singleton] at he
    rcases he with he | rfl
    · obtain ⟨k', hk', hf, hl⟩ := h.1 e he
      refine ⟨k', hk', ?_, by omega⟩
      unfold upd
      rw [if_neg (fun e' => hn e he (by rw [hk', e'])), hf]
    · exact ⟨k, rfl, by simp [upd], by simp⟩
  · rw [Array.toList_push, List.map_append, List.nodup_append]
    refine ⟨h.2.1, by simp, ?_⟩
    intro x hx y hy
    obtain ⟨e, he, rfl⟩ := List.mem_map.1 hx
    obtain ⟨_, _, _, hl⟩ := h.1 e he
    simp at hy
    subst hy
    omega
  · rw [Array.toList_push, List.map_append, List.nodup_append]
    refine ⟨h.2.2.1, by simp, ?_⟩
    intro x hx y hy
    obtain ⟨e, he, rfl⟩ := List.mem_map.1 hx
    simp at hy
    subst hy
    exact hn e he
  · intro k' v' hf
    unfold upd at hf
    by_cases e : k' = k
    · subst e; exact ⟨_, by rw [Array.toList_push]; exact List.mem_append_right _ (List.mem_singleton.2 rfl), rfl⟩
    · rw [if_neg e] at hf
      obtain ⟨x, hx, hk⟩ := h.2.2.2 k' v' hf
      exact ⟨x, by rw [Array.toList_push]; exact List.mem_append_left _ hx, hk⟩

theorem MOk.modify {es : Array MapEntry} {c : Nat} (h : MOk es c f) {k : ByteArray} (v : Value) {j : Nat} {e : MapEntry} (hj : es.toList[j]? = some e) (hk : e.key = .string k) :
    MOk (es.modify j fun x => { x with key := .string k, val := v }) c (upd f k v) := by
  have hlen : j < es.toList.length := (List.getElem?_eq_some_iff.1 hj).1
  have hjs : j < es.size := hlen
  have hej : es[j] = e := by have := (List.getElem?_eq_some_iff.1 hj).2; simpa using this
  have hget : ∀ i, (es.modify j fun x => { x with key := .string k, val := v })[i]? = (es[i]?).map fun x => if i = j then { x with key := .string k, val := v } else x := by
    intro i
    rw [Array.getElem?_modify]
    by_cases e' : j = i
    · subst e'; simp
    · rw [if_neg e']; cases es[i]? <;> simp [Ne.symm e']
  have hlist : (es.modify j fun x => { x with key := .string k, val := v }).toList.length = es.toList.length := by simp
  have hb : (es.modify j fun x => { x with key := .string k, val := v }).toList.map (·.born) = es.toList.map (·.born) := by
    apply List.ext_getElem?
    intro i
    rw [List.getElem?_map, List.getElem?_map, Array.getElem?_toList, Array.getElem?_toList, hget]
    cases es[i]? with
    | none => rfl
    | some x => by_cases e' : i = j <;> simp [e']
  have hkk : (es.modify j fun x => { x with key := .string k, val := v }).toList.map (·.key) = es.toList.map (·.key) := by
    apply List.ext_getElem?
    intro i
    rw [List.getElem?_map, List.getElem?_map, Array.getElem?_toList, Array.getElem?_toList, hget]
    by_cases e' : i = j
    · subst e'
      simp [Array.getElem?_eq_getElem hjs, hej, hk]
    · cases es[i]? <;> simp [e']
  have hmem : e ∈ es.toList := List.mem_of_getElem? hj
  refine ⟨?_, by rw [hb]; exact h.2.1, by rw [hkk]; exact h.2.2.1, ?_⟩
  · intro x hx
    obtain ⟨i, hi⟩ := List.mem_iff_getElem?.1 hx
    rw [Array.getElem?_toList, hget] at hi
    cases hei : es[i]? with
    | none => rw [hei] at hi; cases hi
    | some y =>
      rw [hei, Option.map_some, Option.some.injEq] at hi
      have hy : y ∈ es.toList := List.mem_of_getElem? (i := i) (by rw [Array.getElem?_toList]; exact hei)
      by_cases e' : i = j
      · rw [if_pos e'] at hi
        subst hi
        obtain ⟨_, _, _, hl⟩ := h.1 y hy
        exact ⟨k, rfl, by simp [upd], hl⟩
      · rw [if_neg e'] at hi
        subst hi
        obtain ⟨k', hk', hf, hl⟩ := h.1 y hy
        refine ⟨k', hk', ?_, hl⟩
        unfold upd
        rw [if_neg, hf]
        intro hkk'
        subst hkk'
        have hye : y = e := nodup_key_inj h.2.2.1 hy hmem (by rw [hk', hk])
        subst hye
        apply e'
        have h1 : es.toList[i]? = some y := by rw [Array.getElem?_toList]; exact hei
        have hnd : es.toList.Nodup := List.Pairwise.of_map _ (fun a b hab hab' => hab (by rw [hab'])) h.2.2.1
        obtain ⟨hi', hi2⟩ := List.getElem?_eq_some_iff.1 h1
        obtain ⟨hj', hj2⟩ := List.getElem?_eq_some_iff.1 hj
        have hp := List.pairwise_iff_getElem.1 hnd
        rcases Nat.lt_trichotomy i j with h1 | h1 | h1
        · exact absurd (hi2.trans hj2.symm) (hp i j hi' hj' h1)
        · exact h1
        · exact absurd (hj2.trans hi2.symm) (hp j i hj' hi' h1)
  · intro k' v' hf
    unfold upd at hf
    have hback : ∀ x ∈ es.toList, ∃ y ∈ (es.modify j fun x => { x with key := .string k, val := v }).toList, y.key = x.key := by
      intro x hx
      have : x.key ∈ (es.modify j fun x => { x with key := .string k, val := v }).toList.map (·.key) := by rw [hkk]; exact List.mem_map.2 ⟨x, hx, rfl⟩
      obtain ⟨y, hy, hye⟩ := List.mem_map.1 this
      exact ⟨y, hy, hye⟩
    by_cases e' : k' = k
    · subst e'
      obtain ⟨y, hy, hye⟩ := hback e hmem
      exact ⟨y, hy, hye.trans hk⟩
    · rw [if_neg e'] at hf
      obtain ⟨x, hx, hxk⟩ := h.2.2.2 k' v' hf
      obtain ⟨y, hy, hye⟩ := hback x hx
      exact ⟨y, hy, hye.trans hxk⟩

/-- a write to block b alone, no new block -/
theorem grown_set {w : World} {b : Nat} {o o' : Obj} (hb : w.heap[b]? = some o) : w.grownBy { w with heap := w.heap.setIfInBounds b o' } (some b) ∧ ({ w with heap := w.heap.setIfInBounds b o' } : World).heap.size = w.heap.size ∧ ({ w with heap := w.heap.setIfInBounds b o' } : World).heap[b]? = some o' := by
  refine ⟨⟨rfl, rfl, rfl, by simp, fun k hk hne => ?_⟩, by simp, (heap_set hb).1⟩
  exact (heap_set hb).2 k (fun e => hne (by rw [e]))

theorem run_upd (hT : P.underlying T = some (.map K E)) (hK : P.underlying K = some .string) (h : SM w b f) (k : ByteArray) (v : Value) :
    ∃ w', (Instr.mapUpdate T (.map (some b)) (.string k) v).run P w = .ok () w' ∧ SM w' b (upd f k v) ∧ w.grownBy w' (some b) ∧ w'.heap.size = w.heap.size := by
  obtain ⟨es, c, hb, hok⟩ := h
  rcases hok.find k with ⟨h1, h2, h3⟩ | ⟨j, e, h1, hj, hk, h2⟩
  · obtain ⟨g1, g2, g3⟩ := grown_set (o' := .map (es.push { key := .string k, val := v, born := c }) (c + 1)) hb
    refine ⟨_, ?_, ⟨_, _, g3, hok.push k v h3⟩, g1, g2⟩
    simp [Instr.mapUpdate, run_underlying hT, Go.MapKept.run_getObj_map hb, run_checkKey hK (isKey_str k), run_findKey hK h1, run_setObj_map _ hb, Result.andThen]
  · obtain ⟨g1, g2, g3⟩ := grown_set (o' := .map (es.modify j fun x => { x with key := .string k, val := v }) c) hb
    refine ⟨_, ?_, ⟨_, _, g3, hok.modify v hj hk⟩, g1, g2⟩
    have hes : es[j]? = some e := by rw [← Array.getElem?_toList]; exact hj
    simp [Instr.mapUpdate, run_underlying hT, Go.MapKept.run_getObj_map hb, run_checkKey hK (isKey_str k), run_findKey hK h1, run_setObj_map _ hb, Result.andThen, hes, hk, run_keyThatStays (isKey_str k)]

theorem run_len (hT : P.underlying T = some (.map K E)) {es : Array MapEntry} {c : Nat} (hb : w.heap[b]? = some (.map es c)) (ty : TypeId) :
    (Builtin.len_ #[T] ty #[.map (some b)]).run P w = .ok (.int .i64 (es.size : Nat)) w := by
  simp [Builtin.len_, run_underlying hT, Go.MapKept.run_getObj_map hb, Result.andThen, goInt]
end

section
variable {P : Program} {w : World} {ops : Array Oper} {rest : List Oper} {o : Oper} {a : Act} {Q : Exit → Act → World → Prop}

theorem wpList_look (hg : o.guard = none) (m x : Operand) (T : TypeId) (ok : Bool) (hop : o.op = Op.lookup T m x ok) (K E : TypeId) (hT : P.underlying T = some (.map K E)) (hK : P.underlying K = some .string) (z : Value) (hz : ∀ w, (zeroValue E).run P w = .ok z w)
    (b : Nat) (f : ByteArray → Option Value) (k : ByteArray) (r : Option Value) (hm : a.eval m = .map (some b)) (hx : a.eval x = .string k) (h : SM w b f) (hr : f k = r)
    (hK' : wpList P ops Q rest (a.put o.dst (if ok then .tuple #[r.getD z, .bool r.isSome] else r.getD z)) w) : wpList P ops Q (o :: rest) a w := by
  refine wpList_plain hg fun K' hK2 => ?_
  have hrun := run_look hT hK (hz w) h k ok
  rw [hr] at hrun
  unfold Oper.wp
  simp only [execOp, hop, hm, hx, hrun, Result.andThen, Sem.run_bind, Sem.run_pure]
  exact hK2 _ _ hK'

theorem wpList_upd (hg : o.guard = none) (m x v : Operand) (T : TypeId) (hop : o.op = Op.mapUpdate T m x v) (K E : TypeId) (hT : P.underlying T = some (.map K E)) (hK : P.underlying K = some .string)
    (b : Nat) (f : ByteArray → Option Value) (k : ByteArray) (val : Value) (hm : a.eval m = .map (some b)) (hx : a.eval x = .string k) (hv : a.eval v = val) (h : SM w b f)
    (hK' : ∀ w', SM w' b (upd f k val) → w.grownBy w' (some b) → w'.heap.size = w.heap.size → wpList P ops Q rest (a.put o.dst undef) w') : wpList P ops Q (o :: rest) a w := by
  refine wpList_plain hg fun K' hK2 => ?_
  obtain ⟨w', hrun, h1, h2, h3⟩ := run_upd hT hK h k val
  unfold Oper.wp
  simp [execOp, hop, hm, hx, hv, hrun, Result.andThen]
  exact hK2 _ _ (hK' w' h1 h2 h3)
end
end Go.Proofs.Qxb6609196a
