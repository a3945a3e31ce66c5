import Derived.Test.Qxb6609196aW
import Derived.Deep.CutBlock
namespace Go.Proofs.Qxb6609196a
open Go.RowKit

def FromPost (E : ByteArray → ByteArray) (p : ByteArray) (M : Nat) (w : World) (e : Ending) (w' : World) : Prop :=
  e = .returned (.string (E p)) ∧ Kept (fun k => k = M) w w' ∧ ∃ f, SM w' M f ∧ MemoOk E f

/-- behind the first loop -/
def Cut1 (lk : ByteArray → Option ByteArray) (p0 : ByteArray) (n : Nat) (w : World) (v1 v2 a l : Value) (wc : World) : Prop :=
  ∃ (len : Nat) (v after0 : ByteArray) (os : List ByteArray) (lp : Int), a = .string after0 ∧ l = .int .i64 lp ∧ -1 ≤ lp ∧ lp ≤ 100000 ∧ len ≤ n + 1 ∧ os.length = len ∧ OwnS (w.heap.size + 1) wc v1 (gl lk p0 len) ∧ OwnS (w.heap.size + 1) wc v2 os ∧
    (∀ j, j < len → EE lk n (gp lk p0 j) = v) ∧ EE lk n p0 = v ∧ (((∀ j, j < len → os.getD j ⟨#[]⟩ = ⟨#[]⟩) ∧ after0 = v) ∨ ((∃ m, len = m + 1 ∧ os = List.replicate m ⟨#[]⟩ ++ [v]) ∧ after0 = ⟨#[]⟩)) ∧ Kept (fun _ => False) w wc

/-- at the first loop's head, k links followed -/
structure Inv1 (lk : ByteArray → Option ByteArray) (p0 : ByteArray) (w : World) (k : Nat) (x : ByteArray) (v1 v2 : Value) (wr : World) : Prop where
  trail : Trail lk p0 k
  cur : x = gp lk p0 k
  small : x.size ≤ 1048576
  met : SM wr w.heap.size (idxF (lastI (gp lk p0) k))
  o1 : OwnS (w.heap.size + 1) wr v1 (gl lk p0 k)
  o2 : OwnS (w.heap.size + 1) wr v2 (List.replicate k ⟨#[]⟩)
  apart : v1.ownBlock = none ∨ v1.ownBlock ≠ v2.ownBlock
  kept : Kept (fun _ => False) w wr

theorem link_small {L : ByteArray → Option Nat} {c : Nat → ByteArray} {pre : ByteArray} {pass : Bool} {p q : ByteArray} {n : Nat} (hlt : ∀ s i, L s = some i → i < n) (hsz : ∀ i, i < n → (c i).size ≤ 1048576) (h : linkOf L c pre pass p = some q) : q.size ≤ 1048576 := by
  unfold linkOf at h
  split at h
  · split at h
    · split at h
      · rename_i i hi
        split at h
        · cases h
        · cases h; exact hsz i (hlt _ i hi)
      · cases h
    · cases h
  · cases h

theorem lastI_none {nm : Nat → ByteArray} {k : Nat} {s : ByteArray} (h : lastI nm k s = none) : ∀ j, j < k → nm j ≠ s := by
  intro j hj e
  subst e
  obtain ⟨i, hi, _⟩ := lastI_known nm hj
  rw [h] at hi
  cases hi

theorem gp0 (lk : ByteArray → Option ByteArray) (p0 : ByteArray) : gp lk p0 0 = p0 := rfl

theorem rep_nil (k j : Nat) : (List.replicate k (⟨#[]⟩ : ByteArray)).getD j ⟨#[]⟩ = ⟨#[]⟩ := by
  rw [List.getD_eq_getElem?_getD, List.getElem?_replicate]
  split <;> rfl

/-- the three ways out of the first loop -/
theorem cut_read {lk : ByteArray → Option ByteArray} {p0 : ByteArray} {w : World} {k n : Nat} {x : ByteArray} {v1 v2 : Value} {wr : World} {ix : ByteArray → Nat} (hf : Few lk n ix) (h : Inv1 lk p0 w k x v1 v2 wr) :
    Cut1 lk p0 n w v1 v2 (.string (EE lk n x)) (.int .i64 (-1)) wr := by
  have hk := h.trail.few hf
  refine ⟨k, EE lk n x, EE lk n x, List.replicate k ⟨#[]⟩, -1, rfl, rfl, by omega, by omega, by omega, by simp, h.o1, h.o2, fun j hj => ?_, ?_, .inl ⟨fun j _ => rep_nil k j, rfl⟩, h.kept⟩
  · rw [h.cur]; exact h.trail.same hf (k - j) j (by omega)
  · rw [h.cur]; exact h.trail.same hf k 0 (by omega)
theorem cut_met {lk : ByteArray → Option ByteArray} {p0 : ByteArray} {w : World} {k n : Nat} {x : ByteArray} {v1 v2 : Value} {wr : World} {ix : ByteArray → Nat} (hf : Few lk n ix) (hn : n ≤ 4096) (h : Inv1 lk p0 w k x v1 v2 wr) {i : Nat} (hi : lastI (gp lk p0) k x = some i) :
    Cut1 lk p0 n w v1 v2 (.string ⟨#[]⟩) (.int .i64 (i : Nat)) wr := by
  have hk := h.trail.few hf
  obtain ⟨hik, hgi⟩ := lastI_lt _ hi
  have he : EE lk n (gp lk p0 k) = ⟨#[]⟩ := h.trail.loop hik (by rw [hgi, h.cur])
  refine ⟨k, ⟨#[]⟩, ⟨#[]⟩, List.replicate k ⟨#[]⟩, i, rfl, rfl, by omega, by omega, by omega, by simp, h.o1, h.o2, fun j hj => ?_, ?_, .inl ⟨fun j _ => rep_nil k j, rfl⟩, h.kept⟩
  · rw [← he]; exact h.trail.same hf (k - j) j (by omega)
  · rw [← he]; exact h.trail.same hf k 0 (by omega)
theorem cut_end {lk : ByteArray → Option ByteArray} {p0 : ByteArray} {w : World} {k n : Nat} {x : ByteArray} {v1 v2 v1' v2' : Value} {wr wc : World} {ix : ByteArray → Nat} (hf : Few lk n ix) (h : Inv1 lk p0 w k x v1 v2 wr) (hx : lk x = none)
    (o1 : OwnS (w.heap.size + 1) wc v1' (gl lk p0 k ++ [x])) (o2 : OwnS (w.heap.size + 1) wc v2' (List.replicate k ⟨#[]⟩ ++ [x])) (hkept : Kept (fun _ => False) w wc) :
    Cut1 lk p0 n w v1' v2' (.string ⟨#[]⟩) (.int .i64 (-1)) wc := by
  have hk := h.trail.few hf
  have he : EE lk n (gp lk p0 k) = x := by rw [← h.cur]; exact EE_stop hx
  refine ⟨k + 1, x, ⟨#[]⟩, List.replicate k ⟨#[]⟩ ++ [x], -1, rfl, rfl, by omega, by omega, by omega, by simp, ?_, o2, fun j hj => ?_, ?_, .inr ⟨⟨k, rfl, rfl⟩, rfl⟩, hkept⟩
  · rw [gl_succ, ← h.cur]; exact o1
  · rw [← he]; exact h.trail.same hf (k - j) j (by omega)
  · rw [← he]; exact h.trail.same hf k 0 (by omega)
/-- a link followed -/
theorem inv_next {lk : ByteArray → Option ByteArray} {p0 : ByteArray} {w : World} {k : Nat} {x y : ByteArray} {v1 v2 v1' v2' : Value} {wr wc : World} (h : Inv1 lk p0 w k x v1 v2 wr) (hx : lk x = some y) (hno : lastI (gp lk p0) k x = none) (hy : y.size ≤ 1048576)
    (hm : SM wc w.heap.size (upd (idxF (lastI (gp lk p0) k)) x (.int .i64 (k : Nat))))
    (o1 : OwnS (w.heap.size + 1) wc v1' (gl lk p0 k ++ [x])) (o2 : OwnS (w.heap.size + 1) wc v2' (List.replicate k ⟨#[]⟩ ++ [⟨#[]⟩])) (ap : v1'.ownBlock = none ∨ v1'.ownBlock ≠ v2'.ownBlock) (hkept : Kept (fun _ => False) w wc) :
    Inv1 lk p0 w (k + 1) y v1' v2' wc := by
  obtain ⟨ht, hg⟩ := h.trail.next (q := y) (by rw [← h.cur]; exact hx) (by rw [← h.cur]; exact lastI_none hno)
  refine ⟨ht, hg.symm, hy, hm.congr fun s => ?_, ?_, ?_, ap, hkept⟩
  · rw [h.cur]; exact idxF_step (gp lk p0) k s
  · rw [gl_succ, ← h.cur]; exact o1
  · rw [List.replicate_succ']; exact o2

/-- the two lists that the first loop gathers, the map 'at', and what was there -/
structure St (w : World) (A : Nat) (fA : ByteArray → Option Value) (va vb : Value) (la lb : List ByteArray) (wi : World) : Prop where
  sm : SM wi A fA
  oa : OwnS (A + 1) wi va la
  ob : OwnS (A + 1) wi vb lb
  ap : va.ownBlock = none ∨ va.ownBlock ≠ vb.ownBlock
  kept : Kept (fun k => A ≤ k) w wi
theorem St.call {w : World} {A : Nat} {fA : ByteArray → Option Value} {va vb : Value} {la lb : List ByteArray} {wi wj : World} (h : St w A fA va vb la lb wi) (hb : Below wi.heap.size wi wj) : St w A fA va vb la lb wj := by
  have hg : wi.grownBy wj none := ⟨hb.os, hb.tape, hb.output, hb.size, fun k hk _ => hb.block k hk⟩
  refine ⟨h.sm.of_block (hb.block A h.sm.lt), h.oa.kept hg ?_, h.ob.kept hg ?_, h.ap, h.kept.trans (Kept.of_below hb)⟩
  · cases va.ownBlock <;> simp
  · cases vb.ownBlock <;> simp
theorem St.map {w : World} {A : Nat} {fA fA' : ByteArray → Option Value} {va vb : Value} {la lb : List ByteArray} {wi wj : World} (h : St w A fA va vb la lb wi) (hg : wi.grownBy wj (some A)) (hm : SM wj A fA') : St w A fA' va vb la lb wj := by
  refine ⟨hm, h.oa.kept hg (.inr fun e => ?_), h.ob.kept hg (.inr fun e => ?_), h.ap, h.kept.trans (Kept.of_grown hg (Nat.le_refl _))⟩
  · have := h.oa.lt A e; omega
  · have := h.ob.lt A e; omega
theorem St.app {w : World} {A : Nat} {fA : ByteArray → Option Value} {va vb va' : Value} {la lb la' : List ByteArray} {wi wj : World} {o : Obj} (h : St w A fA va vb la lb wi) (hg : (wi.alloc o).grownBy wj va.ownBlock) (ho : OwnS (A + 1) wj va' la')
    (hl : ∃ g, va'.ownBlock = some g ∧ (va.ownBlock = some g ∨ g = (wi.alloc o).heap.size)) : St w A fA vb va' lb la' wj := by
  obtain ⟨g, hg1, hg2⟩ := hl
  have hsz : (wi.alloc o).heap.size = wi.heap.size + 1 := by simp
  refine ⟨?_, (h.ob.alloc o).kept hg ?_, ho, ?_, ?_⟩
  · refine h.sm.of_block ?_
    rw [hg.block A (by have := h.sm.lt; omega) (fun e => by have := h.oa.lt A e.symm; omega)]
    exact Below.heap_alloc _ _ _ h.sm.lt
  · cases hb : vb.ownBlock with
    | none => exact .inl rfl
    | some q =>
      refine .inr fun e => ?_
      rcases h.ap with h1 | h1
      · rw [h1] at e; cases e
      · exact h1 (by rw [← e, hb])
  · cases hb : vb.ownBlock with
    | none => exact .inl rfl
    | some q =>
      refine .inr fun e => ?_
      rw [hg1] at e
      cases e
      have hq := h.ob.lt _ hb
      rcases hg2 with h2 | h2
      · rcases h.ap with h1 | h1
        · rw [h1] at h2; cases h2
        · exact h1 (by rw [h2, hb])
      · omega
  · refine (h.kept.alloc o).trans ⟨hg.os, hg.tape, hg.output, hg.size, fun k hk hn => hg.block k hk (fun e => ?_)⟩
    have := h.oa.lt k e.symm
    exact hn (by omega)
theorem cellNew (w : World) (v : Value) (t : TypeId) : (w.alloc (.cells #[v] t)).cell? ⟨w.heap.size, 0, none⟩ = some v :=
  (World.rowIs_alloc w #[v] t (fun _ => v) (fun j hj => by
    match j, hj with
    | 0, _ => rfl)).cell (i := 0) (by simp)
theorem Inv1.st {lk : ByteArray → Option ByteArray} {p0 : ByteArray} {w : World} {k : Nat} {x : ByteArray} {v1 v2 : Value} {wr : World} (h : Inv1 lk p0 w k x v1 v2 wr) : St w w.heap.size (idxF (lastI (gp lk p0) k)) v1 v2 (gl lk p0 k) (List.replicate k ⟨#[]⟩) wr :=
  ⟨h.met, h.o1, h.o2, h.apart, h.kept.mono (fun _ f => f.elim)⟩
theorem kept_fresh {w w' : World} (h : Kept (fun k => w.heap.size ≤ k) w w') : Kept (fun _ => False) w w' := Kept.fresh (h.mono fun _ h => .inr h)

/-- at the second loop's head, g pointers to come -/
structure Inv2 (lk : ByteArray → Option ByteArray) (p0 : ByteArray) (n M MB PB RB FB : Nat) (w : World) (len g : Nat) (v after0 x : ByteArray) (os : List ByteArray) (v1 v2 : Value) (wr : World) : Prop where
  lo : g < len → x = v
  hi : g = len → x = after0
  memo : ∃ f, SM wr M f ∧ MemoOk (EE lk n) f
  row : wr.rowIs MB 54 3 (memoF PB RB FB M)
  o1 : OwnS (w.heap.size + 1) wr v1 (gl lk p0 len)
  o2 : OwnS (w.heap.size + 1) wr v2 os
  kept : Kept (fun k => k = M) w wr

theorem inv2_res {len g : Nat} {v after0 x : ByteArray} {os : List ByteArray} (hg : g + 1 ≤ len) (lo : g + 1 < len → x = v) (hi : g + 1 = len → x = after0) (hol : os.length = len)
    (hcase : ((∀ j, j < len → os.getD j ⟨#[]⟩ = ⟨#[]⟩) ∧ after0 = v) ∨ ((∃ m, len = m + 1 ∧ os = List.replicate m ⟨#[]⟩ ++ [v]) ∧ after0 = ⟨#[]⟩)) :
    (if isE (os.getD g ⟨#[]⟩) then x else os.getD g ⟨#[]⟩) = v := by
  have hee : isE ⟨#[]⟩ = true := isE_iff.2 rfl
  rcases hcase with ⟨h1, h2⟩ | ⟨⟨m, h1, h2⟩, h3⟩
  · rw [h1 g (by omega), hee, if_pos rfl]
    by_cases e : g + 1 = len
    · rw [hi e, h2]
    · exact lo (by omega)
  · by_cases e : g + 1 = len
    · have : os.getD g ⟨#[]⟩ = v := by
        rw [h2, List.getD_eq_getElem?_getD, List.getElem?_append_right (by simp; omega)]
        have : g - (List.replicate m (⟨#[]⟩ : ByteArray)).length = 0 := by simp; omega
        rw [this]; rfl
      rw [this]
      cases hv : isE v with
      | true => rw [if_pos rfl, hi e, h3]; exact (isE_iff.1 hv).symm
      | false => rw [if_neg (by simp)]
    · have : os.getD g ⟨#[]⟩ = ⟨#[]⟩ := by
        rw [h2, List.getD_eq_getElem?_getD, List.getElem?_append_left (by simp; omega), List.getElem?_replicate]
        split <;> rfl
      rw [this, hee, if_pos rfl]
      exact lo (by omega)

theorem Inv2.keep {lk : ByteArray → Option ByteArray} {p0 : ByteArray} {n M MB PB RB FB : Nat} {w : World} {len g : Nat} {v after0 x : ByteArray} {os : List ByteArray} {v1 v2 : Value} {wr : World} (h : Inv2 lk p0 n M MB PB RB FB w len (g + 1) v after0 x os v1 v2 wr) (hg : g + 1 ≤ len) (m : Nat) :
    Inv2 lk p0 n M MB PB RB FB w len g v after0 v os v1 v2 (wr.drewN m) := by
  obtain ⟨f, h1, h2⟩ := h.memo
  exact ⟨fun _ => rfl, fun e => absurd e (by omega), ⟨f, h1, h2⟩, h.row, h.o1, h.o2, h.kept.drewN m⟩
theorem OwnS.same {base : Nat} {w w' : World} {v : Value} {ss : List ByteArray} (h : OwnS base w v ss) (hb : ∀ g, v.ownBlock = some g → w'.heap[g]? = w.heap[g]?) : OwnS base w' v ss := by
  refine ⟨h.1, ?_⟩
  rcases h.2 with h0 | ⟨g, cap, cur, hv, h1, h2, h3⟩
  · exact .inl h0
  · exact .inr ⟨g, cap, cur, hv, h1, (hb g (by rw [hv]; rfl)).trans h2, h3⟩
theorem OwnS.grownM {base M : Nat} {w w' : World} {v : Value} {ss : List ByteArray} (h : OwnS base w v ss) (hg : w.grownBy w' (some M)) (hM : M < base) : OwnS base w' v ss :=
  h.same fun g e => by
    have := h.lt g e
    exact hg.block g this.2 (fun e' => by cases e'; omega)

theorem Inv2.store {lk : ByteArray → Option ByteArray} {p0 : ByteArray} {n M MB PB RB FB : Nat} {w : World} {len g : Nat} {v after0 x : ByteArray} {os : List ByteArray} {v1 v2 : Value} {wr : World} (h : Inv2 lk p0 n M MB PB RB FB w len (g + 1) v after0 x os v1 v2 wr) (hg : g + 1 ≤ len) (m : Nat)
    {f : ByteArray → Option Value} (hok : MemoOk (EE lk n) f) {pg : ByteArray} (hpg : EE lk n pg = v) {w' : World} (hs : SM w' M (upd f pg (.string v))) (hgr : (wr.drewN m).grownBy w' (some M)) (hM : M < w.heap.size) (hMB : MB ≠ M) :
    Inv2 lk p0 n M MB PB RB FB w len g v after0 v os v1 v2 w' := by
  have hk : Kept (fun k => k = M) (wr.drewN m) w' := Kept.of_grown hgr rfl
  refine ⟨fun _ => rfl, fun e => absurd e (by omega), ⟨_, hs, hok.upd pg v hpg.symm⟩, row_kept (w := wr.drewN m) h.row hk hMB, OwnS.grownM (w := wr.drewN m) h.o1 hgr (by omega), OwnS.grownM (w := wr.drewN m) h.o2 hgr (by omega), (h.kept.drewN m).trans hk⟩

set_option maxRecDepth 5000 in
set_option maxHeartbeats 4000000 in
theorem from31 (p0 : ByteArray) (MB M PB RB FB QB Rb X n : Nat) (L : ByteArray → Option Nat) (c : Nat → ByteArray) (pre : ByteArray) (pass : Bool) (ix : ByteArray → Nat) (f : ByteArray → Option Value) (w : World) (hp : p0.size ≤ 1048576) (hn : n ≤ 4096)
    (henv : Env w PB RB FB QB Rb X n L c pre pass) (hfew : Few (linkOf L c pre pass) n ix) (hmb : w.rowIs MB 54 3 (memoF PB RB FB M)) (hm : SM w M f) (hok : MemoOk (EE (linkOf L c pre pass) n) f) :
    Calls Try.prog 31 #[.pointer (some ⟨MB, 0, none⟩), .string p0] w (FromPost (EE (linkOf L c pre pass) n) p0 M w) := by
  have hmm := @run_makeMap Try.prog
  obtain ⟨lk, hlk⟩ : ∃ lk, lk = linkOf L c pre pass := ⟨_, rfl⟩
  rw [← hlk] at hfew hok
  rw [← hlk]
  have HLK := hid hlk
  have HENV := hid henv
  have HFEW := hid hfew
  have HMB := hid hmb
  have HM := hid hm
  have HOK := hid hok
  clear hlk henv hfew hmb hm hok
  go_enter Try.func31, Try.ntmps31
  go_upto_block 0 with fail
  clear hmm
  go_cut [5, 6, 8, 9] (fun v1 v2 a l wc => Cut1 lk p0 n w v1 v2 a l wc)
  case first =>
    go_wp2_with fail
    go_loopg [5, 6, 8, 9, 10] (n + 1) (fun g v1 v2 a l q wr => ∃ (k : Nat) (x : ByteArray), k + g = n + 1 ∧ a = .string ⟨#[]⟩ ∧ l = .int .i64 (-1) ∧ q = .string x ∧ Hid (Inv1 lk p0 w k x v1 v2 wr))
    case atStart =>
      exact ⟨0, p0, by omega, rfl, rfl, rfl, hid ⟨Trail.zero, rfl, hp, SM.made w, OwnS.nilS _ _, OwnS.nilS _ _, .inl rfl, (Kept.refl _ _).alloc _⟩⟩
    case round =>
      obtain ⟨k, x, hkg, rfl, rfl, rfl, HI⟩ := hrel
      have hk := HI.out.trail.few HFEW.out
      have hrow := row_kept HMB.out HI.out.kept (fun h => h)
      have m0 := hrow.cell (i := 0) (by omega)
      have m2 := hrow.cell (i := 2) (by omega)
      have HMr := hid (HM.out.kept HI.out.kept (fun h => h))
      have HEr := hid (HENV.out.kept HI.out.kept (fun _ _ h => h))
      simp only [memoF] at m0 m2
      obtain ⟨a1, c1, hv1⟩ := HI.out.o1.form
      rw [gl_len] at hv1
      subst hv1
      clear hrow
      cases hfx : f x with
      | some v =>
        obtain rfl := HOK.out x v hfx
        have HF := hid hfx
        clear hfx
        go_wp2_with (at_lookup; refine wpList_look rfl _ _ 34 true rfl 9 9 Try.underlying34 Try.underlying9 _ zero9 M _ x _ rfl rfl HMr.out HF.out ?_)
        go_meet
        case rel => exact cut_read HFEW.out HI.out
      | none =>
        have HF := hid hfx
        clear hfx
        cases hlx : lastI (gp lk p0) k x with
        | some i =>
          have HX : Hid (idxF (lastI (gp lk p0) k) x = some (.int .i64 (i : Nat))) := by unfold idxF; rw [hlx]; rfl
          have HL := hid hlx
          clear hlx
          go_wp2_with (first | (at_lookup; refine wpList_look rfl _ _ 34 true rfl 9 9 Try.underlying34 Try.underlying9 _ zero9 M _ x _ rfl rfl HMr.out HF.out ?_) | (at_lookup; refine wpList_look rfl _ _ 32 true rfl 9 3 Try.underlying32 Try.underlying9 _ zero3 w.heap.size _ x _ rfl rfl HI.out.met HX.out ?_))
          go_meet
          case rel => exact cut_met HFEW.out hn HI.out HL.out
        | none =>
          have HX : Hid (idxF (lastI (gp lk p0) k) x = none) := by unfold idxF; rw [hlx]; rfl
          have HL := hid hlx
          have HC := hid (link29 x PB RB FB QB Rb X n L c pre pass wr HI.out.small HEr.out)
          rw [← HLK.out] at HC
          clear hlx
          have hbase : w.heap.size + 1 ≤ wr.heap.size := HI.out.met.lt
          go_wp2_with (first | (at_lookup; refine wpList_look rfl _ _ 34 true rfl 9 9 Try.underlying34 Try.underlying9 _ zero9 M _ x _ rfl rfl HMr.out HF.out ?_) | (at_lookup; refine wpList_look rfl _ _ 32 true rfl 9 3 Try.underlying32 Try.underlying9 _ zero3 w.heap.size _ x _ rfl rfl HI.out.met HX.out ?_))
          refine HC.out.mono ?_
          rintro e w1 ⟨rfl, hb1⟩
          have S1 := hid (HI.out.st.call hb1)
          have hz1 := hb1.size
          clear hb1 HC HMr HEr m0 m2
          cases hr : lk x with
          | none =>
            have HR := hid hr
            clear hr
            go_wp2_with (first
              | (at_mapUpdate; refine wpList_upd rfl _ _ _ 32 rfl 9 3 Try.underlying32 Try.underlying9 w.heap.size _ x (.int .i64 (k : Nat)) rfl rfl rfl S1.out.sm ?_; intro w2 hm2 hg2 hs2; have S2 := hid (S1.out.map hg2 hm2); have hz2 := Nat.le_of_eq hs2.symm; clear hm2 hg2 S1 hs2)
              | (at_builtin; refine wpList_appS rfl (.tmp 54) (.tmp 56) rfl (w.heap.size + 1) _ (gl lk p0 k) x w2.heap.size rfl (S2.out.oa.alloc _) rfl (cellNew w2 _ _) (by rw [gl_len]; omega) (by simp; omega) ?_; intro v1' w3 ho3 hg3 hl3; have S3 := hid (S2.out.app hg3 ho3 hl3); have hz3 := hg3.size; clear ho3 hg3 hl3 S2)
              | (at_builtin; refine wpList_appS rfl (.tmp 58) (.tmp 60) rfl (w.heap.size + 1) _ (List.replicate k ⟨#[]⟩) _ w3.heap.size rfl (S3.out.oa.alloc _) rfl (cellNew w3 _ _) (by simp; omega) (by simp at hz3 ⊢; omega) ?_; intro v2' w4 ho4 hg4 hl4; have S4 := hid (S3.out.app hg4 ho4 hl4); clear ho4 hg4 hl4 S3))
            go_meet
            case rel => exact cut_end HFEW.out HI.out HR.out S4.out.oa S4.out.ob (kept_fresh S4.out.kept)
          | some y =>
            have HR := hid hr
            have hy : y.size ≤ 1048576 := link_small HENV.out.lt HENV.out.sz (by rw [← HLK.out]; exact hr)
            clear hr
            go_wp2_with (first
              | (at_mapUpdate; refine wpList_upd rfl _ _ _ 32 rfl 9 3 Try.underlying32 Try.underlying9 w.heap.size _ x (.int .i64 (k : Nat)) rfl rfl rfl S1.out.sm ?_; intro w2 hm2 hg2 hs2; have S2 := hid (S1.out.map hg2 hm2); have hz2 := Nat.le_of_eq hs2.symm; clear hm2 hg2 S1 hs2)
              | (at_builtin; refine wpList_appS rfl (.tmp 54) (.tmp 56) rfl (w.heap.size + 1) _ (gl lk p0 k) x w2.heap.size rfl (S2.out.oa.alloc _) rfl (cellNew w2 _ _) (by rw [gl_len]; omega) (by simp; omega) ?_; intro v1' w3 ho3 hg3 hl3; have S3 := hid (S2.out.app hg3 ho3 hl3); have hz3 := hg3.size; clear ho3 hg3 hl3 S2)
              | (at_builtin; refine wpList_appS rfl (.tmp 58) (.tmp 60) rfl (w.heap.size + 1) _ (List.replicate k ⟨#[]⟩) _ w3.heap.size rfl (S3.out.oa.alloc _) rfl (cellNew w3 _ _) (by simp; omega) (by simp at hz3 ⊢; omega) ?_; intro v2' w4 ho4 hg4 hl4; have S4 := hid (S3.out.app hg4 ho4 hl4); clear ho4 hg4 hl4 S3))
            go_roundg (n - k)
            case measure => omega
            case rel => exact ⟨k + 1, y, by omega, rfl, rfl, rfl, hid (inv_next HI.out HR.out HL.out hy S4.out.sm S4.out.oa S4.out.ob S4.out.ap (kept_fresh S4.out.kept))⟩
  case rest =>
    obtain ⟨len, v, after0, os, lp, rfl, rfl, hl1, hl2, hlen, hosl, o1, o2, hE, hE0, hcase, hkept⟩ := hcut
    obtain ⟨a1, c1, hv1⟩ := o1.form
    rw [gl_len] at hv1
    subst hv1
    have H1 := hid o1
    have H2 := hid o2
    have HE := hid hE
    have HE0 := hid hE0
    have HCASE := hid hcase
    have HK := hid hkept
    have hln : len ≤ 5000 := by omega
    clear o1 o2 hE hE0 hcase hkept
    have hMlt : M < w.heap.size := HM.out.lt
    have hMB : MB ≠ M := by
      rintro rfl
      obtain ⟨cs, h1, _⟩ := HMB.out
      obtain ⟨es, ck, h2, _⟩ := HM.out
      rw [h1] at h2
      cases h2
    go_wp2
    go_loopg [8, 18] len (fun g a i wr => ∃ x : ByteArray, g ≤ len ∧ i = .int .i64 ((g : Int) - 1) ∧ a = .string x ∧ Hid (Inv2 lk p0 n M MB PB RB FB w len g v after0 x os (.slice a1 len c1) u6 wr))
    case atStart =>
      exact ⟨after0, Nat.le_refl _, rfl, rfl, hid ⟨fun h => absurd h (by omega), fun _ => rfl, ⟨f, HM.out.kept HK.out (fun h => h), HOK.out⟩, row_kept HMB.out HK.out (fun h => h), H1.out, H2.out, HK.out.mono (fun _ h => h.elim)⟩⟩
    case round =>
      obtain ⟨x, hgl, rfl, rfl, HI⟩ := hrel
      cases gk with
      | zero =>
        go_wp2
        go_ret
        have hx : x = v := by
          by_cases h0 : 0 < len
          · exact HI.out.lo h0
          · have hl0 : len = 0 := by omega
            rw [HI.out.hi (by omega)]
            rcases HCASE.out with ⟨_, h2⟩ | ⟨⟨m, h1, _⟩, _⟩
            · exact h2
            · omega
        exact ⟨by rw [HE0.out, hx]; rfl, HI.out.kept, HI.out.memo⟩
      | succ g =>
        have m1 := HI.out.row.cell (i := 1) (by omega)
        have m2 := HI.out.row.cell (i := 2) (by omega)
        simp only [memoF] at m1 m2
        obtain ⟨g1, cp1, hv1, hc1, _⟩ := HI.out.o1.cell (i := g) (by rw [gl_len]; omega)
        obtain ⟨g2, cp2, hv2, hc2, _⟩ := HI.out.o2.cell (i := g) (by omega)
        rw [gl_get lk p0 len g (by omega)] at hc1
        simp only [Value.slice.injEq] at hv1
        obtain ⟨rfl, hx2, hx3⟩ := hv1
        clear hx2 hx3
        rw [hosl] at hv2
        subst hv2
        have HN := hid (fun w => nearest_any (os.getD g ⟨#[]⟩) x w)
        rw [inv2_res (by omega) HI.out.lo HI.out.hi hosl HCASE.out] at HN
        obtain ⟨ow, how⟩ : ∃ ow, ow = os.getD g ⟨#[]⟩ := ⟨_, rfl⟩
        rw [← how] at hc2 HN
        obtain ⟨pg, hpg⟩ : ∃ pg, pg = gp lk p0 g := ⟨_, rfl⟩
        rw [← hpg] at hc1
        have HPG : Hid (EE lk n pg = v) := by rw [hpg]; exact HE.out g (by omega)
        obtain ⟨f', hsm, hmok⟩ := HI.out.memo
        have hup : ∀ m, ∃ w', (Instr.mapUpdate 34 (.map (some M)) (.string pg) (.string v)).run Try.prog (wr.drewN m) = .ok () w' ∧ SM w' M (upd f' pg (.string v)) ∧ (wr.drewN m).grownBy w' (some M) ∧ w'.heap.size = (wr.drewN m).heap.size :=
          fun m => run_upd Try.underlying34 Try.underlying9 (hsm.drewN m) pg (.string v)
        obtain ⟨W, hW⟩ := Classical.skolem.1 hup
        have HRUN := hid (fun m => (hW m).1)
        have HW := hid (fun m => (hW m).2)
        have HSM := hid (And.intro hsm hmok)
        have hgn : (g : Int) < (len : Int) := by omega
        have hi1 : (((g + 1 : Nat) : Int) - 1) = (g : Int) := by omega
        rw [hi1]
        clear hup hW how hpg hsm hmok hi1 hgl hosl
        go_wp2
        go_quiet ((go_at_call 30; refine (HN.out _).mono ?_; rintro e w' ⟨rfl, rfl⟩; exact ⟨rfl, _, rfl⟩))
        have hrun := HRUN.out
        go_wp2
        · go_region
          all_goals go_wp2
          all_goals
            go_roundg g
            case measure => omega
            case rel => exact ⟨v, by omega, by go_num, rfl, hid (HI.out.store (by omega) (nq + 1) HSM.out.2 HPG.out (HW.out (nq + 1)).1 (HW.out (nq + 1)).2.1 hMlt hMB)⟩
        · go_roundg g
          case measure => omega
          case rel => exact ⟨v, by omega, by go_num, rfl, hid (HI.out.keep (by omega) nq)⟩
        · go_region
          all_goals go_wp2
          all_goals
            go_roundg g
            case measure => omega
            case rel => exact ⟨v, by omega, by go_num, rfl, hid (HI.out.store (by omega) (nq + 1) HSM.out.2 HPG.out (HW.out (nq + 1)).1 (HW.out (nq + 1)).2.1 hMlt hMB)⟩

end Go.Proofs.Qxb6609196a
