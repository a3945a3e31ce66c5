/- PLAIN: what the shortcut does, in words of links and ends; how many names it writes; a second shortcut does nothing. -/
import Derived.Test.Qxb6609196aAB
namespace Go.Proofs.Qxb6609196a
open Go.RowKit

theorem notE_iff {s : ByteArray} : (!isE s) = true ↔ s ≠ ⟨#[]⟩ := by
  constructor
  · intro h e
    rw [isE_iff.2 e] at h
    cases h
  · intro h
    cases e : isE s with
    | true => exact absurd (isE_iff.1 e) h
    | false => rfl
theorem beq_iff {a b : ByteArray} : (a.toList == b.toList) = true ↔ a = b := by
  rw [beq_iff_eq]
  constructor
  · intro h
    rw [Lib.toList_data, Lib.toList_data] at h
    exact ba_ext h
  · rintro rfl; rfl
theorem beq_not {a b : ByteArray} (h : a ≠ b) : (a.toList == b.toList) = false := by
  cases e : (a.toList == b.toList) with
  | true => exact absurd (beq_iff.1 e) h
  | false => rfl
theorem chg_iff {E : ByteArray → ByteArray} {r : ByteArray} : chg E r = true ↔ (r ≠ ⟨#[]⟩ ∧ E r ≠ ⟨#[]⟩ ∧ E r ≠ r) := by
  unfold chg
  rw [Bool.and_eq_true, Bool.and_eq_true, notE_iff, notE_iff]
  have : (!(E r).toList == r.toList) = true ↔ E r ≠ r := by
    constructor
    · intro h e
      rw [beq_iff.2 e] at h
      cases h
    · intro h
      rw [beq_not h]; rfl
  rw [this]
theorem res_of {E : ByteArray → ByteArray} {r : ByteArray} (h : chg E r = true) : res E r = E r := by unfold res; rw [if_pos h]
theorem res_not {E : ByteArray → ByteArray} {r : ByteArray} (h : chg E r = false) : res E r = r := by unfold res; rw [h]; rfl
theorem chg_not {E : ByteArray → ByteArray} {r : ByteArray} (h : r = ⟨#[]⟩ ∨ E r = ⟨#[]⟩ ∨ E r = r) : chg E r = false := by
  cases e : chg E r with
  | false => rfl
  | true =>
    obtain ⟨h1, h2, h3⟩ := chg_iff.1 e
    rcases h with h | h | h
    · exact absurd h h1
    · exact absurd h h2
    · exact absurd h h3
theorem res_empty {E : ByteArray → ByteArray} {r : ByteArray} : isE (res E r) = isE r := by
  cases e : chg E r with
  | false => rw [res_not e]
  | true =>
    rw [res_of e]
    obtain ⟨h1, h2, _⟩ := chg_iff.1 e
    have a1 := notE_iff.2 h1
    have a2 := notE_iff.2 h2
    revert a1 a2
    cases isE r <;> cases isE (E r) <;> simp

section
variable (n : Nat) (nm rf : Nat → ByteArray) (pre : ByteArray) (pass : Bool)
theorem few_lk : Few (linkOf (lastI nm n) rf pre pass) n (ixOf (lastI nm n) pre) := few_of (fun _ _ h => (lastI_lt nm h).1) (lastI_inj nm n)
theorem link_ne {L : ByteArray → Option Nat} {c : Nat → ByteArray} {pre : ByteArray} {pass : Bool} {p q : ByteArray} (h : linkOf L c pre pass p = some q) : q ≠ ⟨#[]⟩ := by
  obtain ⟨s, i, _, _, rfl, hE⟩ := linkOf_inv h
  intro e
  rw [isE_iff.2 e] at hE
  cases hE
/-- the five ways of a ref -/
theorem ways (r : ByteArray) :
    (isE r = true ∧ res (EO n nm rf pre pass) r = r ∧ chg (EO n nm rf pre pass) r = false) ∨
    (isE r = false ∧ linkOf (lastI nm n) rf pre pass r = none ∧ res (EO n nm rf pre pass) r = r ∧ chg (EO n nm rf pre pass) r = false) ∨
    (isE r = false ∧ ∃ q, linkOf (lastI nm n) rf pre pass r = some q ∧ linkOf (lastI nm n) rf pre pass q = none ∧ res (EO n nm rf pre pass) r = q ∧ (q.toList == r.toList) = false ∧ chg (EO n nm rf pre pass) r = true) ∨
    (isE r = false ∧ ∃ q q', linkOf (lastI nm n) rf pre pass r = some q ∧ linkOf (lastI nm n) rf pre pass q = some q' ∧ ((res (EO n nm rf pre pass) r).toList == r.toList) = false ∧ chg (EO n nm rf pre pass) r = true) ∨
    (isE r = false ∧ ∃ q q', linkOf (lastI nm n) rf pre pass r = some q ∧ linkOf (lastI nm n) rf pre pass q = some q' ∧ res (EO n nm rf pre pass) r = r ∧ chg (EO n nm rf pre pass) r = false) := by
  cases hE : isE r with
  | true =>
    have hc : chg (EO n nm rf pre pass) r = false := chg_not (.inl (isE_iff.1 hE))
    exact .inl ⟨rfl, res_not hc, hc⟩
  | false =>
    refine .inr ?_
    have hne : r ≠ ⟨#[]⟩ := fun e => by rw [isE_iff.2 e] at hE; cases hE
    cases hl : linkOf (lastI nm n) rf pre pass r with
    | none =>
      have hc : chg (EO n nm rf pre pass) r = false := chg_not (.inr (.inr (EE_stop hl)))
      exact .inl ⟨rfl, rfl, res_not hc, hc⟩
    | some q =>
      refine .inr ?_
      cases hq : linkOf (lastI nm n) rf pre pass q with
      | none =>
        have he : EO n nm rf pre pass r = q := (EE_link (few_lk n nm rf pre pass) hl).trans (EE_stop hq)
        have hqr : q ≠ r := by rintro rfl; rw [hq] at hl; cases hl
        have hc : chg (EO n nm rf pre pass) r = true := chg_iff.2 ⟨hne, by rw [he]; exact link_ne hl, by rw [he]; exact hqr⟩
        exact .inl ⟨rfl, q, rfl, hq, (res_of hc).trans he, beq_not hqr, hc⟩
      | some q' =>
        refine .inr ?_
        cases hc : chg (EO n nm rf pre pass) r with
        | true => exact .inl ⟨rfl, q, q', rfl, hq, by rw [res_of hc]; exact beq_not (chg_iff.1 hc).2.2, rfl⟩
        | false => exact .inr ⟨rfl, q, q', rfl, hq, res_not hc, rfl⟩

theorem lastI_self {n : Nat} {nm : Nat → ByteArray} {s : ByteArray} {j : Nat} (h : lastI nm n s = some j) : lastI nm n (nm j) = some j := by rw [(lastI_lt nm h).2]; exact h
theorem aft_at {s : ByteArray} {j : Nat} (h : lastI nm n s = some j) : aft n nm rf pre pass j = res (EO n nm rf pre pass) (rf j) := by
  unfold aft; rw [lastI_self h]; rfl

/-- the links behind the shortcut -/
theorem link2 (p : ByteArray) : linkOf (lastI nm n) (aft n nm rf pre pass) pre pass p = (linkOf (lastI nm n) rf pre pass p).map (res (EO n nm rf pre pass)) := by
  unfold linkOf
  split
  · split
    · rename_i s _
      cases hL : lastI nm n s with
      | none => rfl
      | some j =>
        simp only
        rw [aft_at n nm rf pre pass hL, res_empty]
        split <;> rfl
    · rfl
  · rfl
theorem still (r : ByteArray) : chg (EO n nm (aft n nm rf pre pass) pre pass) (res (EO n nm rf pre pass) r) = false := by
  have hstop : ∀ p, linkOf (lastI nm n) rf pre pass p = none → EO n nm (aft n nm rf pre pass) pre pass p = p := by
    intro p hp
    apply EE_stop
    rw [link2, hp]; rfl
  cases hc : chg (EO n nm rf pre pass) r with
  | true =>
    rw [res_of hc]
    exact chg_not (.inr (.inr (hstop _ (EE_end (chg_iff.1 hc).2.1))))
  | false =>
    rw [res_not hc]
    by_cases h0 : r = ⟨#[]⟩
    · exact chg_not (.inl h0)
    by_cases h1 : EO n nm rf pre pass r = ⟨#[]⟩
    · refine chg_not (.inr (.inl (EE_not ?_)))
      have key : ∀ k, ∃ p, iter (linkOf (lastI nm n) (aft n nm rf pre pass) pre pass) k r = some p ∧ EO n nm rf pre pass p = ⟨#[]⟩ ∧ p ≠ ⟨#[]⟩ := by
        intro k
        induction k with
        | zero => exact ⟨r, rfl, h1, h0⟩
        | succ k ih =>
          obtain ⟨p, hp, hp1, hp0⟩ := ih
          cases hl : linkOf (lastI nm n) rf pre pass p with
          | none => exact absurd ((EE_stop hl).symm.trans hp1) hp0
          | some q =>
            have hq : EO n nm rf pre pass q = ⟨#[]⟩ := (EE_link (few_lk n nm rf pre pass) hl).symm.trans hp1
            refine ⟨q, ?_, hq, link_ne hl⟩
            rw [iter, hp]
            show linkOf _ _ _ _ p = _
            rw [link2, hl]
            show some (res _ q) = _
            rw [res_not (chg_not (.inr (.inl hq)))]
      intro k r' he
      obtain ⟨p, hp, hp1, hp0⟩ := key k
      have := he.1.symm.trans hp
      cases this
      have h2 := he.2
      rw [link2] at h2
      cases hl : linkOf (lastI nm n) rf pre pass r' with
      | none => exact absurd ((EE_stop hl).symm.trans hp1) hp0
      | some q => rw [hl] at h2; cases h2
    · by_cases h2 : EO n nm rf pre pass r = r
      · refine chg_not (.inr (.inr (hstop r ?_)))
        have := EE_end h1
        rw [show EE (linkOf (lastI nm n) rf pre pass) n r = r from h2] at this
        exact this
      · have := chg_iff.2 ⟨h0, h1, h2⟩
        rw [hc] at this
        cases this
theorem newW_still (s : ByteArray) : newW (EO n nm (aft n nm rf pre pass) pre pass) (lastI nm n) (aft n nm rf pre pass) s = none := by
  unfold newW
  cases hL : lastI nm n s with
  | none => rfl
  | some j =>
    simp only
    rw [aft_at n nm rf pre pass hL, still]; rfl
theorem aft_still {i : Nat} (hi : i < n) : aft n nm (aft n nm rf pre pass) pre pass i = aft n nm rf pre pass i := by
  obtain ⟨j, hj, _⟩ := lastI_known nm hi
  have h1 : aft n nm rf pre pass i = res (EO n nm rf pre pass) (rf j) := by unfold aft; rw [hj]; rfl
  have h2 : aft n nm (aft n nm rf pre pass) pre pass i = res (EO n nm (aft n nm rf pre pass) pre pass) (aft n nm rf pre pass j) := by
    rw [aft, hj]; rfl
  rw [h2, aft_at n nm rf pre pass hj, res_not (still n nm rf pre pass (rf j)), h1]
theorem endF_size {lk : ByteArray → Option ByteArray} {B : Nat} (hl : ∀ p q, lk p = some q → q.size ≤ B) : ∀ (k : Nat) (p : ByteArray), p.size ≤ B → (endF lk k p).size ≤ B
  | 0, _, _ => Nat.zero_le _
  | k + 1, p, hp => by
    unfold endF
    cases h : lk p with
    | none => exact hp
    | some q => exact endF_size hl k q (hl p q h)
theorem link_size {n : Nat} {nm rf : Nat → ByteArray} {pre : ByteArray} {pass : Bool} (h : Short n nm rf pre) {p q : ByteArray} (hl : linkOf (lastI nm n) rf pre pass p = some q) : q.size ≤ 1048576 := by
  obtain ⟨s, i, _, hi, rfl, _⟩ := linkOf_inv hl
  exact (h.1 i (lastI_lt nm hi).1).2
theorem res_size {n : Nat} {nm rf : Nat → ByteArray} {pre : ByteArray} {pass : Bool} (h : Short n nm rf pre) {r : ByteArray} (hr : r.size ≤ 1048576) : (res (EO n nm rf pre pass) r).size ≤ 1048576 := by
  unfold res
  split
  · exact endF_size (fun p q hl => link_size h hl) _ _ hr
  · exact hr
theorem short_aft {n : Nat} {nm rf : Nat → ByteArray} {pre : ByteArray} (pass : Bool) (h : Short n nm rf pre) : Short n nm (aft n nm rf pre pass) pre := by
  refine ⟨fun i hi => ⟨(h.1 i hi).1, ?_⟩, h.2⟩
  obtain ⟨j, hj, _⟩ := lastI_known nm hi
  unfold aft
  rw [hj]
  exact res_size h (h.1 j (lastI_lt nm hj).1).2

/-- how many below k -/
def cnt (P : Nat → Bool) : Nat → Nat
  | 0 => 0
  | k + 1 => cnt P k + if P k then 1 else 0
theorem cnt_le (P : Nat → Bool) : ∀ k, cnt P k ≤ k
  | 0 => Nat.le_refl _
  | k + 1 => by
    have := cnt_le P k
    unfold cnt
    split <;> omega
theorem cnt_len (P : Nat → Bool) : ∀ k, cnt P k = ((List.range k).filter P).length
  | 0 => rfl
  | k + 1 => by
    rw [List.range_succ, List.filter_append, List.length_append, ← cnt_len P k]
    show cnt P k + (if P k then 1 else 0) = _
    cases h : P k <;> simp [h]
theorem nodup_le {α : Type} : ∀ {l m : List α}, l.Nodup → (∀ x ∈ l, x ∈ m) → l.length ≤ m.length
  | [], _, _, _ => Nat.zero_le _
  | a :: l, m, hn, hs => by
    rw [List.nodup_cons] at hn
    obtain ⟨s, t, rfl⟩ := List.append_of_mem (hs a List.mem_cons_self)
    have := nodup_le (l := l) (m := s ++ t) hn.2 (fun x hx => by
      have h1 := hs x (List.mem_cons_of_mem _ hx)
      rcases List.mem_append.1 h1 with h2 | h2
      · exact List.mem_append.2 (.inl h2)
      · rcases List.mem_cons.1 h2 with h3 | h3
        · subst h3; exact absurd hx hn.1
        · exact List.mem_append.2 (.inr h3))
    simp only [List.length_append, List.length_cons] at this ⊢
    omega
/-- is the i-th entry the one that counts, and written? -/
def wrote (i : Nat) : Bool := decide (lastI nm n (nm i) = some i) && chg (EO n nm rf pre pass) (rf i)
theorem wrote_iff {i : Nat} : wrote n nm rf pre pass i = true ↔ lastI nm n (nm i) = some i ∧ chg (EO n nm rf pre pass) (rf i) = true := by
  unfold wrote; rw [Bool.and_eq_true, decide_eq_true_iff]
theorem written_size {es : Array MapEntry} {c : Nat} (h : MOk es c (newW (EO n nm rf pre pass) (lastI nm n) rf)) : es.size = cnt (wrote n nm rf pre pass) n := by
  rw [cnt_len]
  have hl : ∀ i, i ∈ (List.range n).filter (wrote n nm rf pre pass) ↔ i < n ∧ lastI nm n (nm i) = some i ∧ chg (EO n nm rf pre pass) (rf i) = true := by
    intro i
    rw [List.mem_filter, List.mem_range, wrote_iff]
  have hnd : (((List.range n).filter (wrote n nm rf pre pass)).map (fun i => Value.string (nm i))).Nodup := by
    rw [List.Nodup, List.pairwise_map]
    refine List.Pairwise.imp_of_mem ?_ ((List.nodup_range (n := n)).filter _)
    intro a b ha hb hab e
    have ha' := ((hl a).1 ha).2.1
    have hb' := ((hl b).1 hb).2.1
    simp only [Value.string.injEq] at e
    rw [e, hb'] at ha'
    cases ha'
    exact hab rfl
  have h1 := nodup_le hnd (m := es.toList.map (·.key)) (fun x hx => by
    obtain ⟨i, hi, rfl⟩ := List.mem_map.1 hx
    obtain ⟨_, h2, h3⟩ := (hl i).1 hi
    obtain ⟨e, he, hk⟩ := h.2.2.2 (nm i) (.string (rf i)) (by unfold newW; rw [h2]; simp only; rw [if_pos h3])
    exact List.mem_map.2 ⟨e, he, hk⟩)
  have h2 := nodup_le h.2.2.1 (m := ((List.range n).filter (wrote n nm rf pre pass)).map (fun i => Value.string (nm i))) (fun x hx => by
    obtain ⟨e, he, rfl⟩ := List.mem_map.1 hx
    obtain ⟨s, hk, hf, _⟩ := h.1 e he
    unfold newW at hf
    cases hL : lastI nm n s with
    | none => rw [hL] at hf; cases hf
    | some i =>
      rw [hL] at hf
      simp only at hf
      split at hf
      · rename_i hc
        have hi := lastI_lt nm hL
        refine List.mem_map.2 ⟨i, (hl i).2 ⟨hi.1, ?_, hc⟩, ?_⟩
        · rw [hi.2]; exact hL
        · rw [hi.2]; exact hk.symm
      · cases hf)
  simp only [List.length_map, Array.length_toList] at h1 h2
  omega
end
theorem none_size {es : Array MapEntry} {c : Nat} {f : ByteArray → Option Value} (h : MOk es c f) (hf : ∀ s, f s = none) : es.size = 0 := by
  rw [← Array.length_toList]
  cases e : es.toList with
  | nil => rfl
  | cons a l =>
    obtain ⟨k, _, h2, _⟩ := h.1 a (by rw [e]; exact List.mem_cons_self)
    rw [hf] at h2
    cases h2
theorem SM.len {w : World} {b : Nat} {f : ByteArray → Option Value} {z : Nat} (h : SM w b f) (hz : ∀ es c, MOk es c f → es.size = z) (ty : TypeId) :
    (Builtin.len_ #[34] ty #[.map (some b)]).run Try.prog w = .ok (.int .i64 z) w := by
  obtain ⟨es, c, hb, hok⟩ := h
  rw [run_len Try.underlying34 hb ty, hz es c hok]
end Go.Proofs.Qxb6609196a
