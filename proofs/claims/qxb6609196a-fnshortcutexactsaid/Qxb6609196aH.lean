/- PLAIN: chains of links, their ends; the pigeonhole. No Go in sight. -/
import Derived.Test.Qxb6609196aG
namespace Go.Proofs.Qxb6609196a
open Go.RowKit

/-- distinct numbers below n are at most n -/
theorem pigeon : ∀ (n : Nat) (l : List Nat), l.Nodup → (∀ x ∈ l, x < n) → l.length ≤ n
  | 0, l, _, h => by
    cases l with
    | nil => simp
    | cons a l => exact absurd (h a List.mem_cons_self) (by omega)
  | n + 1, l, hn, h => by
    have h1 := pigeon n (l.filter (fun x => x ≠ n)) (hn.filter _) (fun x hx => by
      have hx' := List.mem_filter.1 hx
      have := h x hx'.1
      have : x ≠ n := by simpa using hx'.2
      omega)
    have h2 : l.length ≤ (l.filter (fun x => x ≠ n)).length + 1 := by
      clear h h1
      induction l with
      | nil => simp
      | cons a l ih =>
        rw [List.nodup_cons] at hn
        by_cases e : a = n
        · subst e
          have hall : l.filter (fun x => decide (x ≠ a)) = l := by
            rw [List.filter_eq_self]
            intro x hx
            simp
            rintro rfl
            exact hn.1 hx
          rw [List.filter_cons_of_neg (by simp), hall]
          simp
        · rw [List.filter_cons_of_pos (by simpa using e)]
          have := ih hn.2
          simp only [List.length_cons]
          omega
    omega

section
variable (lk : ByteArray → Option ByteArray)

/-- k links on from p -/
def iter : Nat → ByteArray → Option ByteArray
  | 0, p => some p
  | k + 1, p => (iter k p).bind lk

theorem iter_front (k : Nat) (p : ByteArray) : iter lk (k + 1) p = (lk p).bind (iter lk k) := by
  induction k with
  | zero => simp [iter]
  | succ k ih =>
    rw [iter, ih]
    cases lk p with
    | none => rfl
    | some q => rfl
theorem iter_add (a b : Nat) (p : ByteArray) : iter lk (a + b) p = (iter lk a p).bind (iter lk b) := by
  induction b with
  | zero => cases iter lk a p <;> simp [iter]
  | succ b ih =>
    rw [← Nat.add_assoc, iter, ih]
    cases iter lk a p with
    | none => rfl
    | some q => rfl
theorem iter_none {a b : Nat} {p : ByteArray} (h : iter lk a p = none) (hab : a ≤ b) : iter lk b p = none := by
  obtain ⟨d, rfl⟩ : ∃ d, b = a + d := ⟨b - a, by omega⟩
  rw [iter_add, h]; rfl

/-- the chain from p ends at r behind k links -/
def EndsIn (p : ByteArray) (k : Nat) (r : ByteArray) : Prop := iter lk k p = some r ∧ lk r = none

theorem ends_unique {p r r' : ByteArray} {k k' : Nat} (h : EndsIn lk p k r) (h' : EndsIn lk p k' r') : k = k' ∧ r = r' := by
  have key : ∀ {k k' : Nat} {r r' : ByteArray}, EndsIn lk p k r → EndsIn lk p k' r' → ¬ k < k' := by
    intro k k' r r' h h' hlt
    have : iter lk (k + 1) p = none := by rw [iter, h.1]; exact h.2
    have := iter_none lk this (Nat.succ_le_of_lt hlt)
    rw [h'.1] at this
    cases this
  have e : k = k' := by
    rcases Nat.lt_trichotomy k k' with h1 | h1 | h1
    · exact absurd h1 (key h h')
    · exact h1
    · exact absurd h1 (key h' h)
  subst e
  have := h.1.symm.trans h'.1
  cases this
  exact ⟨rfl, rfl⟩

/-- on a chain that ends no pointer stands twice -/
theorem ends_distinct {p r : ByteArray} {k : Nat} (h : EndsIn lk p k r) {i j : Nat} (hij : i < j) (hj : j ≤ k) : iter lk i p ≠ iter lk j p := by
  intro e
  have h1 : iter lk (i + (k - j)) p = some r := by
    rw [iter_add, e, ← iter_add]
    have : j + (k - j) = k := by omega
    rw [this]; exact h.1
  have h2 : iter lk (i + (k - j) + 1) p = none := by rw [iter, h1]; exact h.2
  have := iter_none lk h2 (b := k) (by omega)
  rw [h.1] at this
  cases this

/-- every linking pointer has an index below n, no two the same -/
def Few (n : Nat) (ix : ByteArray → Nat) : Prop := (∀ p q, lk p = some q → ix p < n) ∧ ∀ p p' q q', lk p = some q → lk p' = some q' → ix p = ix p' → p = p'

theorem few_list {n : Nat} {ix : ByteArray → Nat} (hf : Few lk n ix) (l : List ByteArray) (hn : l.Nodup) (h : ∀ p ∈ l, ∃ q, lk p = some q) : l.length ≤ n := by
  have h1 : (l.map ix).Nodup := by
    rw [List.Nodup, List.pairwise_map]
    refine List.Pairwise.imp_of_mem ?_ hn
    intro a b ha hb hab e
    obtain ⟨q, hq⟩ := h a ha
    obtain ⟨q', hq'⟩ := h b hb
    exact hab (hf.2 a b q q' hq hq' e)
  have h2 := pigeon n (l.map ix) h1 (fun x hx => by
    obtain ⟨p, hp, rfl⟩ := List.mem_map.1 hx
    obtain ⟨q, hq⟩ := h p hp
    exact hf.1 p q hq)
  simpa using h2

theorem ends_few {n : Nat} {ix : ByteArray → Nat} (hf : Few lk n ix) {p r : ByteArray} {k : Nat} (h : EndsIn lk p k r) : k ≤ n := by
  have hsome : ∀ i, i ≤ k → ∃ x, iter lk i p = some x := by
    intro i hi
    cases e : iter lk i p with
    | some x => exact ⟨x, rfl⟩
    | none => have := iter_none lk e hi; rw [h.1] at this; cases this
  let g : Nat → ByteArray := fun i => (iter lk i p).getD p
  have hg : ∀ i, i ≤ k → iter lk i p = some (g i) := by
    intro i hi
    obtain ⟨x, hx⟩ := hsome i hi
    show iter lk i p = some ((iter lk i p).getD p)
    rw [hx]; rfl
  have hnd : ((List.range k).map g).Nodup := by
    rw [List.Nodup, List.pairwise_map]
    refine List.Pairwise.imp_of_mem ?_ List.pairwise_lt_range
    intro a b ha hb hab e
    have hb' := List.mem_range.1 hb
    apply ends_distinct lk h hab (by omega)
    rw [hg a (by omega), hg b (by omega), e]
  have := few_list lk hf ((List.range k).map g) hnd (fun x hx => by
    obtain ⟨i, hi, rfl⟩ := List.mem_map.1 hx
    have hi' := List.mem_range.1 hi
    obtain ⟨y, hy⟩ := hsome (i + 1) (by omega)
    rw [iter, hg i (by omega)] at hy
    exact ⟨y, hy⟩)
  simpa using this

theorem endF_spec : ∀ (m : Nat) (q : ByteArray), (∃ k r, k < m ∧ EndsIn lk q k r ∧ endF lk m q = r) ∨ ((∀ k r, k < m → ¬ EndsIn lk q k r) ∧ endF lk m q = ⟨#[]⟩)
  | 0, q => .inr ⟨fun k r hk => by omega, rfl⟩
  | m + 1, q => by
    unfold endF
    cases e : lk q with
    | none => exact .inl ⟨0, q, by omega, ⟨rfl, e⟩, rfl⟩
    | some q' =>
      rcases endF_spec m q' with ⟨k, r, hk, he, hr⟩ | ⟨hno, hr⟩
      · refine .inl ⟨k + 1, r, by omega, ⟨?_, he.2⟩, hr⟩
        rw [iter_front, e]; exact he.1
      · refine .inr ⟨fun k r hk he => ?_, hr⟩
        cases k with
        | zero =>
          have h0 : some q = some r := he.1
          cases h0
          have := he.2
          rw [e] at this
          cases this
        | succ k =>
          have h1 := he.1
          rw [iter_front, e] at h1
          exact hno k r (by omega) ⟨h1, he.2⟩

/-- the chain's end, or nothing -/
def EE (n : Nat) (p : ByteArray) : ByteArray := endF lk (n + 1) p

variable {lk}
theorem EE_stop {n : Nat} {p : ByteArray} (h : lk p = none) : EE lk n p = p := by
  unfold EE endF; rw [h]
theorem EE_ends {n : Nat} {ix : ByteArray → Nat} (hf : Few lk n ix) {p r : ByteArray} {k : Nat} (h : EndsIn lk p k r) : EE lk n p = r := by
  rcases endF_spec lk (n + 1) p with ⟨k', r', _, he, hr⟩ | ⟨hno, _⟩
  · unfold EE; rw [hr]; exact (ends_unique lk he h).2
  · exact absurd h (hno k r (by have := ends_few lk hf h; omega))
theorem EE_not {n : Nat} {p : ByteArray} (h : ∀ k r, ¬ EndsIn lk p k r) : EE lk n p = ⟨#[]⟩ := by
  rcases endF_spec lk (n + 1) p with ⟨k', r', _, he, _⟩ | ⟨_, hr⟩
  · exact absurd he (h k' r')
  · exact hr
theorem EE_link {n : Nat} {ix : ByteArray → Nat} (hf : Few lk n ix) {p q : ByteArray} (h : lk p = some q) : EE lk n p = EE lk n q := by
  by_cases hq : ∃ k r, EndsIn lk q k r
  · obtain ⟨k, r, he⟩ := hq
    rw [EE_ends hf he]
    apply EE_ends hf (k := k + 1)
    exact ⟨by rw [iter_front, h]; exact he.1, he.2⟩
  · rw [EE_not (p := q) (fun k r he => hq ⟨k, r, he⟩)]
    apply EE_not
    intro k r he
    cases k with
    | zero =>
      have h0 : some p = some r := he.1
      cases h0
      have := he.2
      rw [h] at this
      cases this
    | succ k =>
      have h1 := he.1
      rw [iter_front, h] at h1
      exact hq ⟨k, r, h1, he.2⟩
theorem iter_loop {p : ByteArray} {k : Nat} (h : iter lk k p = some p) : ∀ m, iter lk (k * m) p = some p
  | 0 => rfl
  | m + 1 => by rw [Nat.mul_succ, iter_add, iter_loop h m]; exact h
theorem EE_loop {n : Nat} {p : ByteArray} {k : Nat} (hk : 1 ≤ k) (h : iter lk k p = some p) : EE lk n p = ⟨#[]⟩ := by
  apply EE_not
  intro j r he
  have h1 : iter lk (j + 1) p = none := by rw [iter, he.1]; exact he.2
  have h2 := iter_none lk h1 (b := k * (j + 1)) (Nat.le_mul_of_pos_left (j + 1) hk)
  rw [iter_loop h] at h2
  cases h2
/-- what the end is: a pointer that names no link -/
theorem EE_end {n : Nat} {p : ByteArray} (h : EE lk n p ≠ ⟨#[]⟩) : lk (EE lk n p) = none := by
  rcases endF_spec lk (n + 1) p with ⟨k', r', _, he, hr⟩ | ⟨_, hr⟩
  · unfold EE; rw [hr]; exact he.2
  · exact absurd hr h
end
end Go.Proofs.Qxb6609196a
