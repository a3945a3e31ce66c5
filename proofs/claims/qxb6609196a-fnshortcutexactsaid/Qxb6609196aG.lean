/- PLAIN: names, links, chains; no Go in sight. -/
import Derived.Test.Qxb6609196aC
namespace Go.Proofs.Qxb6609196a
open Go.RowKit

def emp : ByteArray := ⟨#[]⟩
/-- is it empty? -/
def isE (s : ByteArray) : Bool := s.toList.isEmpty
theorem isE_iff {s : ByteArray} : isE s = true ↔ s = ⟨#[]⟩ := by
  unfold isE
  rw [Lib.toList_data]
  constructor
  · intro h; apply ba_ext; simpa using h
  · intro h; subst h; rfl

/-- the clean name that the pointer p names under pre -/
def nameOf (pre p : ByteArray) : Option ByteArray :=
  if Lib.hasPrefix p.data.toList pre.data.toList then
    (if badB (p.data.toList.drop pre.data.toList.length) then none else some ⟨(p.data.toList.drop pre.data.toList.length).toArray⟩)
  else none
theorem nameOf_some {pre p n : ByteArray} (h : nameOf pre p = some n) : p.data.toList = pre.data.toList ++ n.data.toList ∧ badB n.data.toList = false := by
  unfold nameOf at h
  split at h
  · rename_i hp
    split at h
    · cases h
    · rename_i hb
      cases h
      unfold Lib.hasPrefix at hp
      obtain ⟨t, ht⟩ := List.isPrefixOf_iff_prefix.1 hp
      refine ⟨?_, by simpa using hb⟩
      rw [← ht]; simp
  · cases h
theorem nameOf_inj {pre p q n : ByteArray} (h : nameOf pre p = some n) (h' : nameOf pre q = some n) : p = q := by
  apply ba_ext
  rw [(nameOf_some h).1, (nameOf_some h').1]
theorem nameOf_size {pre p n : ByteArray} (h : nameOf pre p = some n) : n.size ≤ p.size := by
  have := congrArg List.length (nameOf_some h).1
  rw [List.length_append] at this
  show n.data.toList.length ≤ p.data.toList.length
  omega

/-- the last index below k at which the name stands -/
def lastI (nm : Nat → ByteArray) : Nat → ByteArray → Option Nat
  | 0, _ => none
  | k + 1, s => if s = nm k then some k else lastI nm k s
theorem lastI_lt (nm : Nat → ByteArray) : ∀ {k : Nat} {s : ByteArray} {i : Nat}, lastI nm k s = some i → i < k ∧ nm i = s
  | 0, _, _, h => by cases h
  | k + 1, s, i, h => by
    unfold lastI at h
    split at h
    · rename_i e; cases h; exact ⟨Nat.lt_succ_self _, e.symm⟩
    · obtain ⟨h1, h2⟩ := lastI_lt nm h; exact ⟨by omega, h2⟩
theorem lastI_known (nm : Nat → ByteArray) : ∀ {k i : Nat}, i < k → ∃ j, lastI nm k (nm i) = some j ∧ i ≤ j
  | 0, _, h => by omega
  | k + 1, i, h => by
    unfold lastI
    split
    · exact ⟨k, rfl, by omega⟩
    · rename_i hne
      have : i < k := by
        rcases Nat.lt_or_ge i k with h1 | h1
        · exact h1
        · have : i = k := by omega
          subst this; exact absurd rfl hne
      exact lastI_known nm this

/-- the link that the pointer p names: the ref that it writes -/
def linkOf (L : ByteArray → Option Nat) (c : Nat → ByteArray) (pre : ByteArray) (pass : Bool) (p : ByteArray) : Option ByteArray :=
  if pass then (match nameOf pre p with
    | some n => (match L n with
      | some i => if isE (c i) then none else some (c i)
      | none => none)
    | none => none)
  else none

/-- the chain's end, in so many steps -/
def endF (lk : ByteArray → Option ByteArray) : Nat → ByteArray → ByteArray
  | 0, _ => ⟨#[]⟩
  | k + 1, p => match lk p with
    | none => p
    | some q => endF lk k q
end Go.Proofs.Qxb6609196a
