/- PLAIN LAWS: bytes, lists; no Go in sight. -/
import Derived.WalkKit
namespace Go.Proofs.Qxb6603488a
def upB (n : Int) : Bool := decide (65 ≤ n ∧ n ≤ 90)
def dgB (n : Int) : Bool := decide (48 ≤ n ∧ n ≤ 57)
def loB (n : Int) : Bool := decide (97 ≤ n ∧ n ≤ 122)
def okB (n : Int) : Bool := decide ((48 ≤ n ∧ n ≤ 57) ∨ (65 ≤ n ∧ n ≤ 90))
def okC (c : UInt8) : Bool := okB (c.toNat : Int)
def lowC (c : UInt8) : UInt8 := if 65 ≤ c.toNat ∧ c.toNat ≤ 90 then UInt8.ofNat (c.toNat + 32) else c
def lowL (l : List UInt8) : List UInt8 := l.map lowC

theorem tab1 : ∀ m : Fin 64, (bits BinOp.and IntKind.u64 (287948901175001088 / 2 ^ m.val) 1 == 1) = okB (m.val : Int) := by decide +kernel
theorem tab2 : ∀ m : Fin 64, (bits BinOp.and IntKind.u64 (134217726 / 2 ^ m.val) 1 == 1) = okB ((m.val : Int) + 64) := by decide +kernel
theorem tab1' (n : Int) (h0 : 0 ≤ n) (h1 : n < 64) : (bits BinOp.and IntKind.u64 (287948901175001088 / 2 ^ n.toNat) 1 == 1) = okB n := by
  have h := tab1 ⟨n.toNat, by omega⟩
  rw [h]; congr 1; show ((n.toNat : Nat) : Int) = n; omega
theorem tab2' (n : Int) (h0 : 64 ≤ n) (h1 : n < 128) : (bits BinOp.and IntKind.u64 (134217726 / 2 ^ (n - 64).toNat) 1 == 1) = okB n := by
  have h := tab2 ⟨(n - 64).toNat, by omega⟩
  rw [h]; congr 1; show (((n - 64).toNat : Nat) : Int) + 64 = n; omega
theorem okB_big (n : Int) (h0 : 128 ≤ n) : okB n = false := by unfold okB; simp; omega
theorem okB_eq (n : Int) : okB n = (upB n || dgB n) := by
  unfold okB upB dgB; rw [Bool.eq_iff_iff]; simp; omega

def allFrom (d : Nat) (l : List UInt8) : Bool := (l.drop d).all okC

theorem all_drop_false (l : List UInt8) (p : UInt8 → Bool) (d k : Nat) (hd : d ≤ k) (hk : k < l.length) (h : p l[k] = false) : (l.drop d).all p = false := by
  rw [List.all_eq_false]
  refine ⟨l[k], ?_, by simp [h]⟩
  rw [List.mem_iff_getElem]
  exact ⟨k - d, by simp; omega, by simp [List.getElem_drop, Nat.add_sub_cancel' hd]⟩
theorem all_take_succ (l : List UInt8) (p : UInt8 → Bool) (d k : Nat) (hd : d ≤ k) (hk : k < l.length) (h : ((l.take k).drop d).all p = true) (hp : p l[k] = true) :
    ((l.take (k + 1)).drop d).all p = true := by
  rw [List.take_succ_eq_append_getElem hk, List.drop_append_of_le_length (by simp; omega), List.all_append, h]
  simp [hp]
theorem all_elem (l : List UInt8) (p : UInt8 → Bool) (d k : Nat) (hd : d ≤ k) (hk : k < l.length) (h : (l.drop d).all p = true) : p l[k] = true := by
  cases e : p l[k] with
  | true => rfl
  | false => have := all_drop_false l p d k hd hk e; rw [h] at this; cases this

theorem loB_low (c : UInt8) (h : upB (c.toNat : Int) = true) : loB ((lowC c).toNat : Int) = true := by
  unfold upB at h; simp at h
  have h1 : 65 ≤ c.toNat := by omega
  have h2 : c.toNat ≤ 90 := by omega
  unfold lowC loB; rw [if_pos ⟨h1, h2⟩]
  have : (UInt8.ofNat (c.toNat + 32)).toNat = c.toNat + 32 := by rw [UInt8.toNat_ofNat']; omega
  rw [this]; simp; omega
theorem lodg_low (c : UInt8) (h : okC c = true) : loB ((lowC c).toNat : Int) = true ∨ dgB ((lowC c).toNat : Int) = true := by
  unfold okC at h; rw [okB_eq] at h
  cases e : upB (c.toNat : Int) with
  | true => exact .inl (loB_low c e)
  | false =>
    rw [e] at h; right
    simp at h
    have h' := h
    unfold dgB at h'; simp at h'
    unfold lowC; rw [if_neg (by omega)]; exact h
end Go.Proofs.Qxb6603488a
