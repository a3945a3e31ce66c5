import Derived.Test.Qxb6604527aRows
import Derived.Test.Qxb6604527aShelf
import Derived.WalkKit
import Derived.ProofKit
import Derived.WalkSpells
import Derived.WalkLawsBesides
import Derived.Deep.OwnRows
import Derived.Deep.QuietTactic
import Derived.Deep.LoopGhost
import Derived.BigQuiet
import Derived.Deep.AppendSrc
import Derived.OpenShut
namespace Go.Proofs.Qxb6604527a
open Go.RowKit

theorem Try.info5 : (Try.prog.info? 5).map (fun i => (i.zero, i.size, i.bytes)) = some (some (.int .u8 0), 1, 1) := by kernel_rfl
theorem hid {p : Prop} (h : p) : Hid p := h

/-- a slice of n bytes that reads xs in the world w -/
def Sl (w : World) (a : Option Addr) (n : Nat) (xs : List Int) : Prop :=
  xs.length = n ∧ (a = none → n = 0) ∧ (0 < n → ∃ b off, a = some ⟨b, off, none⟩ ∧ b < w.heap.size ∧ ∀ i, i < n → w.cell? ⟨b, off + i, none⟩ = some (.int .u8 (xs.getD i 0)))

theorem Sl.below {w w' : World} {a : Option Addr} {n : Nat} {xs : List Int} (h : Sl w a n xs) (hb : Below w.heap.size w w') : Sl w' a n xs := by
  refine ⟨h.1, h.2.1, fun hp => ?_⟩
  obtain ⟨b, off, rfl, hlt, hc⟩ := h.2.2 hp
  exact ⟨b, off, rfl, Nat.lt_of_lt_of_le hlt hb.size, fun i hi => (hb.cell (p := ⟨b, off + i, none⟩) hlt).trans (hc i hi)⟩

def spB (n : Int) : Bool := n == 32 || n == 9 || n == 10 || n == 13

theorem ret_bool {a b : Bool} (h : a = b) : Ending.returned (.bool a) = .returned (.bool b) := by rw [h]

theorem isSp_any (n : Int) (w : World) :
    Calls Try.prog 8 #[.int .u8 n] w fun e w' => e = .returned (.bool (spB n)) ∧ w' = w := by
  go_enter Try.func8, Try.ntmps8
  go_wp2
  all_goals go_ret
  all_goals exact ⟨ret_bool (by simp [spB, *]), rfl⟩

set_option maxHeartbeats 400000 in
theorem zb_any (a0 a1 a2 a3 : Option Addr) (n0 c0 n1 c1 n2 c2 n3 c3 : Nat) (w : World) :
    Calls Try.prog 11 #[.slice a0 n0 c0, .slice a1 n1 c1, .slice a2 n2 c2, .slice a3 n3 c3] w fun e w' => ∃ b, e = .returned (.bool b) ∧ w' = w := by
  go_enter Try.func11, Try.ntmps11
  go_wp2
  all_goals go_ret
  all_goals exact ⟨_, rfl, rfl⟩

/-- the row of a clone behind k rounds -/
def cpF (xs : List Int) (k : Nat) (j : Nat) : Value := .int .u8 (if j < k then xs.getD j 0 else 0)
theorem cpF_step {wr : World} {b n : Nat} (xs : List Int) (k : Nat) (v : Int) (hv : v = xs.getD k 0) (h : wr.rowIs b 5 n (cpF xs k)) :
    (wr.setCell ⟨b, k, none⟩ (.int .u8 v)).rowIs b 5 n (cpF xs (k + 1)) := by
  refine (h.set k (.int .u8 v)).congr fun j hj => ?_
  unfold cpF
  by_cases e : j = k
  · subst e; rw [if_pos rfl, if_pos (by omega), hv]
  · rw [if_neg e]
    by_cases h2 : j < k
    · rw [if_pos h2, if_pos (by omega)]
    · rw [if_neg h2, if_neg (by omega)]

set_option maxRecDepth 5000 in
set_option maxHeartbeats 400000 in
theorem clone_any (a : Option Addr) (n c : Nat) (xs : List Int) (w : World) (h : Sl w a n xs) (hn : n ≤ 1048576) :
    Calls Try.prog 6 #[.slice a n c] w fun e w' => ∃ a' c', e = .returned (.slice a' n c') ∧ Sl w' a' n xs ∧ Below w.heap.size w w' := by
  have heq := fun w a n c => Lib.run_eql_slice_nil (P := Try.prog) w 22 5 a n c 0 0 Try.underlying22
  cases a with
  | none =>
    obtain rfl := h.2.1 rfl
    go_enter Try.func6, Try.ntmps6
    go_wp2
    go_ret
    exact ⟨none, 0, rfl, ⟨h.1, fun _ => rfl, fun hp => absurd hp (by omega)⟩, Below.refl _ _⟩
  | some x =>
    have hmk := fun w => run_make_row' (P := Try.prog) 22 5 (.int .u8 0) 1 Try.underlying22 Try.info5 rfl .i64 .i64 n (by omega) (by omega) w
    have HS := hid h
    clear h
    go_enter Try.func6, Try.ntmps6
    go_wp2
    clear hmk heq
    go_loopw [4] (fun i wr => ∃ k : Nat, k ≤ n ∧ i = .int .i64 k ∧ wr.rowIs w.heap.size 5 n (cpF xs k) ∧ Below w.heap.size w wr) (fun i _ => n - (intOf i).toNat)
    case atStart => exact ⟨0, Nat.zero_le _, rfl, (World.rowIs_made w (.int .u8 0) n 5).congr (fun j _ => by simp [cpF]), (Below.refl _ _).alloc (Nat.le_refl _) _⟩
    case round =>
      obtain ⟨k, hk, rfl, hrow, hb⟩ := hrel
      by_cases hlt : k < n
      · obtain ⟨b, off, hx, hbl, hc⟩ := HS.out.2.2 (by omega)
        simp only [Option.some.injEq] at hx
        subst hx
        have hsrc : wr.cell? ⟨b, off + k, none⟩ = some (.int .u8 (xs.getD k 0)) := (hb.cell (p := ⟨b, off + k, none⟩) hbl).trans (hc k hlt)
        obtain ⟨x, hx⟩ : ∃ x, x = xs.getD k 0 := ⟨_, rfl⟩
        rw [← hx] at hsrc
        obtain ⟨vc, hcl⟩ : ∃ v, wr.cell? ⟨w.heap.size, k, none⟩ = some v := ⟨_, hrow.cell hlt⟩
        have hfz := hrow.frozen k
        have HR := hid hrow
        have HB := hid hb
        have HX := hid hx
        clear hrow hb hc hx HS hbl
        go_wp2
        go_roundw
        case rel => exact ⟨k + 1, by omega, by go_num, cpF_step xs k _ HX.out HR.out, HB.out.setCell (by exact Nat.le_refl _) _⟩
        case measure => simp [intOf]; omega
      · go_wp2
        go_ret
        refine ⟨_, _, rfl, ⟨HS.out.1, (fun h => nomatch h), fun hp => ⟨w.heap.size, 0, rfl, hrow.lt, fun i hi => ?_⟩⟩, hb⟩
        rw [Nat.zero_add, hrow.cell hi]; simp only [cpF]; rw [if_pos (by omega)]

set_option maxHeartbeats 400000 in
theorem same_yes (a a' : Option Addr) (n c c' : Nat) (xs : List Int) (w : World) (h : Sl w a n xs) (h' : Sl w a' n xs) (hn : n ≤ 1048576) :
    Calls Try.prog 10 #[.slice a n c, .slice a' n c'] w fun e w' => e = .returned (.bool true) ∧ Below w.heap.size w w' := by
  have HS := hid h
  have HS' := hid h'
  clear h h'
  go_enter Try.func10, Try.ntmps10
  go_wp2
  go_loopw [5] (fun i wr => ∃ k m : Nat, k ≤ n ∧ i = .int .i64 k ∧ wr = w.drewN m) (fun i _ => n - (intOf i).toNat)
  case atStart => exact ⟨0, 0, Nat.zero_le _, rfl, rfl⟩
  case round =>
    obtain ⟨k, m, hk, rfl, rfl⟩ := hrel
    by_cases hlt : k < n
    · obtain ⟨b, off, rfl, hbl, hc⟩ := HS.out.2.2 (by omega)
      obtain ⟨b', off', rfl, hbl', hc'⟩ := HS'.out.2.2 (by omega)
      have h1 := hc k hlt
      have h2 := hc' k hlt
      obtain ⟨x, hx⟩ : ∃ x, x = xs.getD k 0 := ⟨_, rfl⟩
      rw [← hx] at h1 h2
      clear hc hc' hx HS HS'
      go_wp2
      go_quiet (fail)
      go_wp2
      go_roundw
      case rel => exact ⟨k + 1, _, by omega, by go_num, rfl⟩
      case measure => simp [intOf]; omega
    · go_wp2
      go_ret
      exact ⟨rfl, below_drewN (Below.refl _ _) _⟩
end Go.Proofs.Qxb6604527a
