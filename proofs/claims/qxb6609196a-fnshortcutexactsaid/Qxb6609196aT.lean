import Derived.Test.Qxb6609196aS
import Derived.Test.Qxb6609196aG
namespace Go.Proofs.Qxb6609196a
open Go.RowKit

theorem makeMap_hint (T K E : TypeId) (hT : Try.prog.underlying T = some (.map K E)) (n : Int) (w : World) :
    (Instr.makeMap T (some (.int .i64 n))).run Try.prog w = .ok (.map (some w.heap.size)) (w.alloc (.map #[] 0)) := by
  simp [Instr.makeMap, run_underlying hT, asInt, asIntOf, Result.andThen]

/-- name to index, as the map holds it -/
def idxF (L : ByteArray → Option Nat) (s : ByteArray) : Option Value := (L s).map fun i => .int .i64 (i : Nat)
theorem idxF_step (nm : Nat → ByteArray) (k : Nat) (s : ByteArray) : upd (idxF (lastI nm k)) (nm k) (.int .i64 (k : Nat)) s = idxF (lastI nm (k + 1)) s := by
  unfold upd idxF
  rw [lastI]
  by_cases h : s = nm k
  · rw [if_pos h, if_pos h]; rfl
  · rw [if_neg h, if_neg h]

def IdxPost (n : Nat) (nm : Nat → ByteArray) (w : World) (e : Ending) (w' : World) : Prop :=
  e = .returned (.map (some w.heap.size)) ∧ SM w' w.heap.size (idxF (lastI nm n)) ∧ Below w.heap.size w w'

set_option maxRecDepth 5000 in
set_option maxHeartbeats 1000000 in
theorem lastIndex_any (N n c : Nat) (nm : Nat → ByteArray) (w : World) (h : Strs w N n nm) (hn : n ≤ 4096) :
    Calls Try.prog 15 #[.slice (some ⟨N, 0, none⟩) n c] w (IdxPost n nm w) := by
  have HS := hid h
  clear h
  have hmm := fun n w => makeMap_hint 32 9 3 Try.underlying32 n w
  go_enter Try.func15, Try.ntmps15
  go_wp2
  clear hmm
  go_loopw [4] (fun i wr => ∃ k : Nat, k ≤ n ∧ i = .int .i64 k ∧ SM wr w.heap.size (idxF (lastI nm k)) ∧ Below w.heap.size w wr) (fun i _ => n - (intOf i).toNat)
  case atStart => exact ⟨0, Nat.zero_le _, rfl, SM.made w, (Below.refl _ _).alloc (Nat.le_refl _) _⟩
  case round =>
    obtain ⟨k, hk, rfl, hm, hb⟩ := hrel
    by_cases hlt : k < n
    · have hcl := (hb.cell (p := ⟨N, k, none⟩) HS.out.lt).trans (HS.out.cell hlt)
      obtain ⟨x, hx⟩ : ∃ x, x = nm k := ⟨_, rfl⟩
      rw [← hx] at hcl
      have HX := hid hx
      have HM := hid hm
      have HB := hid hb
      clear hx hm hb
      go_wp2_with (at_mapUpdate; refine wpList_upd rfl _ _ _ 32 rfl 9 3 Try.underlying32 Try.underlying9 w.heap.size _ x _ rfl rfl rfl HM.out ?_; intro w1 hm1 hg1 hs1; replace hm1 := hid hm1; replace hg1 := hid hg1; clear hs1)
      go_roundw
      case rel =>
        refine ⟨k + 1, by omega, by go_num, hm1.out.congr fun s => ?_, HB.out.grown hg1.out HB.out.size (fun j hj => by cases hj; exact Nat.le_refl _)⟩
        rw [HX.out]; exact idxF_step nm k s
      case measure => simp [intOf]; omega
    · have hk' : k = n := by omega
      subst hk'
      have HE := hid (And.intro hm hb)
      clear hm hb HS
      go_wp2
      go_ret
      exact ⟨rfl, HE.out.1, HE.out.2⟩
end Go.Proofs.Qxb6609196a
