import Derived.Test.Qxb6603488aA
namespace Go.Proofs.Qxb6603488a
open Go.RowKit

theorem Try.info5 : (Try.prog.info? 5).map (fun i => (i.zero, i.size, i.bytes)) = some (some (.int .u8 0), 1, 1) := by kernel_rfl

/-- the row behind k rounds -/
def lowF (s : ByteArray) (k : Nat) (j : Nat) : Value := .int .u8 (if j < k then ((lowC (s.data.toList.getD j 0)).toNat : Int) else 0)

theorem lowF_step {wr : World} {b : Nat} (s : ByteArray) (k : Nat) (hk : k < s.size) (v : Int) (hv : v = ((lowC s[k]).toNat : Int)) (h : wr.rowIs b 5 s.size (lowF s k)) :
    (wr.setCell ⟨b, k, none⟩ (.int .u8 v)).rowIs b 5 s.size (lowF s (k + 1)) := by
  refine (h.set k (.int .u8 v)).congr fun j hj => ?_
  unfold lowF
  by_cases e : j = k
  · subst e
    have hg : s.data.toList.getD j 0 = s[j] := by
      rw [List.getD_eq_getElem?_getD, List.getElem?_eq_getElem (by simpa using hk)]; rfl
    rw [if_pos rfl, if_pos (by omega), hg, hv]
  · rw [if_neg e]
    by_cases h2 : j < k
    · rw [if_pos h2, if_pos (by omega)]
    · rw [if_neg h2, if_neg (by omega)]

theorem low_hit (c : UInt8) (h1 : (65 : Int) ≤ (c.toNat : Int)) (h2 : (c.toNat : Int) ≤ 90) : (c.toNat : Int) + 32 = ((lowC c).toNat : Int) := by
  unfold lowC
  rw [if_pos (by omega)]
  have : (UInt8.ofNat (c.toNat + 32)).toNat = c.toNat + 32 := by rw [UInt8.toNat_ofNat']; omega
  rw [this]; omega
theorem low_miss (c : UInt8) (h : ¬ ((65 : Int) ≤ (c.toNat : Int) ∧ (c.toNat : Int) ≤ 90)) : (c.toNat : Int) = ((lowC c).toNat : Int) := by
  unfold lowC
  rw [if_neg (by omega)]

set_option maxRecDepth 5000 in
set_option maxHeartbeats 400000 in
theorem lower_any (s : ByteArray) (w : World) (hs : s.size ≤ 1000) :
    Calls Try.prog 9 #[.string s] w fun e w' => e = .returned (.string ⟨(lowL s.data.toList).toArray⟩) ∧ Grown w w' := by
  have hmk := fun w => run_make_row' (P := Try.prog) 29 5 (.int .u8 0) 1 Try.underlying29 Try.info5 rfl .i64 .i64 s.size (by omega) (by omega) w
  go_enter Try.func9, Try.ntmps9
  go_wp2
  clear hmk
  go_loopw [4] (fun i wr => ∃ k : Nat, k ≤ s.size ∧ i = .int .i64 k ∧ wr.rowIs w.heap.size 5 s.size (lowF s k) ∧ Grown w wr) (fun i _ => s.size - (intOf i).toNat)
  case atStart => exact ⟨0, Nat.zero_le _, rfl, (World.rowIs_made w (.int .u8 0) s.size 5).congr (fun j _ => by simp [lowF]), (Grown.refl _).alloc _ _⟩
  case round =>
    obtain ⟨k, hk, rfl, hrow, hgr⟩ := hrel
    by_cases hlt : k < s.size
    · have hbd := u8_lt s[k]
      obtain ⟨vc, hcl⟩ : ∃ v, wr.cell? ⟨w.heap.size, k, none⟩ = some v := ⟨_, hrow.cell hlt⟩
      have hfz := hrow.frozen k
      have hsz := hgr.2.2
      have HR := hid hrow
      have HG := hid hgr
      clear hrow hgr
      go_wp2
      · have h1 : (65 : Int) ≤ (s[k].toNat : Int) := by assumption
        have h2 : (s[k].toNat : Int) ≤ 90 := by assumption
        go_roundw
        case rel => exact ⟨k + 1, by omega, by go_num, lowF_step s k hlt _ (low_hit _ h1 h2) HR.out, HG.out.setCell (by exact Nat.le_refl _) _⟩
        case measure => simp [intOf]; omega
      all_goals
        go_roundw
        case rel => exact ⟨k + 1, by omega, by go_num, lowF_step s k hlt _ (low_miss _ (by omega)) HR.out, HG.out.setCell (by exact Nat.le_refl _) _⟩
        case measure => simp [intOf]; omega
    · have hcv := run_convert_bytes_back (P := Try.prog) wr 29 9 5 ⟨w.heap.size, 0, none⟩ s.size (lowL s.data.toList) Try.underlying29 Try.underlying5 Try.underlying9 (by
        intro j hj
        have hj' : j < s.size := by simpa [lowL] using hj
        have := hrow.cell hj'
        have ha : (Addr.add ⟨w.heap.size, 0, none⟩ j) = ⟨w.heap.size, j, none⟩ := by simp [Addr.add]; intro h; exact h.symm
        rw [ha, this]
        unfold lowF lowL
        rw [if_pos (by omega)]
        have he : (List.map lowC s.data.toList)[j]'hj = lowC s.data[j] := List.getElem_map ..
        rw [he]
        simp [List.getD_eq_getElem?_getD, hj'])
      have hle : (lowL s.data.toList).length = s.size := by simp [lowL]
      rw [hle] at hcv
      have HG := hid hgr
      clear hgr hrow hle
      go_wp2
      go_ret
      exact ⟨rfl, HG.out⟩
end Go.Proofs.Qxb6603488a
