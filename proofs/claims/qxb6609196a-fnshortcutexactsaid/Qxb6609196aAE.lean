import Derived.Test.Qxb6609196aAD
namespace Go.Proofs.Qxb6609196a
open Go.RowKit

set_option maxRecDepth 5000 in
set_option maxHeartbeats 1000000 in
theorem zb12 (a : Option Addr) (n c : Nat) (nm rf : Nat → ByteArray) (pre : ByteArray) (pass : Bool) (w : World) (h : IsRefs w a n nm rf) :
    Calls Try.prog 12 #[.slice a n c, .string pre, .bool pass] w (ZbPost n nm rf pre w) := by
  have HS := hid h
  clear h
  by_cases hbig : 1048576 < n
  · go_enter Try.func12, Try.ntmps12
    go_wp2
    go_ret
    exact zb_no
  go_enter Try.func12, Try.ntmps12
  go_wp2
  go_loop [7, 8] (fun z i => ∃ k t : Nat, k ≤ n ∧ t ≤ 1048576 ∧ z = .int .i64 t ∧ i = .int .i64 k ∧ Hid (∀ j, j < k → (nm j).size ≤ 1048576 ∧ (rf j).size ≤ 1048576)) (fun _ i => n - (intOf i).toNat)
  case atStart => exact ⟨0, n, Nat.zero_le _, by omega, rfl, rfl, hid (fun j hj => absurd hj (by omega))⟩
  case round =>
    obtain ⟨k, t, hk, ht, rfl, rfl, HP⟩ := hrel
    by_cases hlt : k < n
    · obtain ⟨b, off, rfl, hbl, hc⟩ := HS.out.2 (by omega)
      obtain ⟨c0, c1⟩ := hc k hlt
      obtain ⟨x, hx⟩ : ∃ x, x = nm k := ⟨_, rfl⟩
      obtain ⟨y, hy⟩ : ∃ y, y = rf k := ⟨_, rfl⟩
      rw [← hx] at c0
      rw [← hy] at c1
      have HX := hid (And.intro hx hy)
      clear hc hx hy hbl HS
      go_wp2
      all_goals first
        | (go_ret; exact zb_no)
        | skip
      go_round
      case rel =>
        refine ⟨k + 1, t + x.size + y.size, by omega, by omega, by go_num, by go_num, hid (fun j hj => ?_)⟩
        by_cases e : j = k
        · subst e; rw [← HX.out.1, ← HX.out.2]; exact ⟨by omega, by omega⟩
        · exact HP.out j (by omega)
      case measure => simp [intOf]; omega
    · have hk' : k = n := by omega
      subst hk'
      go_wp2
      all_goals go_ret
      · exact zb_no
      · exact zb_no
      · exact ⟨true, rfl, fun _ => ⟨HP.out, by omega⟩, rfl⟩

def ChainPost (r : ByteArray) (w : World) (e : Ending) (w' : World) : Prop := e = .returned (.string r) ∧ ∃ m, w' = w.drewN m

set_option maxRecDepth 5000 in
set_option maxHeartbeats 1000000 in
theorem chain17 (p pre : ByteArray) (pass : Bool) (V n c I : Nat) (L : ByteArray → Option Nat) (f : Nat → ByteArray) (w : World) (hp : p.size ≤ 1048576) (hpre : pre.size ≤ 1048576) (hn : n ≤ 4096)
    (hV : Strs w V n f) (hI : SM w I (idxF L)) (hL : ∀ s i, L s = some i → i < n) (hf : ∀ p q, linkOf L f pre pass p = some q → q.size ≤ 1048576) :
    Calls Try.prog 17 #[.string p, .string pre, .bool pass, .slice (some ⟨V, 0, none⟩) n c, .map (some I)] w (ChainPost (EE (linkOf L f pre pass) n p) w) := by
  have HV := hid hV
  have HI := hid hI
  have HL := hid hL
  have HF := hid hf
  have HP := hid hp
  clear hV hI hL hf hp
  obtain ⟨r, hr⟩ : ∃ r, r = EE (linkOf L f pre pass) n p := ⟨_, rfl⟩
  rw [← hr]
  have HR := hid hr
  clear hr
  go_enter Try.func17, Try.ntmps17
  go_wp2
  go_loopg [0, 11] (n + 1) (fun g y i wr => ∃ (k m : Nat) (x : ByteArray), k + g = n + 1 ∧ i = .int .i64 k ∧ y = .string x ∧ wr = w.drewN m ∧ Hid (x.size ≤ 1048576 ∧ endF (linkOf L f pre pass) g x = r))
  case atStart => exact ⟨0, 0, p, by omega, rfl, rfl, rfl, hid ⟨HP.out, HR.out.symm⟩⟩
  case round =>
    obtain ⟨k, m, x, hk, rfl, rfl, rfl, HX⟩ := hrel
    cases gk with
    | zero =>
      have hkk : n < k := by omega
      have hre : r = ⟨#[]⟩ := HX.out.2.symm
      subst hre
      clear HR HX HP HF HL
      go_wp2
      go_ret
      exact ⟨rfl, m, rfl⟩
    | succ g =>
      have hkk : k ≤ n := by omega
      have hxs : x.size ≤ 1048576 := HX.out.1
      have HE : Hid ((match linkOf L f pre pass x with | none => x | some q => endF (linkOf L f pre pass) g q) = r) := hid HX.out.2
      clear HX
      cases hl : linkOf L f pre pass x with
      | none =>
        rw [hl] at HE
        have hre : x = r := HE.out
        subst hre
        go_wp2_with fail
        refine (linkRef_any x pre pass V n c I L f _ hxs hpre (HV.out.drewN m) (HI.out.drewN m) HL.out).mono ?_
        rintro e w4 ⟨rfl, m1, rfl⟩
        rw [hl]
        go_wp2
        go_ret
        exact ⟨rfl, m + m1, rfl⟩
      | some q =>
        rw [hl] at HE
        have HQ := hid (And.intro (HF.out x q hl) HE.out)
        go_wp2_with fail
        refine (linkRef_any x pre pass V n c I L f _ hxs hpre (HV.out.drewN m) (HI.out.drewN m) HL.out).mono ?_
        rintro e w4 ⟨rfl, m1, rfl⟩
        rw [hl]
        clear HE hl
        go_wp2
        go_roundg g
        case measure => omega
        case rel => exact ⟨k + 1, m + m1, q, by omega, by go_num, rfl, rfl, hid HQ.out⟩

theorem Sta.kept {n : Nat} {nm rf : Nat → ByteArray} {pre : ByteArray} {pass : Bool} {N V I H Wb : Nat} {w w3 w' : World} (h : Sta n nm rf pre pass N V I H Wb w w3) (k : Kept (fun _ => False) w3 w') : Sta n nm rf pre pass N V I H Wb w w' :=
  ⟨h.hN.kept k (fun h => h), h.hV.kept k (fun h => h), h.hH.kept k (fun h => h), h.hI.kept k (fun h => h), h.hW.kept k (fun h => h), ((Kept.of_below (ex := fun _ => False) h.bl).trans k).below (Nat.le_refl _) (fun _ h => h.elim)⟩

/-- the refs that are wanted -/
def want (n : Nat) (nm rf : Nat → ByteArray) (pre : ByteArray) (pass : Bool) (k : Nat) : ByteArray := if wrote n nm rf pre pass k then EO n nm rf pre pass (rf k) else rf k
theorem want_at {n : Nat} {nm rf : Nat → ByteArray} {pre : ByteArray} {pass : Bool} {k : Nat} (h : lastI nm n (nm k) = some k) : want n nm rf pre pass k = res (EO n nm rf pre pass) (rf k) := by
  unfold want res; rw [wrote_at h]
theorem want_ne {n : Nat} {nm rf : Nat → ByteArray} {pre : ByteArray} {pass : Bool} {k j : Nat} (h : lastI nm n (nm k) = some j) (e : ¬ k = j) : want n nm rf pre pass k = rf k := by
  unfold want; rw [wrote_ne h e]; rfl
theorem fillF_again {wr : World} {b n : Nat} (f : Nat → ByteArray) (k : Nat) (u : Value) (v : ByteArray) (hv : v = f k) (h : wr.rowIs b 9 n (fun j => if j = k then u else fillF f k j)) :
    (wr.setCell ⟨b, k, none⟩ (.string v)).rowIs b 9 n (fillF f (k + 1)) := by
  refine (h.set k (.string v)).congr fun j hj => ?_
  unfold fillF
  by_cases e : j = k
  · subst e; rw [if_pos rfl, if_pos (by omega), hv]
  · rw [if_neg e, if_neg e]
    by_cases h2 : j < k
    · rw [if_pos h2, if_pos (by omega)]
    · rw [if_neg h2, if_neg (by omega)]
end Go.Proofs.Qxb6609196a
