import Derived.Test.Qxb6609196aAC
import Derived.Deep.DeepMust
namespace Go.Proofs.Qxb6609196a
open Go.RowKit

def LawPost (w : World) (e : Ending) (w' : World) : Prop := e = .returned (.bool true) ∧ Below w.heap.size w w'
theorem law_same {w : World} : LawPost w (.returned (.bool true)) w := ⟨rfl, Below.refl _ _⟩
theorem law_drew {w : World} {m : Nat} : LawPost w (.returned (.bool true)) (w.drewN m) := ⟨rfl, (Kept.refl (fun _ => False) w).drewN m |>.below (Nat.le_refl _) (fun _ h => h.elim)⟩

theorem Strs.drewN {w : World} {b n : Nat} {f : Nat → ByteArray} (h : Strs w b n f) (m : Nat) : Strs (w.drewN m) b n f := h
/-- what stands ahead of the loops -/
structure Sta (n : Nat) (nm rf : Nat → ByteArray) (pre : ByteArray) (pass : Bool) (N V I H Wb : Nat) (w w3 : World) : Prop where
  hN : Strs w3 N n nm
  hV : Strs w3 V n rf
  hH : Strs w3 H n (aft n nm rf pre pass)
  hI : SM w3 I (idxF (lastI nm n))
  hW : SM w3 Wb (newW (EO n nm rf pre pass) (lastI nm n) rf)
  bl : Below w.heap.size w w3
theorem st_of {n : Nat} {nm rf : Nat → ByteArray} {pre : ByteArray} {pass : Bool} {N V I H Wb : Nat} {w wd w1 w2 w3 : World} (b0 : Below w.heap.size w wd) (hN : Strs w1 N n nm) (hV : Strs w1 V n rf) (b1 : Below wd.heap.size wd w1) (hI : SM w2 I (idxF (lastI nm n))) (b2 : Below w1.heap.size w1 w2)
    (hH : Strs w3 H n (aft n nm rf pre pass)) (hW : SM w3 Wb (newW (EO n nm rf pre pass) (lastI nm n) rf)) (b3 : Below w2.heap.size w2 w3) : Sta n nm rf pre pass N V I H Wb w w3 := by
  have k2 : Kept (fun _ => False) w1 w2 := Kept.of_below b2
  have k3 : Kept (fun _ => False) w2 w3 := Kept.of_below b3
  have k0 : Kept (fun _ => False) w wd := Kept.of_below b0
  have k1 : Kept (fun _ => False) wd w1 := Kept.of_below b1
  exact ⟨(hN.kept k2 (fun h => h)).kept k3 (fun h => h), (hV.kept k2 (fun h => h)).kept k3 (fun h => h), hH, hI.kept k3 (fun h => h), hW, (((k0.trans k1).trans k2).trans k3).below (Nat.le_refl _) (fun _ h => h.elim)⟩

theorem Sta.drewN {n : Nat} {nm rf : Nat → ByteArray} {pre : ByteArray} {pass : Bool} {N V I H Wb : Nat} {w w3 : World} (h : Sta n nm rf pre pass N V I H Wb w w3) (m : Nat) : Sta n nm rf pre pass N V I H Wb w (w3.drewN m) :=
  ⟨h.hN, h.hV, h.hH, h.hI, h.hW, ⟨h.bl.os, h.bl.tape, h.bl.output, h.bl.size, h.bl.block⟩⟩
theorem lastI_hl (nm : Nat → ByteArray) (n : Nat) : ∀ s i, lastI nm n s = some i → i < n := fun _ _ h => (lastI_lt nm h).1
theorem cnt_yes {P : Nat → Bool} {k : Nat} (h : P k = true) : cnt P (k + 1) = cnt P k + 1 := by show cnt P k + _ = _; rw [if_pos h]
theorem cnt_no {P : Nat → Bool} {k : Nat} (h : P k = false) : cnt P (k + 1) = cnt P k := by show cnt P k + _ = _; rw [h]; rfl
theorem wrote_at {n : Nat} {nm rf : Nat → ByteArray} {pre : ByteArray} {pass : Bool} {k : Nat} (h : lastI nm n (nm k) = some k) : wrote n nm rf pre pass k = chg (EO n nm rf pre pass) (rf k) := by unfold wrote; rw [h]; simp
theorem wrote_ne {n : Nat} {nm rf : Nat → ByteArray} {pre : ByteArray} {pass : Bool} {k j : Nat} (h : lastI nm n (nm k) = some j) (e : ¬ k = j) : wrote n nm rf pre pass k = false := by
  unfold wrote; rw [h]
  have : ¬ (some j = some k) := fun h => e (by cases h; rfl)
  rw [decide_eq_false this]; rfl

set_option maxRecDepth 5000 in
set_option maxHeartbeats 4000000 in
theorem script6 (a : Option Addr) (n c : Nat) (nm rf : Nat → ByteArray) (pre : ByteArray) (pass : Bool) (w : World) (h : IsRefs w a n nm rf) :
    Calls Try.prog 6 #[.slice a n c, .string pre, .bool pass] w (LawPost w) := by
  have HR := hid h
  clear h
  go_enter Try.func6, Try.ntmps6
  go_wp2_with fail
  refine (zb18 a n c nm rf pre pass _ HR.out).mono ?_
  rintro e w0 ⟨b, rfl, hb, rfl⟩
  cases b with
  | false =>
    clear hb
    go_wp2
    go_ret
    exact law_same
  | true =>
    have HS := hid (hb rfl)
    clear hb
    by_cases hn : 4096 < n
    · go_wp2
      go_ret
      exact law_same
    by_cases hp : 65536 < pre.size
    · go_wp2
      go_ret
      exact law_same
    go_wp2_with fail
    refine (fit_any a n c nm rf pre _ HR.out HS.out (by omega)).mono ?_
    rintro e wd ⟨b, m, rfl, hwd⟩
    cases b with
    | false =>
      subst hwd
      go_wp2
      go_ret
      exact law_drew
    | true =>
      have B0 : Hid (Below w0.heap.size w0 wd) := by subst hwd; exact hid law_drew.2
      have HRd : Hid (IsRefs wd a n nm rf) := by subst hwd; exact HR
      clear hwd HR
      go_wp2_with fail
      refine (split_any a n c nm rf wd HRd.out (by omega)).mono ?_
      rintro e w1 ⟨rfl, sN, sV, b1⟩
      obtain ⟨N, hN⟩ : ∃ N, N = wd.heap.size := ⟨_, rfl⟩
      obtain ⟨V, hV⟩ : ∃ V, V = wd.heap.size + 1 := ⟨_, rfl⟩
      rw [← hV] at sV ⊢
      rw [← hN] at sN ⊢
      have S1 := hid (And.intro sN (And.intro sV b1))
      clear sN sV b1 hN hV HRd
      go_wp2_with fail
      refine (lastIndex_any N n n nm w1 S1.out.1 (by omega)).mono ?_
      rintro e w2 ⟨rfl, sI, b2⟩
      obtain ⟨I, hI⟩ : ∃ I, I = w1.heap.size := ⟨_, rfl⟩
      rw [← hI] at sI ⊢
      have S2 := hid (And.intro sI b2)
      clear sI b2 hI
      go_wp2_with fail
      refine (zz16 N V n n n nm rf pre pass w2 (by omega) (S1.out.1.kept (Kept.of_below (ex := fun _ => False) S2.out.2) (fun h => h)) (S1.out.2.1.kept (Kept.of_below (ex := fun _ => False) S2.out.2) (fun h => h)) HS.out).mono ?_
      rintro e w3 ⟨H, Wb, rfl, _, _, sH, sW, b3⟩
      have ST : Hid (Sta n nm rf pre pass N V I H Wb w0 w3) := hid (st_of B0.out S1.out.1 S1.out.2.1 S1.out.2.2 S2.out.1 S2.out.2 sH sW b3)
      clear sH sW b3 S1 S2 B0
      go_wp2
      go_loopg [12, 13] n (fun g z i wr => ∃ k : Nat, k + g = n ∧ z = .int .i64 (cnt (wrote n nm rf pre pass) k) ∧ i = .int .i64 k ∧ Hid (Sta n nm rf pre pass N V I H Wb w0 wr))
      case atStart => exact ⟨0, by omega, rfl, rfl, ST⟩
      case round =>
        obtain ⟨k, hk, rfl, rfl, SR⟩ := hrel
        clear ST
        by_cases hlt : k < n
        · obtain ⟨j, hj, hkj⟩ := lastI_known nm hlt
          have hjn := (lastI_lt nm hj).1
          have cN := SR.out.hN.cell hlt
          have cV := SR.out.hV.cell hjn
          have cA := SR.out.hH.cell hlt
          have hA : aft n nm rf pre pass k = res (EO n nm rf pre pass) (rf j) := by unfold aft; rw [hj]; rfl
          have HW : Hid (newW (EO n nm rf pre pass) (lastI nm n) rf (nm k) = if chg (EO n nm rf pre pass) (rf j) then some (.string (rf j)) else none) := by unfold newW; rw [hj]; exact rfl
          have HI : Hid (idxF (lastI nm n) (nm k) = some (.int .i64 (j : Nat))) := by unfold idxF; rw [hj]; rfl
          have HL := hid (lastI_hl nm n)
          have hcl := cnt_le (wrote n nm rf pre pass) k
          obtain ⟨z, hz⟩ : ∃ z, z = cnt (wrote n nm rf pre pass) k := ⟨_, rfl⟩
          have HC : Hid (cnt (wrote n nm rf pre pass) (k + 1) = if k = j ∧ chg (EO n nm rf pre pass) (rf j) = true then z + 1 else z) := by
            by_cases e : k = j
            · subst e
              have := wrote_at (rf := rf) (pre := pre) (pass := pass) hj
              cases hc : chg (EO n nm rf pre pass) (rf k) with
              | true => rw [hc] at this; rw [if_pos ⟨rfl, rfl⟩, hz]; exact cnt_yes this
              | false => rw [hc] at this; rw [if_neg (fun h => by cases h.2), hz]; exact cnt_no this
            · rw [if_neg (fun h => e h.1), hz]; exact cnt_no (wrote_ne hj e)
          rw [← hz] at hcl ⊢
          have hrs : (rf j).size ≤ 1048576 := (HS.out.1 j hjn).2
          have hps : pre.size ≤ 1048576 := HS.out.2
          have HY := hid (ways n nm rf pre pass (rf j))
          have HQ : Hid (∀ q, linkOf (lastI nm n) rf pre pass (rf j) = some q → q.size ≤ 1048576) := hid (fun q h => link_size HS.out h)
          obtain ⟨r, hr⟩ : ∃ r, r = rf j := ⟨_, rfl⟩
          obtain ⟨x, hx⟩ : ∃ x, x = nm k := ⟨_, rfl⟩
          rw [hA] at cA
          rw [← hr] at cV cA HW HC HY hrs HQ
          rw [← hx] at cN HW HI
          clear hr hx hA hj hkj hz
          have hkn : (k : Int) < (n : Int) := by omega
          have hjn' : (j : Int) < (n : Int) := by omega
          rcases HY.out with ⟨hE, hres, hc⟩ | ⟨hE, hl, hres, hc⟩ | ⟨hE, q, hl, hq, hres, hqr, hc⟩ | ⟨hE, q, q', hl, hq, hres, hc⟩ | ⟨hE, q, q', hl, hq, hres, hc⟩
          · rw [hres] at cA
            rw [hc] at HW HC
            simp only [Bool.false_eq_true, and_false, if_false] at HW HC
            have hE' : r.toList.isEmpty = true := hE
            clear hc HY HQ hE hres
            by_cases e : k = j
            · subst e
              skip
              go_wp2_with (first
                | (at_lookup; refine wpList_look rfl _ _ 32 false rfl 9 3 Try.underlying32 Try.underlying9 _ zero3 I _ x _ rfl rfl SR.out.hI HI.out ?_)
                | (at_lookup; refine wpList_look rfl _ _ 34 true rfl 9 9 Try.underlying34 Try.underlying9 _ zero9 Wb _ x _ rfl rfl (SR.out.hW) HW.out ?_))
              go_roundg (n - (k + 1))
              case measure => omega
              case rel => exact ⟨k + 1, by omega, by rw [HC.out], by go_num, SR⟩
            · have hjk : ¬ ((j : Int) = (k : Int)) := by omega
              skip
              go_wp2_with (first
                | (at_lookup; refine wpList_look rfl _ _ 32 false rfl 9 3 Try.underlying32 Try.underlying9 _ zero3 I _ x _ rfl rfl SR.out.hI HI.out ?_))
              go_roundg (n - (k + 1))
              case measure => omega
              case rel => exact ⟨k + 1, by omega, by rw [HC.out], by go_num, SR⟩
          · rw [hres] at cA
            rw [hc] at HW HC
            simp only [Bool.false_eq_true, and_false, if_false] at HW HC
            have hE' : r.toList.isEmpty = false := hE
            clear hc HY HQ hE hres
            by_cases e : k = j
            · subst e
              skip
              go_wp2_with (at_lookup; refine wpList_look rfl _ _ 32 false rfl 9 3 Try.underlying32 Try.underlying9 _ zero3 I _ x _ rfl rfl SR.out.hI HI.out ?_)
              refine (linkRef_any r pre pass V n n I (lastI nm n) rf _ hrs hps SR.out.hV SR.out.hI HL.out).mono ?_
              rintro e w4 ⟨rfl, m1, rfl⟩
              rw [hl]
              go_wp2_with (at_lookup; refine wpList_look rfl _ _ 34 true rfl 9 9 Try.underlying34 Try.underlying9 _ zero9 Wb _ x _ rfl rfl (SR.out.hW.drewN m1) HW.out ?_)
              go_roundg (n - (k + 1))
              case measure => omega
              case rel => exact ⟨k + 1, by omega, by rw [HC.out], by go_num, hid (SR.out.drewN m1)⟩
            · have hjk : ¬ ((j : Int) = (k : Int)) := by omega
              skip
              go_wp2_with (at_lookup; refine wpList_look rfl _ _ 32 false rfl 9 3 Try.underlying32 Try.underlying9 _ zero3 I _ x _ rfl rfl SR.out.hI HI.out ?_)
              refine (linkRef_any r pre pass V n n I (lastI nm n) rf _ hrs hps SR.out.hV SR.out.hI HL.out).mono ?_
              rintro e w4 ⟨rfl, m1, rfl⟩
              rw [hl]
              go_wp2
              go_roundg (n - (k + 1))
              case measure => omega
              case rel => exact ⟨k + 1, by omega, by rw [HC.out], by go_num, hid (SR.out.drewN m1)⟩
          · rw [hres] at cA
            rw [hc] at HW HC
            simp only [and_true, if_true] at HW HC
            have hE' : r.toList.isEmpty = false := hE
            have hqs := HQ.out q hl
            clear hc HY HQ hE hres
            by_cases e : k = j
            · subst e
              rw [if_pos rfl] at HC
              go_wp2_with (at_lookup; refine wpList_look rfl _ _ 32 false rfl 9 3 Try.underlying32 Try.underlying9 _ zero3 I _ x _ rfl rfl SR.out.hI HI.out ?_)
              refine (linkRef_any r pre pass V n n I (lastI nm n) rf _ hrs hps SR.out.hV SR.out.hI HL.out).mono ?_
              rintro e w4 ⟨rfl, m1, rfl⟩
              rw [hl]
              go_wp2_with fail
              refine (linkRef_any q pre pass V n n I (lastI nm n) rf _ hqs hps (SR.out.hV.drewN m1) (SR.out.hI.drewN m1) HL.out).mono ?_
              rintro e w5 ⟨rfl, m2, rfl⟩
              rw [hq]
              go_wp2_with (at_lookup; refine wpList_look rfl _ _ 34 true rfl 9 9 Try.underlying34 Try.underlying9 _ zero9 Wb _ x _ rfl rfl (SR.out.hW.drewN m1 |>.drewN m2) HW.out ?_)
              go_roundg (n - (k + 1))
              case measure => omega
              case rel => exact ⟨k + 1, by omega, by rw [HC.out]; go_num, by go_num, hid (SR.out.drewN (m1 + m2))⟩
            · have hjk : ¬ ((j : Int) = (k : Int)) := by omega
              rw [if_neg e] at HC
              go_wp2_with (at_lookup; refine wpList_look rfl _ _ 32 false rfl 9 3 Try.underlying32 Try.underlying9 _ zero3 I _ x _ rfl rfl SR.out.hI HI.out ?_)
              refine (linkRef_any r pre pass V n n I (lastI nm n) rf _ hrs hps SR.out.hV SR.out.hI HL.out).mono ?_
              rintro e w4 ⟨rfl, m1, rfl⟩
              rw [hl]
              go_wp2_with fail
              refine (linkRef_any q pre pass V n n I (lastI nm n) rf _ hqs hps (SR.out.hV.drewN m1) (SR.out.hI.drewN m1) HL.out).mono ?_
              rintro e w5 ⟨rfl, m2, rfl⟩
              rw [hq]
              go_wp2
              go_roundg (n - (k + 1))
              case measure => omega
              case rel => exact ⟨k + 1, by omega, by rw [HC.out], by go_num, hid (SR.out.drewN (m1 + m2))⟩
          · rw [hc] at HW HC
            simp only [and_true, if_true] at HW HC
            obtain ⟨A, hA⟩ : ∃ A, A = res (EO n nm rf pre pass) r := ⟨_, rfl⟩
            rw [← hA] at cA hres
            clear hA
            have hE' : r.toList.isEmpty = false := hE
            have hqs := HQ.out q hl
            clear hc HY HQ hE
            by_cases e : k = j
            · subst e
              rw [if_pos rfl] at HC
              go_wp2_with (at_lookup; refine wpList_look rfl _ _ 32 false rfl 9 3 Try.underlying32 Try.underlying9 _ zero3 I _ x _ rfl rfl SR.out.hI HI.out ?_)
              refine (linkRef_any r pre pass V n n I (lastI nm n) rf _ hrs hps SR.out.hV SR.out.hI HL.out).mono ?_
              rintro e w4 ⟨rfl, m1, rfl⟩
              rw [hl]
              go_wp2_with fail
              refine (linkRef_any q pre pass V n n I (lastI nm n) rf _ hqs hps (SR.out.hV.drewN m1) (SR.out.hI.drewN m1) HL.out).mono ?_
              rintro e w5 ⟨rfl, m2, rfl⟩
              rw [hq]
              go_wp2_with (at_lookup; refine wpList_look rfl _ _ 34 true rfl 9 9 Try.underlying34 Try.underlying9 _ zero9 Wb _ x _ rfl rfl (SR.out.hW.drewN m1 |>.drewN m2) HW.out ?_)
              go_roundg (n - (k + 1))
              case measure => omega
              case rel => exact ⟨k + 1, by omega, by rw [HC.out]; go_num, by go_num, hid (SR.out.drewN (m1 + m2))⟩
            · have hjk : ¬ ((j : Int) = (k : Int)) := by omega
              rw [if_neg e] at HC
              go_wp2_with (at_lookup; refine wpList_look rfl _ _ 32 false rfl 9 3 Try.underlying32 Try.underlying9 _ zero3 I _ x _ rfl rfl SR.out.hI HI.out ?_)
              refine (linkRef_any r pre pass V n n I (lastI nm n) rf _ hrs hps SR.out.hV SR.out.hI HL.out).mono ?_
              rintro e w4 ⟨rfl, m1, rfl⟩
              rw [hl]
              go_wp2_with fail
              refine (linkRef_any q pre pass V n n I (lastI nm n) rf _ hqs hps (SR.out.hV.drewN m1) (SR.out.hI.drewN m1) HL.out).mono ?_
              rintro e w5 ⟨rfl, m2, rfl⟩
              rw [hq]
              go_wp2
              go_roundg (n - (k + 1))
              case measure => omega
              case rel => exact ⟨k + 1, by omega, by rw [HC.out], by go_num, hid (SR.out.drewN (m1 + m2))⟩
          · rw [hres] at cA
            rw [hc] at HW HC
            simp only [Bool.false_eq_true, and_false, if_false] at HW HC
            have hE' : r.toList.isEmpty = false := hE
            have hqs := HQ.out q hl
            clear hc HY HQ hE hres
            by_cases e : k = j
            · subst e
              skip
              go_wp2_with (at_lookup; refine wpList_look rfl _ _ 32 false rfl 9 3 Try.underlying32 Try.underlying9 _ zero3 I _ x _ rfl rfl SR.out.hI HI.out ?_)
              refine (linkRef_any r pre pass V n n I (lastI nm n) rf _ hrs hps SR.out.hV SR.out.hI HL.out).mono ?_
              rintro e w4 ⟨rfl, m1, rfl⟩
              rw [hl]
              go_wp2_with fail
              refine (linkRef_any q pre pass V n n I (lastI nm n) rf _ hqs hps (SR.out.hV.drewN m1) (SR.out.hI.drewN m1) HL.out).mono ?_
              rintro e w5 ⟨rfl, m2, rfl⟩
              rw [hq]
              go_wp2_with (at_lookup; refine wpList_look rfl _ _ 34 true rfl 9 9 Try.underlying34 Try.underlying9 _ zero9 Wb _ x _ rfl rfl (SR.out.hW.drewN m1 |>.drewN m2) HW.out ?_)
              go_roundg (n - (k + 1))
              case measure => omega
              case rel => exact ⟨k + 1, by omega, by rw [HC.out], by go_num, hid (SR.out.drewN (m1 + m2))⟩
            · have hjk : ¬ ((j : Int) = (k : Int)) := by omega
              skip
              go_wp2_with (at_lookup; refine wpList_look rfl _ _ 32 false rfl 9 3 Try.underlying32 Try.underlying9 _ zero3 I _ x _ rfl rfl SR.out.hI HI.out ?_)
              refine (linkRef_any r pre pass V n n I (lastI nm n) rf _ hrs hps SR.out.hV SR.out.hI HL.out).mono ?_
              rintro e w4 ⟨rfl, m1, rfl⟩
              rw [hl]
              go_wp2_with fail
              refine (linkRef_any q pre pass V n n I (lastI nm n) rf _ hqs hps (SR.out.hV.drewN m1) (SR.out.hI.drewN m1) HL.out).mono ?_
              rintro e w5 ⟨rfl, m2, rfl⟩
              rw [hq]
              go_wp2
              go_roundg (n - (k + 1))
              case measure => omega
              case rel => exact ⟨k + 1, by omega, by rw [HC.out], by go_num, hid (SR.out.drewN (m1 + m2))⟩
        · have hk' : k = n := by omega
          subst hk'
          have hlen := fun ty => SR.out.hW.len (fun es c h => written_size k nm rf pre pass h) ty
          have hcl := cnt_le (wrote k nm rf pre pass) k
          obtain ⟨z, hz⟩ : ∃ z, z = cnt (wrote k nm rf pre pass) k := ⟨_, rfl⟩
          rw [← hz] at hlen hcl ⊢
          clear hz
          go_wp2_with fail
          refine (zz16 N H k k k nm (aft k nm rf pre pass) pre pass wr (by omega) SR.out.hN SR.out.hH (short_aft pass HS.out)).mono ?_
          rintro e w6 ⟨H2, Wb2, rfl, _, _, sH, sW, b6⟩
          have hlen2 : ∀ ty, (Builtin.len_ #[34] ty #[.map (some Wb2)]).run Try.prog w6 = .ok (.int .i64 0) w6 := fun ty => sW.len (z := 0) (fun es c h => none_size h (newW_still k nm rf pre pass)) ty
          have FA : Hid (Strs w6 H k (aft k nm rf pre pass)) := hid (SR.out.hH.kept (Kept.of_below (ex := fun _ => False) b6) (fun h => h))
          have FB : Hid (Strs w6 H2 k (aft k nm rf pre pass)) := hid (World.rowIs.congr sH (fun i hi => by rw [aft_still k nm rf pre pass hi]))
          have FC : Hid (Below w0.heap.size w0 w6) := hid (((Kept.of_below (ex := fun _ => False) SR.out.bl).trans (Kept.of_below b6)).below (Nat.le_refl _) (fun _ h => h.elim))
          clear sH sW b6 SR hlen HS
          go_wp2
          clear hlen2
          go_loopg [24] k (fun g i wr => ∃ j m : Nat, j + g = k ∧ i = .int .i64 j ∧ wr = w6.drewN m)
          case atStart => exact ⟨0, 0, by omega, rfl, rfl⟩
          case round =>
            obtain ⟨j, m, hj, rfl, rfl⟩ := hrel
            by_cases hjl : j < k
            · have cA := FA.out.cell hjl
              have cB := FB.out.cell hjl
              obtain ⟨x, hx⟩ : ∃ x, x = aft k nm rf pre pass j := ⟨_, rfl⟩
              rw [← hx] at cA cB
              clear hx
              have hjn : (j : Int) < (k : Int) := by omega
              go_wp2
              go_quiet (fail)
              go_wp2
              go_roundg (k - (j + 1))
              case measure => omega
              case rel => exact ⟨j + 1, _, by omega, by go_num, rfl⟩
            · go_wp2
              go_ret
              exact ⟨rfl, ((Kept.of_below (ex := fun _ => False) FC.out).drewN m).below (Nat.le_refl _) (fun _ h => h.elim)⟩
end Go.Proofs.Qxb6609196a
