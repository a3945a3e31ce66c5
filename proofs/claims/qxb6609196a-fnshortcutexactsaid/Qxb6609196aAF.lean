import Derived.Test.Qxb6609196aAE
import Derived.Deep.DeepMust
namespace Go.Proofs.Qxb6609196a
open Go.RowKit

set_option maxRecDepth 5000 in
set_option maxHeartbeats 4000000 in
theorem exact5 (a : Option Addr) (n c : Nat) (nm rf : Nat → ByteArray) (pre : ByteArray) (pass : Bool) (w : World) (h : IsRefs w a n nm rf) :
    Calls Try.prog 5 #[.slice a n c, .string pre, .bool pass] w (LawPost w) := by
  have HR := hid h
  clear h
  go_enter Try.func5, Try.ntmps5
  go_wp2_with fail
  refine (zb12 a n c nm rf pre pass _ HR.out).mono ?_
  rintro e w0 ⟨b, rfl, hb, rfl⟩
  cases b with
  | false =>
    clear hb
    go_wp2
    go_ret
    exact law_same
  | true =>
    have HS := hid (hb rfl)
    clear hb
    by_cases hn : 4096 < n
    · go_wp2
      go_ret
      exact law_same
    by_cases hp : 65536 < pre.size
    · go_wp2
      go_ret
      exact law_same
    go_wp2_with fail
    refine (fit_any a n c nm rf pre _ HR.out HS.out (by omega)).mono ?_
    rintro e wd ⟨b, m, rfl, hwd⟩
    cases b with
    | false =>
      subst hwd
      go_wp2
      go_ret
      exact law_drew
    | true =>
      have B0 : Hid (Below w0.heap.size w0 wd) := by subst hwd; exact hid law_drew.2
      have HRd : Hid (IsRefs wd a n nm rf) := by subst hwd; exact HR
      clear hwd HR
      go_wp2_with fail
      refine (split_any a n c nm rf wd HRd.out (by omega)).mono ?_
      rintro e w1 ⟨rfl, sN, sV, b1⟩
      obtain ⟨N, hN⟩ : ∃ N, N = wd.heap.size := ⟨_, rfl⟩
      obtain ⟨V, hV⟩ : ∃ V, V = wd.heap.size + 1 := ⟨_, rfl⟩
      rw [← hV] at sV ⊢
      rw [← hN] at sN ⊢
      have S1 := hid (And.intro sN (And.intro sV b1))
      clear sN sV b1 hN hV HRd
      go_wp2_with fail
      refine (lastIndex_any N n n nm w1 S1.out.1 (by omega)).mono ?_
      rintro e w2 ⟨rfl, sI, b2⟩
      obtain ⟨I, hI⟩ : ∃ I, I = w1.heap.size := ⟨_, rfl⟩
      rw [← hI] at sI ⊢
      have S2 := hid (And.intro sI b2)
      clear sI b2 hI
      go_wp2_with fail
      refine (zz16 N V n n n nm rf pre pass w2 (by omega) (S1.out.1.kept (Kept.of_below (ex := fun _ => False) S2.out.2) (fun h => h)) (S1.out.2.1.kept (Kept.of_below (ex := fun _ => False) S2.out.2) (fun h => h)) HS.out).mono ?_
      rintro e w3 ⟨H, Wb, rfl, _, _, sH, sW, b3⟩
      have ST : Hid (Sta n nm rf pre pass N V I H Wb w0 w3) := hid (st_of B0.out S1.out.1 S1.out.2.1 S1.out.2.2 S2.out.1 S2.out.2 sH sW b3)
      clear sH sW b3 S1 S2 B0
      have hmk := fun w => run_make_row' (P := Try.prog) 29 9 (.string ⟨#[]⟩) 16 Try.underlying29 Try.info9 rfl .i64 .i64 n (by omega) (by omega) w
      go_wp2
      clear hmk
      go_loopg [13] n (fun g i wr => ∃ k : Nat, k + g = n ∧ i = .int .i64 k ∧ Hid (Kept (fun _ => False) w3 wr ∧ wr.rowIs w3.heap.size 9 n (fillF (want n nm rf pre pass) k)))
      case atStart => exact ⟨0, by omega, rfl, hid ⟨(Kept.refl _ _).alloc _, fillF_start w3 n _⟩⟩
      case round =>
        obtain ⟨k, hk, rfl, HJ⟩ := hrel
        by_cases hlt : k < n
        · obtain ⟨j, hj, hkj⟩ := lastI_known nm hlt
          have hjn := (lastI_lt nm hj).1
          have K1 := hid (Kept.fresh (ex := fun _ => False) ((HJ.out.1.mono (fun _ f => f.elim)).setCell (p := ⟨w3.heap.size, k, none⟩) (.inr (Nat.le_refl _)) (.string (rf k))))
          have S1 := hid (ST.out.kept K1.out)
          have R1 := hid (HJ.out.2.set k (.string (rf k)))
          have cV := (ST.out.kept HJ.out.1).hV.cell hlt
          have cN1 := S1.out.hN.cell hlt
          have cV1 := S1.out.hV.cell hlt
          obtain ⟨v0, d0⟩ : ∃ v, wr.cell? ⟨w3.heap.size, k, none⟩ = some v := ⟨_, HJ.out.2.cell hlt⟩
          have f0 := HJ.out.2.frozen k
          have d1 : (wr.setCell ⟨w3.heap.size, k, none⟩ (.string (rf k))).cell? ⟨w3.heap.size, k, none⟩ = some (.string (rf k)) := by
            have := R1.out.cell hlt
            rw [if_pos rfl] at this
            exact this
          have f1 := R1.out.frozen k
          have HI : Hid (idxF (lastI nm n) (nm k) = some (.int .i64 (j : Nat))) := by unfold idxF; rw [hj]; rfl
          have HL := hid (lastI_hl nm n)
          have hps : pre.size ≤ 1048576 := HS.out.2
          have hrs : (rf k).size ≤ 1048576 := (HS.out.1 k hlt).2
          have HF : Hid (∀ p q, linkOf (lastI nm n) rf pre pass p = some q → q.size ≤ 1048576) := hid (fun p q h => link_size HS.out h)
          have hkn : (k : Int) < (n : Int) := by omega
          by_cases e : k = j
          · subst e
            have HWa := hid (want_at (rf := rf) (pre := pre) (pass := pass) hj)
            obtain ⟨r, hr⟩ : ∃ r, r = rf k := ⟨_, rfl⟩
            obtain ⟨x, hx⟩ : ∃ x, x = nm k := ⟨_, rfl⟩
            rw [← hr] at K1 S1 R1 cV cN1 cV1 d1 f1 hrs HWa
            rw [← hx] at cN1 HI
            clear hr hx hj hkj
            cases hE : isE r with
            | true =>
              have hE' : r.toList.isEmpty = true := hE
              have HR := hid (HWa.out.trans (res_not (chg_not (.inl (isE_iff.1 hE)))))
              clear hE
              go_wp2_with (at_lookup; refine wpList_look rfl _ _ 32 false rfl 9 3 Try.underlying32 Try.underlying9 _ zero3 I _ x _ rfl rfl (S1.out.hI) HI.out ?_)
              go_roundg (n - (k + 1))
              case measure => omega
              case rel => exact ⟨k + 1, by omega, by go_num, hid ⟨K1.out, fillF_step _ k r HR.out.symm HJ.out.2⟩⟩
            | false =>
              have hE' : r.toList.isEmpty = false := hE
              have HE := hid hE
              clear hE
              go_wp2_with (at_lookup; refine wpList_look rfl _ _ 32 false rfl 9 3 Try.underlying32 Try.underlying9 _ zero3 I _ x _ rfl rfl (S1.out.hI) HI.out ?_)
              refine (chain17 r pre pass V n n I (lastI nm n) rf _ hrs hps (by omega) S1.out.hV S1.out.hI HL.out HF.out).mono ?_
              rintro e w4 ⟨rfl, m1, rfl⟩
              obtain ⟨y, hy⟩ : ∃ y, y = EE (linkOf (lastI nm n) rf pre pass) n r := ⟨_, rfl⟩
              rw [← hy]
              have HY : Hid (y = EO n nm rf pre pass r) := hid hy
              clear hy
              cases hyE : isE y with
              | true =>
                have hyE' : y.toList.isEmpty = true := hyE
                have HR := hid (HWa.out.trans (res_not (chg_not (.inr (.inl (HY.out.symm.trans (isE_iff.1 hyE)))))))
                clear hyE
                go_wp2
                go_roundg (n - (k + 1))
                case measure => omega
                case rel => exact ⟨k + 1, by omega, by go_num, hid ⟨K1.out.drewN m1, fillF_step _ k r HR.out.symm HJ.out.2⟩⟩
              | false =>
                have hyE' : y.toList.isEmpty = false := hyE
                cases hyr : (y.toList == r.toList) with
                | true =>
                  have HR := hid (HWa.out.trans (res_not (chg_not (.inr (.inr (HY.out.symm.trans (beq_iff.1 hyr)))))))
                  clear hyE
                  go_wp2
                  go_roundg (n - (k + 1))
                  case measure => omega
                  case rel => exact ⟨k + 1, by omega, by go_num, hid ⟨K1.out.drewN m1, fillF_step _ k r HR.out.symm HJ.out.2⟩⟩
                | false =>
                  have HR : Hid (y = want n nm rf pre pass k) := by
                    have hc : chg (EO n nm rf pre pass) r = true := by
                      unfold chg
                      rw [← HY.out, HE.out, hyE, hyr]; rfl
                    rw [HWa.out, res_of hc]
                    exact HY
                  clear hyE
                  go_wp2
                  go_roundg (n - (k + 1))
                  case measure => omega
                  case rel => exact ⟨k + 1, by omega, by go_num, hid ⟨Kept.fresh (ex := fun _ => False) (((K1.out.drewN m1).mono (fun _ f => f.elim)).setCell (p := ⟨w3.heap.size, k, none⟩) (.inr (Nat.le_refl _)) _), fillF_again (wr := (wr.setCell ⟨w3.heap.size, k, none⟩ (.string r)).drewN m1) _ k (.string r) y HR.out R1.out⟩⟩
          · have hjk : ¬ ((j : Int) = (k : Int)) := by omega
            have HR := hid (want_ne (rf := rf) (pre := pre) (pass := pass) hj e)
            obtain ⟨r, hr⟩ : ∃ r, r = rf k := ⟨_, rfl⟩
            obtain ⟨x, hx⟩ : ∃ x, x = nm k := ⟨_, rfl⟩
            rw [← hr] at K1 S1 R1 cV cN1 cV1 d1 f1 hrs HR
            rw [← hx] at cN1 HI
            clear hr hx hj hkj
            go_wp2_with (at_lookup; refine wpList_look rfl _ _ 32 false rfl 9 3 Try.underlying32 Try.underlying9 _ zero3 I _ x _ rfl rfl (S1.out.hI) HI.out ?_)
            go_roundg (n - (k + 1))
            case measure => omega
            case rel => exact ⟨k + 1, by omega, by go_num, hid ⟨K1.out, fillF_step _ k r HR.out.symm HJ.out.2⟩⟩
        · have hk' : k = n := by omega
          subst hk'
          have S4 := hid (ST.out.kept HJ.out.1)
          have R4 : Hid (Strs wr w3.heap.size k (want k nm rf pre pass)) := hid (fillF_end HJ.out.2)
          obtain ⟨w4, hw4⟩ : ∃ w4, w4 = wr := ⟨_, rfl⟩
          obtain ⟨U, hU⟩ : ∃ U, U = w3.heap.size := ⟨_, rfl⟩
          rw [← hU] at R4 ⊢
          rw [← hw4] at R4 S4 ⊢
          clear HJ ST hw4 hU
          go_wp2
          go_loopg [15, 16] k (fun g z i wr => ∃ j m : Nat, j + g = k ∧ z = .int .i64 (cnt (wrote k nm rf pre pass) j) ∧ i = .int .i64 j ∧ wr = w4.drewN m)
          case atStart => exact ⟨0, 0, by omega, rfl, rfl, rfl⟩
          case round =>
            obtain ⟨i, m, hi, rfl, rfl, rfl⟩ := hrel
            by_cases hil : i < k
            · obtain ⟨j, hj, hij⟩ := lastI_known nm hil
              have hjn := (lastI_lt nm hj).1
              have cN := S4.out.hN.cell hil
              have cA := S4.out.hH.cell hil
              have cW := R4.out.cell hjn
              have cV := S4.out.hV.cell hil
              have hA : aft k nm rf pre pass i = res (EO k nm rf pre pass) (rf j) := by unfold aft; rw [hj]; rfl
              rw [hA] at cA
              rw [want_at (lastI_self hj)] at cW
              have HW : Hid (newW (EO k nm rf pre pass) (lastI nm k) rf (nm i) = if chg (EO k nm rf pre pass) (rf j) then some (.string (rf j)) else none) := by unfold newW; rw [hj]; exact rfl
              have HI : Hid (idxF (lastI nm k) (nm i) = some (.int .i64 (j : Nat))) := by unfold idxF; rw [hj]; rfl
              have hcl := cnt_le (wrote k nm rf pre pass) i
              obtain ⟨z, hz⟩ : ∃ z, z = cnt (wrote k nm rf pre pass) i := ⟨_, rfl⟩
              rw [← hz] at hcl ⊢
              have hin : (i : Int) < (k : Int) := by omega
              have hjn' : (j : Int) < (k : Int) := by omega
              by_cases e : i = j
              · subst e
                cases hc : chg (EO k nm rf pre pass) (rf i) with
                | true =>
                  have HC : Hid (cnt (wrote k nm rf pre pass) (i + 1) = z + 1) := by rw [hz]; exact hid (cnt_yes ((wrote_at hj).trans hc))
                  have hne : ((res (EO k nm rf pre pass) (rf i)).toList == (rf i).toList) = false := by rw [res_of hc]; exact beq_not (chg_iff.1 hc).2.2
                  rw [hc, if_pos rfl] at HW
                  obtain ⟨y, hy⟩ : ∃ y, y = res (EO k nm rf pre pass) (rf i) := ⟨_, rfl⟩
                  obtain ⟨r, hr⟩ : ∃ r, r = rf i := ⟨_, rfl⟩
                  obtain ⟨x, hx⟩ : ∃ x, x = nm i := ⟨_, rfl⟩
                  rw [← hy] at cA cW hne
                  rw [← hr] at cV HW hne
                  rw [← hx] at cN HW HI
                  clear hy hr hx hz hj hij hA hc
                  go_wp2_with (at_lookup; refine wpList_look rfl _ _ 32 false rfl 9 3 Try.underlying32 Try.underlying9 _ zero3 I _ x _ rfl rfl (S4.out.hI.drewN _) HI.out ?_)
                  go_quiet (fail)
                  go_wp2_with (at_lookup; refine wpList_look rfl _ _ 34 true rfl 9 9 Try.underlying34 Try.underlying9 _ zero9 Wb _ x _ rfl rfl (S4.out.hW.drewN _) HW.out ?_)
                  go_quiet (fail)
                  go_wp2
                  go_roundg (k - (i + 1))
                  case measure => omega
                  case rel => exact ⟨i + 1, _, by omega, by rw [HC.out]; go_num, by go_num, rfl⟩
                | false =>
                  have HC : Hid (cnt (wrote k nm rf pre pass) (i + 1) = z) := by rw [hz]; exact hid (cnt_no ((wrote_at hj).trans hc))
                  rw [res_not hc] at cA cW
                  rw [hc] at HW
                  simp only [Bool.false_eq_true, if_false] at HW
                  obtain ⟨r, hr⟩ : ∃ r, r = rf i := ⟨_, rfl⟩
                  obtain ⟨x, hx⟩ : ∃ x, x = nm i := ⟨_, rfl⟩
                  rw [← hr] at cV cA cW
                  rw [← hx] at cN HW HI
                  clear hr hx hz hj hij hA hc
                  go_wp2_with (at_lookup; refine wpList_look rfl _ _ 32 false rfl 9 3 Try.underlying32 Try.underlying9 _ zero3 I _ x _ rfl rfl (S4.out.hI.drewN _) HI.out ?_)
                  go_quiet (fail)
                  go_wp2_with (at_lookup; refine wpList_look rfl _ _ 34 true rfl 9 9 Try.underlying34 Try.underlying9 _ zero9 Wb _ x _ rfl rfl (S4.out.hW.drewN _) HW.out ?_)
                  go_quiet (fail)
                  go_wp2
                  go_roundg (k - (i + 1))
                  case measure => omega
                  case rel => exact ⟨i + 1, _, by omega, by rw [HC.out], by go_num, rfl⟩
              · have hjk : ¬ ((j : Int) = (i : Int)) := by omega
                have HC : Hid (cnt (wrote k nm rf pre pass) (i + 1) = z) := by rw [hz]; exact hid (cnt_no (wrote_ne hj e))
                obtain ⟨y, hy⟩ : ∃ y, y = res (EO k nm rf pre pass) (rf j) := ⟨_, rfl⟩
                obtain ⟨x, hx⟩ : ∃ x, x = nm i := ⟨_, rfl⟩
                rw [← hy] at cA cW
                rw [← hx] at cN HI
                clear hy hx hz hj hij hA HW cV
                go_wp2_with (at_lookup; refine wpList_look rfl _ _ 32 false rfl 9 3 Try.underlying32 Try.underlying9 _ zero3 I _ x _ rfl rfl (S4.out.hI.drewN _) HI.out ?_)
                go_quiet (fail)
                go_wp2
                go_roundg (k - (i + 1))
                case measure => omega
                case rel => exact ⟨i + 1, _, by omega, by rw [HC.out], by go_num, rfl⟩
            · have hi' : i = k := by omega
              subst hi'
              have hlen := fun m ty => (S4.out.hW.drewN m).len (fun es c h => written_size i nm rf pre pass h) ty
              have hcl := cnt_le (wrote i nm rf pre pass) i
              obtain ⟨z, hz⟩ : ∃ z, z = cnt (wrote i nm rf pre pass) i := ⟨_, rfl⟩
              rw [← hz] at hcl ⊢
              simp only [← hz] at hlen
              clear hz
              go_wp2
              go_ret
              exact ⟨rfl, (S4.out.drewN m).bl⟩
end Go.Proofs.Qxb6609196a
