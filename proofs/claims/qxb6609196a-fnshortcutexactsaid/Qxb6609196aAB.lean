import Derived.Test.Qxb6609196aAA
namespace Go.Proofs.Qxb6609196a
open Go.RowKit

/-- the index of the name that a pointer names -/
def ixOf (L : ByteArray → Option Nat) (pre p : ByteArray) : Nat := match nameOf pre p with
  | some s => (L s).getD 0
  | none => 0
theorem linkOf_inv {L : ByteArray → Option Nat} {c : Nat → ByteArray} {pre : ByteArray} {pass : Bool} {p q : ByteArray} (h : linkOf L c pre pass p = some q) : ∃ s i, nameOf pre p = some s ∧ L s = some i ∧ q = c i ∧ isE (c i) = false := by
  unfold linkOf at h
  split at h
  · split at h
    · rename_i s hs
      split at h
      · rename_i i hi
        split at h
        · cases h
        · rename_i hE; cases h; exact ⟨s, i, hs, hi, rfl, by simpa using hE⟩
      · cases h
    · cases h
  · cases h
theorem few_of {L : ByteArray → Option Nat} {c : Nat → ByteArray} {pre : ByteArray} {pass : Bool} {n : Nat} (hlt : ∀ s i, L s = some i → i < n) (hinj : ∀ s s' i, L s = some i → L s' = some i → s = s') : Few (linkOf L c pre pass) n (ixOf L pre) := by
  constructor
  · intro p q h
    obtain ⟨s, i, h1, h2, _, _⟩ := linkOf_inv h
    unfold ixOf
    rw [h1]
    simp only [h2, Option.getD_some]
    exact hlt s i h2
  · intro p p' q q' h h' e
    obtain ⟨s, i, h1, h2, _, _⟩ := linkOf_inv h
    obtain ⟨s', i', h1', h2', _, _⟩ := linkOf_inv h'
    unfold ixOf at e
    rw [h1, h1'] at e
    simp only [h2, h2', Option.getD_some] at e
    subst e
    have := hinj s s' i h2 h2'
    subst this
    exact nameOf_inj h1 h1'
theorem lastI_inj (nm : Nat → ByteArray) (n : Nat) : ∀ s s' i, lastI nm n s = some i → lastI nm n s' = some i → s = s' := by
  intro s s' i h h'
  rw [← (lastI_lt nm h).2, (lastI_lt nm h').2]

theorem boxF_step (nm : Nat → ByteArray) (X k : Nat) (s : ByteArray) : upd (boxF (lastI nm k) X) (nm k) (.pointer (some ⟨X + k, 0, none⟩)) s = boxF (lastI nm (k + 1)) X s := by
  unfold upd boxF
  rw [lastI]
  by_cases h : s = nm k
  · rw [if_pos h, if_pos h]; rfl
  · rw [if_neg h, if_neg h]

/-- the end function of a program's refs -/
def EO (n : Nat) (nm rf : Nat → ByteArray) (pre : ByteArray) (pass : Bool) : ByteArray → ByteArray := EE (linkOf (lastI nm n) rf pre pass) n
/-- the ref of the i-th name behind the shortcut -/
def aft (n : Nat) (nm rf : Nat → ByteArray) (pre : ByteArray) (pass : Bool) (i : Nat) : ByteArray := res (EO n nm rf pre pass) (rf ((lastI nm n (nm i)).getD 0))

def ZPost (n : Nat) (nm rf : Nat → ByteArray) (pre : ByteArray) (pass : Bool) (w : World) (e : Ending) (w' : World) : Prop :=
  ∃ H Wb, e = .returned (.tuple #[.slice (some ⟨H, 0, none⟩) n n, .map (some Wb)]) ∧ w.heap.size ≤ H ∧ w.heap.size ≤ Wb ∧ Strs w' H n (aft n nm rf pre pass) ∧ SM w' Wb (newW (EO n nm rf pre pass) (lastI nm n) rf) ∧ Below w.heap.size w w'

/-- in the first loop -/
structure Z1 (nm rf : Nat → ByteArray) (pass : Bool) (w : World) (k : Nat) (wr : World) : Prop where
  q : wr.rowIs w.heap.size 4 1 (fun _ => .bool pass)
  m : SM wr (w.heap.size + 1) (boxF (lastI nm k) (w.heap.size + 1 + 1))
  b : ∀ i, i < k → wr.rowIs (w.heap.size + 1 + 1 + i) 9 1 (fun _ => .string (rf i))
  sz : wr.heap.size = w.heap.size + 1 + 1 + k
  bl : Below w.heap.size w wr

theorem rowOne (w : World) (v : Value) (t : TypeId) : (w.alloc (.cells #[v] t)).rowIs w.heap.size t 1 (fun _ => v) := World.rowIs_alloc w #[v] t (fun _ => v) (fun j hj => by
    match j, hj with
    | 0, _ => rfl)
theorem z1_start (nm rf : Nat → ByteArray) (pass : Bool) (w : World) : Z1 nm rf pass w 0 ((w.alloc (.cells #[.bool pass] 4)).alloc (.map #[] 0)) := by
  have s1 : (w.alloc (.cells #[.bool pass] 4)).heap.size = w.heap.size + 1 := by simp
  refine ⟨(rowOne w (.bool pass) 4).alloc _, ?_, fun i hi => by omega, by simp, ((Below.refl _ _).alloc (Nat.le_refl _) _).alloc (by omega) _⟩
  rw [← s1]; exact SM.made _
theorem Z1.next {nm rf : Nat → ByteArray} {pass : Bool} {w : World} {k : Nat} {wr w' : World} (h : Z1 nm rf pass w k wr) (hm : SM w' (w.heap.size + 1) (upd (boxF (lastI nm k) (w.heap.size + 1 + 1)) (nm k) (.pointer (some ⟨w.heap.size + 1 + 1 + k, 0, none⟩))))
    (hg : (wr.alloc (.cells #[.string (rf k)] 9)).grownBy w' (some (w.heap.size + 1))) (hs : w'.heap.size = (wr.alloc (.cells #[.string (rf k)] 9)).heap.size) : Z1 nm rf pass w (k + 1) w' := by
  have k2 : Kept (fun k => k = w.heap.size + 1) (wr.alloc (.cells #[.string (rf k)] 9)) w' := Kept.of_grown hg rfl
  have hz := h.sz
  refine ⟨row_kept (h.q.alloc _) k2 (by omega), hm.congr (boxF_step nm _ k), fun i hi => ?_, by rw [hs]; simp [hz]; omega, (h.bl.alloc (by omega) _).grown hg (by simp; omega) (fun j hj => by cases hj; omega)⟩
  by_cases e : i = k
  · subst e
    have := rowOne wr (.string (rf i)) 9
    rw [hz] at this
    exact row_kept this k2 (by omega)
  · exact row_kept ((h.b i (by omega)).alloc _) k2 (by omega)

set_option maxRecDepth 5000 in
set_option maxHeartbeats 4000000 in
theorem zz16 (N V n c1 c2 : Nat) (nm rf : Nat → ByteArray) (pre : ByteArray) (pass : Bool) (w : World) (hn : n ≤ 4096) (hN : Strs w N n nm) (hV : Strs w V n rf) (hs : Short n nm rf pre) :
    Calls Try.prog 16 #[.slice (some ⟨N, 0, none⟩) n c1, .slice (some ⟨V, 0, none⟩) n c2, .string pre, .bool pass] w (ZPost n nm rf pre pass w) := by
  have hmm := fun n w => makeMap_hint 42 9 43 Try.underlying42 n w
  have HN := hid hN
  have HV := hid hV
  have HS := hid hs
  clear hN hV hs
  go_enter Try.func16, Try.ntmps16
  go_wp2
  clear hmm
  go_loopg [11, 12] n (fun g i _ wr => ∃ k : Nat, k + g = n ∧ i = .int .i64 k ∧ Hid (Z1 nm rf pass w k wr))
  case atStart => exact ⟨0, by omega, rfl, hid (z1_start nm rf pass w)⟩
  case round =>
    obtain ⟨k, hk, rfl, HI⟩ := hrel
    by_cases hlt : k < n
    · have cN := (HI.out.bl.cell (p := ⟨N, k, none⟩) HN.out.lt).trans (HN.out.cell hlt)
      have cV := (HI.out.bl.cell (p := ⟨V, k, none⟩) HV.out.lt).trans (HV.out.cell hlt)
      have hNlt := HN.out.lt
      have hVlt := HV.out.lt
      have hwz := HI.out.sz
      have hkn : (k : Int) < (n : Int) := by omega
      obtain ⟨x, hx⟩ : ∃ x, x = nm k := ⟨_, rfl⟩
      obtain ⟨y, hy⟩ : ∃ y, y = rf k := ⟨_, rfl⟩
      rw [← hx] at cN
      rw [← hy] at cV
      have hNw : N < wr.heap.size := by omega
      have HX := hid (And.intro hx hy)
      have HZ := hid hwz
      clear hx hy hwz
      go_wp2_with (at_mapUpdate; refine wpList_upd rfl _ _ _ 42 rfl 9 43 Try.underlying42 Try.underlying9 (w.heap.size + 1) _ x (.pointer (some ⟨wr.heap.size, 0, none⟩)) rfl rfl rfl ((HI.out.m.kept ((Kept.refl (fun _ => False) _).alloc _) (fun h => h))) ?_; intro w1 hm1 hg1 hs1; replace hm1 := hid hm1; replace hg1 := hid hg1; replace hs1 := hid hs1)
      go_roundg (n - (k + 1))
      case measure => omega
      case rel =>
        refine ⟨k + 1, by omega, by go_num, hid (HI.out.next ?_ ?_ ?_)⟩
        · have := hm1.out
          rw [HX.out.1, HZ.out] at this
          exact this
        · have := hg1.out
          rw [HX.out.2] at this
          exact this
        · have := hs1.out
          rw [HX.out.2] at this
          exact this
    · have hk' : k = n := by omega
      subst hk'
      have SC := hid (short22 w.heap.size (w.heap.size + 1) (w.heap.size + 1 + 1) k (lastI nm k) rf pre pass (ixOf (lastI nm k) pre) wr hn HS.out.2 HI.out.q HI.out.m HI.out.b (fun s i h => (lastI_lt nm h).1) (fun i hi => (HS.out.1 i hi).2) (lastI_inj nm k) (few_of (fun s i h => (lastI_lt nm h).1) (lastI_inj nm k)) (by omega))
      have hNlt := HN.out.lt
      go_wp2_with fail
      refine SC.out.mono ?_
      rintro e w2 ⟨Wb, rfl, hWb, mW, bx, kp⟩
      have hwz := HI.out.sz
      have R2 := hid (HI.out.m.kept kp (by omega))
      have N2 : Hid (Strs w2 N k nm) := hid ((Strs.kept (w := wr) (HN.out.kept (Kept.of_below (ex := fun _ => False) HI.out.bl) (fun h => h)) kp (by omega)))
      have B2 : Hid (Below w.heap.size w w2) := hid (HI.out.bl.trans (kp.below (by omega) (fun k hk => by omega)))
      have W2 := hid (And.intro hWb mW)
      have X2 : Hid (∀ j, j < k → ∃ i, lastI nm k (nm j) = some i ∧ w2.rowIs (w.heap.size + 1 + 1 + i) 9 1 (fun _ => .string (aft k nm rf pre pass j))) := hid (fun j hj => by
        obtain ⟨i, hi, _⟩ := lastI_known nm hj
        refine ⟨i, hi, ?_⟩
        have := bx (nm j) i hi
        unfold aft
        rw [hi]
        exact this)
      have hmk := fun w => run_make_row' (P := Try.prog) 29 9 (.string ⟨#[]⟩) 16 Try.underlying29 Try.info9 rfl .i64 .i64 k (by omega) (by omega) w
      have hz2 : wr.heap.size ≤ w2.heap.size := kp.size
      have hzz : w.heap.size ≤ w2.heap.size := by omega
      have hW0 : w.heap.size ≤ Wb := by omega
      have W0 := hid hW0
      clear hWb mW bx kp SC hwz HI HV HS hW0
      go_wp2
      clear hmk
      go_loopg [15] k (fun g i wq => ∃ j : Nat, j + g = k ∧ i = .int .i64 j ∧ Hid (wq.rowIs w2.heap.size 9 k (fillF (aft k nm rf pre pass) j) ∧ Kept (fun _ => False) w2 wq))
      case atStart => exact ⟨0, by omega, rfl, hid ⟨fillF_start w2 k _, (Kept.refl _ _).alloc _⟩⟩
      case round =>
        obtain ⟨j, hj, rfl, HJ⟩ := hrel
        by_cases hjl : j < k
        · have cN := (N2.out.kept HJ.out.2 (fun h => h)).cell hjl
          obtain ⟨i, hi, hrow⟩ := X2.out j hjl
          have cB := (row_kept hrow HJ.out.2 (fun h => h)).cell (i := 0) (by omega)
          have HB : Hid (boxF (lastI nm k) (w.heap.size + 1 + 1) (nm j) = some (.pointer (some ⟨w.heap.size + 1 + 1 + i, 0, none⟩))) := by unfold boxF; rw [hi]; rfl
          obtain ⟨vc, hvc⟩ : ∃ v, wr.cell? ⟨w2.heap.size, j, none⟩ = some v := ⟨_, HJ.out.1.cell hjl⟩
          have hfz := HJ.out.1.frozen j
          have RQ := hid (R2.out.kept HJ.out.2 (fun h => h))
          have hjn : (j : Int) < (k : Int) := by omega
          obtain ⟨x, hx⟩ : ∃ x, x = nm j := ⟨_, rfl⟩
          obtain ⟨y, hy⟩ : ∃ y, y = aft k nm rf pre pass j := ⟨_, rfl⟩
          rw [← hx] at cN HB
          rw [← hy] at cB
          have HY := hid hy
          clear hx hy hi hrow
          go_wp2_with (at_lookup; refine wpList_look rfl _ _ 42 false rfl 9 43 Try.underlying42 Try.underlying9 (.pointer none) zero43 (w.heap.size + 1) _ x _ rfl rfl RQ.out HB.out ?_)
          go_roundg (k - (j + 1))
          case measure => omega
          case rel =>
            refine ⟨j + 1, by omega, by go_num, hid ⟨fillF_step _ j y HY.out HJ.out.1, ?_⟩⟩
            exact Kept.fresh ((HJ.out.2.mono (fun _ f => f.elim)).setCell (p := ⟨w2.heap.size, j, none⟩) (.inr (Nat.le_refl _)) _)
        · have hj' : j = k := by omega
          subst hj'
          go_wp2
          go_ret2
          exact ⟨w2.heap.size, Wb, rfl, hzz, W0.out, fillF_end HJ.out.1, W2.out.2.kept HJ.out.2 (fun h => h), B2.out.trans (HJ.out.2.below hzz (fun _ f => f.elim))⟩
end Go.Proofs.Qxb6609196a
