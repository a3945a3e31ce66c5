import Derived.Test.Qxb6604527aB
namespace Go.Proofs.Qxb6604527a
open Go.RowKit

theorem idx_lemma (ys : List Int) : ∀ (ks : List Int), (∀ x ∈ ks, x ≠ 34 ∧ 0 ≤ x ∧ x < 256) → Lib.indexByte (Lib.bytesOf (ks ++ 34 :: ys)) 34 = ks.length
  | [], _ => rfl
  | k :: ks, h => by
    have ih := idx_lemma ys ks (fun x hx => h x (List.mem_cons_of_mem _ hx))
    obtain ⟨h1, h2, h3⟩ := h k List.mem_cons_self
    have e : Lib.bytesOf (k :: ks ++ 34 :: ys) = UInt8.ofNat k.toNat :: Lib.bytesOf (ks ++ 34 :: ys) := rfl
    rw [e, Lib.indexByte, ih]
    have hne : (UInt8.ofNat k.toNat == (34 : UInt8)) = false := by
      rw [beq_eq_false_iff_ne]
      intro hc
      have := congrArg UInt8.toNat hc
      rw [UInt8.toNat_ofNat'] at this
      have h34 : (34 : UInt8).toNat = 34 := rfl
      rw [h34] at this
      omega
    rw [hne]
    have h2 : ((ks.length : Int) == -1) = false := by rw [beq_eq_false_iff_ne]; omega
    simp [h2]

theorem ret_key {a : Option Addr} {n m c : Nat} {b : Value} (h : n = m) : Ending.returned (.tuple #[.slice a n c, b]) = .returned (.tuple #[.slice a m c, b]) := by rw [h]
theorem getD_drop (X : List Int) (o i : Nat) : (X.drop o).getD i 0 = X.getD (o + i) 0 := by
  simp [List.getD_eq_getElem?_getD, List.getElem?_drop]

theorem idx_call (w0 w : World) (S D L : Nat) (X ks rs : List Int) (q : Nat) (hDS : D < S) (hX : ∀ j, j < L → w0.cell? ⟨D, j, none⟩ = some (.int .u8 (X.getD j 0))) (hXl : X.length = L)
    (hb : Below S w0 w) (hdrop : X.drop (q + 1) = ks ++ 34 :: rs) (hks : ∀ x ∈ ks, x ≠ 34 ∧ 0 ≤ x ∧ x < 256) :
    Calls Try.prog 14 #[.slice (some ⟨D, q + 1, none⟩) (L - (q + 1)) (L - (q + 1)), .int .u8 34] w fun e w' => e = .returned (.int .i64 (ks.length : Nat)) ∧ w' = w := by
  refine (Try.bytes_IndexByte D (q + 1) (L - (q + 1)) (L - (q + 1)) (X.drop (q + 1)) 34 w (by simp [hXl]) ?_).mono ?_
  · intro i hi
    rw [getD_drop]
    exact (hb.cell (p := ⟨D, q + 1 + i, none⟩) hDS).trans (hX _ (by omega))
  · rintro e w' ⟨rfl, rfl⟩
    refine ⟨?_, rfl⟩
    rw [hdrop]
    exact congrArg (fun z => Ending.returned (.int .i64 z)) (idx_lemma rs ks hks)

set_option maxRecDepth 5000 in
set_option maxHeartbeats 1000000 in
theorem key_yes (w0 w : World) (S D L : Nat) (X ks rs : List Int) (p q m : Nat) (hDS : D < S) (hX : ∀ j, j < L → w0.cell? ⟨D, j, none⟩ = some (.int .u8 (X.getD j 0))) (hXl : X.length = L)
    (hsc : Scan w0 w S D L p) (hpq : p ≤ q) (hq : q + m + 1 < L) (hL : L ≤ 2097152) (hsp : ∀ j, p ≤ j → j < q → spB (X.getD j 0) = true) (hns : X.getD q 0 = 34)
    (hdrop : X.drop (q + 1) = ks ++ 34 :: rs) (hks : ∀ x ∈ ks, x ≠ 34 ∧ 0 ≤ x ∧ x < 256) (hm : ks.length = m) :
    Calls Try.prog 12 #[.pointer (some ⟨S, 0, none⟩)] w fun e w' => e = .returned (.tuple #[.slice (some ⟨D, q + 1, none⟩) m (L - (q + 1)), .bool true]) ∧ Scan w0 w' S D L (q + m + 2) := by
  have HC := hid (consume_yes w0 w S D L X p q hDS hX hsc hpq (by omega) hL hsp hns)
  have HI : Hid (∀ w, Below S w0 w → Calls Try.prog 14 #[.slice (some ⟨D, q + 1, none⟩) (L - (q + 1)) (L - (q + 1)), .int .u8 34] w fun e w' => e = .returned (.int .i64 (m : Nat)) ∧ w' = w) := by
    intro w hb
    rw [← hm]
    exact idx_call w0 w S D L X ks rs q hDS hX hXl hb hdrop hks
  clear hX hsp hns hsc hdrop hks hm hXl
  go_enter Try.func12, Try.ntmps12
  go_wp2_with fail
  refine HC.out.mono ?_
  clear HC
  rintro e w1 ⟨rfl, hs1⟩
  have c0 := hs1.c0
  have c1 := hs1.c1
  have f1 := hs1.f1
  have HR := hid hs1
  have hqL : (q : Int) + 1 < (L : Int) := by omega
  have hqm : (q : Int) + 1 + m < (L : Int) := by omega
  clear hs1
  go_wp2
  go_quiet ((go_at_call 14; exact Calls.quiet_of_same (HI.out _ (below_drewN HR.out.2 _))))
  go_wp2
  go_quiet (fail)
  go_wp2
  go_ret2
  exact ⟨ret_key (by omega), (HR.out.drewN _).set' (q + m + 2) _ (by omega)⟩

set_option maxRecDepth 5000 in
set_option maxHeartbeats 1000000 in
theorem zzkey_yes (w0 : World) (D L : Nat) (X ks rs : List Int) (p q m : Nat) (hDS : D < w0.heap.size) (hX : ∀ j, j < L → w0.cell? ⟨D, j, none⟩ = some (.int .u8 (X.getD j 0))) (hXl : X.length = L)
    (hpq : p ≤ q) (hq : q + m + 1 < L) (hL : L ≤ 2097152) (hsp : ∀ j, p ≤ j → j < q → spB (X.getD j 0) = true) (hns : X.getD q 0 = 34)
    (hdrop : X.drop (q + 1) = ks ++ 34 :: rs) (hks : ∀ x ∈ ks, x ≠ 34 ∧ 0 ≤ x ∧ x < 256) (hm : ks.length = m) :
    Calls Try.prog 7 #[.slice (some ⟨D, 0, none⟩) L L, .int .i64 p] w0 fun e w' => e = .returned (.tuple #[.slice (some ⟨D, q + 1, none⟩) m (L - (q + 1)), .bool true, .int .i64 (q + m + 2 : Nat)]) ∧ Below w0.heap.size w0 w' := by
  have HC : Hid (∀ w, Scan w0 w w0.heap.size D L p → Calls Try.prog 12 #[.pointer (some ⟨w0.heap.size, 0, none⟩)] w fun e w' => e = .returned (.tuple #[.slice (some ⟨D, q + 1, none⟩) m (L - (q + 1)), .bool true]) ∧ Scan w0 w' w0.heap.size D L (q + m + 2)) :=
    fun w hsc => key_yes w0 w w0.heap.size D L X ks rs p q m hDS hX hXl hsc hpq hq hL hsp hns hdrop hks hm
  clear hX hsp hns hdrop hks hm hXl
  go_enter Try.func7, Try.ntmps7
  go_wp2_with fail
  refine (HC.out _ ⟨?_, (Below.refl _ _).alloc (Nat.le_refl _) _⟩).mono ?_
  · exact World.rowIs_alloc w0 #[.slice (some ⟨D, 0, none⟩) L L, .int .i64 p] 33 (scF D L p) (fun j hj => by
      match j, hj with
      | 0, _ => rfl
      | 1, _ => rfl)
  clear HC
  rintro e w1 ⟨rfl, hs1⟩
  have c0 := hs1.c0
  have c1 := hs1.c1
  have HR := hid hs1
  clear hs1
  go_wp2
  go_quiet (fail)
  go_wp2
  go_ret3
  exact ⟨rfl, below_drewN HR.out.2 _⟩
end Go.Proofs.Qxb6604527a
