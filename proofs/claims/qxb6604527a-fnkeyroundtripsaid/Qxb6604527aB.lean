import Derived.Test.Qxb6604527aA
namespace Go.Proofs.Qxb6604527a
open Go.RowKit

/-- the scanner's two cells -/
def scF (D L p : Nat) (j : Nat) : Value := if j = 0 then .slice (some ⟨D, 0, none⟩) L L else .int .i64 p

def Scan (w0 wr : World) (S D L p : Nat) : Prop := wr.rowIs S 33 2 (scF D L p) ∧ Below S w0 wr

theorem Scan.c0 {w0 wr : World} {S D L p : Nat} (h : Scan w0 wr S D L p) : wr.cell? ⟨S, 0, none⟩ = some (.slice (some ⟨D, 0, none⟩) L L) := h.1.cell (by omega)
theorem Scan.c1 {w0 wr : World} {S D L p : Nat} (h : Scan w0 wr S D L p) : wr.cell? ⟨S, 1, none⟩ = some (.int .i64 p) := h.1.cell (by omega)
theorem Scan.f1 {w0 wr : World} {S D L p : Nat} (h : Scan w0 wr S D L p) : wr.frozen? ⟨S, 1, none⟩ = false := h.1.frozen 1
theorem Scan.drewN {w0 wr : World} {S D L p : Nat} (h : Scan w0 wr S D L p) (n : Nat) : Scan w0 (wr.drewN n) S D L p := ⟨h.1.of_block rfl, below_drewN h.2 n⟩
theorem Scan.set {w0 wr : World} {S D L p : Nat} (h : Scan w0 wr S D L p) (q : Nat) : Scan w0 (wr.setCell ⟨S, 1, none⟩ (.int .i64 q)) S D L q := by
  refine ⟨(h.1.set 1 (.int .i64 q)).congr fun j hj => ?_, h.2.setCell (Nat.le_refl _) _⟩
  unfold scF
  match j, hj with
  | 0, _ => rfl
  | 1, _ => rfl
theorem Scan.set' {w0 wr : World} {S D L p : Nat} (h : Scan w0 wr S D L p) (q : Nat) (v : Int) (hv : v = q) : Scan w0 (wr.setCell ⟨S, 1, none⟩ (.int .i64 v)) S D L q := hv ▸ h.set q

theorem sp_cases {n : Int} (h : spB n = true) : n = 32 ∨ n = 9 ∨ n = 10 ∨ n = 13 := by
  unfold spB at h; simp at h; omega
theorem sp_not {n : Int} (h : spB n = false) : (n == 32) = false ∧ (n == 9) = false ∧ (n == 10) = false ∧ (n == 13) = false := by
  unfold spB at h; simpa [and_assoc] using h

set_option maxRecDepth 5000 in
set_option maxHeartbeats 1000000 in
theorem skip_any (w0 w : World) (S D L : Nat) (X : List Int) (p q : Nat) (hDS : D < S) (hX : ∀ j, j < L → w0.cell? ⟨D, j, none⟩ = some (.int .u8 (X.getD j 0)))
    (hsc : Scan w0 w S D L p) (hpq : p ≤ q) (hq : q < L) (hL : L ≤ 2097152) (hsp : ∀ j, p ≤ j → j < q → spB (X.getD j 0) = true) (hns : spB (X.getD q 0) = false) :
    Calls Try.prog 15 #[.pointer (some ⟨S, 0, none⟩)] w fun e w' => e = .returned (.tuple #[]) ∧ Scan w0 w' S D L q := by
  have HA := hid (And.intro hX (And.intro hsp hns))
  have HSC := hid hsc
  clear hX hsp hns hsc
  go_enter Try.func15, Try.ntmps15
  go_wp2
  go_loopg [] (q - p) (fun k wr => ∃ r : Nat, p ≤ r ∧ r ≤ q ∧ k = q - r ∧ Hid (Scan w0 wr S D L r))
  case atStart => exact ⟨p, Nat.le_refl _, hpq, rfl, HSC⟩
  case round =>
    obtain ⟨r, hr1, hr2, rfl, HR⟩ := hrel
    have hd := (HR.out.2.cell (p := ⟨D, r, none⟩) hDS).trans (HA.out.1 r (by omega))
    have c0 := HR.out.c0
    have c1 := HR.out.c1
    have f1 := HR.out.f1
    have hrL : (r : Int) < (L : Int) := by omega
    obtain ⟨x, hx⟩ : ∃ x, x = X.getD r 0 := ⟨_, rfl⟩
    rw [← hx] at hd
    by_cases hlt : r < q
    · have hs := HA.out.2.1 r hr1 hlt
      rw [← hx] at hs
      have HX := hid hx
      clear hx
      rcases sp_cases hs with rfl | rfl | rfl | rfl
      all_goals
        clear hs HA HX HSC
        go_wp2
        go_quiet (fail)
        go_wp2
        go_quiet (fail)
        go_wp2
        go_roundg (q - (r + 1))
        case measure => omega
        case rel => exact ⟨r + 1, by omega, by omega, rfl, hid (((HR.out.drewN _).set' (r + 1) _ (by omega)))⟩
    · have hrq : r = q := by omega
      subst hrq
      have hs := HA.out.2.2
      rw [← hx] at hs
      obtain ⟨h1, h2, h3, h4⟩ := sp_not hs
      clear hx hs HA HSC
      go_wp2
      go_quiet (fail)
      go_wp2
      go_quiet (fail)
      go_wp2
      refine bodyPost_ret (results_none rfl _ _ _) rfl ?_
      exact ⟨rfl, HR.out.drewN _⟩

set_option maxRecDepth 5000 in
set_option maxHeartbeats 1000000 in
theorem consume_yes (w0 w : World) (S D L : Nat) (X : List Int) (p q : Nat) (hDS : D < S) (hX : ∀ j, j < L → w0.cell? ⟨D, j, none⟩ = some (.int .u8 (X.getD j 0)))
    (hsc : Scan w0 w S D L p) (hpq : p ≤ q) (hq : q < L) (hL : L ≤ 2097152) (hsp : ∀ j, p ≤ j → j < q → spB (X.getD j 0) = true) (hns : X.getD q 0 = 34) :
    Calls Try.prog 13 #[.pointer (some ⟨S, 0, none⟩), .int .u8 34] w fun e w' => e = .returned (.bool true) ∧ Scan w0 w' S D L (q + 1) := by
  have HC := hid (skip_any w0 w S D L X p q hDS hX hsc hpq hq hL hsp (by rw [hns]; rfl))
  have HA := hid (And.intro (hX q hq) hns)
  clear hX hsp hns hsc
  go_enter Try.func13, Try.ntmps13
  go_wp2_with fail
  refine HC.out.mono ?_
  clear HC
  rintro e w1 ⟨rfl, hs1⟩
  have hd := (hs1.2.cell (p := ⟨D, q, none⟩) hDS).trans HA.out.1
  rw [HA.out.2] at hd
  have c0 := hs1.c0
  have c1 := hs1.c1
  have f1 := hs1.f1
  have HR := hid hs1
  have hqL : (q : Int) < (L : Int) := by omega
  have hne : ((q : Int) == (L : Int)) = false := by rw [beq_eq_false_iff_ne]; omega
  clear hs1 HA
  go_wp2
  go_quiet (fail)
  go_wp2
  go_ret
  exact ⟨rfl, (HR.out.drewN _).set' (q + 1) _ (by omega)⟩
end Go.Proofs.Qxb6604527a
