import Derived.Test.Qxb6604527aE
namespace Go.Proofs.Qxb6604527a
open Go.RowKit

theorem make_law (n0 n1 n2 n3 L : Nat) (hL : n0 + n1 + n2 + n3 + 2 = L) (hb : L ≤ 2097152) (w : World) :
    (Instr.makeSlice 22 (.int .i64 0) (.int .i64 ((n0 : Int) + (n1 : Int) + (n2 : Int) + (n3 : Int) + 2))).run Try.prog w = .ok (.slice (some ⟨w.heap.size, 0, none⟩) 0 L) (w.alloc (.cells (madeCells #[.int .u8 0] L) 5)) := by
  obtain ⟨i, hi, hz⟩ := Option.map_eq_some_iff.1 Try.info5
  simp only [Prod.mk.injEq] at hz
  obtain ⟨hz0, hz1, hz2⟩ := hz
  have hr := run_make (P := Try.prog) w 22 5 i (.int .u8 0) Try.underlying22 hi hz0 .i64 .i64 0 ((n0 : Int) + (n1 : Int) + (n2 : Int) + (n3 : Int) + 2) (by omega) (by omega) (by rw [hz2]; omega) (by omega)
  have e : ((n0 : Int) + (n1 : Int) + (n2 : Int) + (n3 : Int) + 2).toNat = L := by omega
  rw [e, hz1, Nat.mul_one] at hr
  exact hr

theorem getD_cat (xs ys : List Int) (j : Nat) : (xs ++ ys).getD (xs.length + j) 0 = ys.getD j 0 := by
  simp only [List.getD_eq_getElem?_getD]
  rw [List.getElem?_append_right (by omega), Nat.add_sub_cancel_left]
theorem getD_catl (xs ys : List Int) (j : Nat) (h : j < xs.length) : (xs ++ ys).getD j 0 = xs.getD j 0 := by
  simp [List.getD_eq_getElem?_getD, List.getElem?_append_left h]

theorem sl_new (w : World) : Sl (w.alloc (.cells #[.int .u8 34] 5)) (some ⟨w.heap.size, 0, none⟩) 1 [34] := by
  refine ⟨rfl, (fun h => nomatch h), fun _ => ⟨w.heap.size, 0, rfl, by simp, fun i hi => ?_⟩⟩
  have hi0 : i = 0 := by omega
  subst hi0
  exact (World.rowIs_alloc w #[.int .u8 34] 5 (fun _ => .int .u8 34) (fun j hj => by
    match j, hj with
    | 0, _ => rfl)).cell (i := 0) (by simp)

/-- what is laid -/
def lay (x0 x1 x2 x3 : List Int) : List Int := [] ++ x0 ++ x1 ++ [34] ++ x2 ++ [34] ++ x3
theorem lay_drop (x0 x1 x2 x3 : List Int) (n0 n1 : Nat) (h0 : x0.length = n0) (h1 : x1.length = n1) : (lay x0 x1 x2 x3).drop (n0 + n1 + 1) = x2 ++ 34 :: x3 := by
  have e : lay x0 x1 x2 x3 = (x0 ++ x1 ++ [34]) ++ (x2 ++ 34 :: x3) := by simp [lay]
  rw [e, List.drop_append_of_le_length (by simp; omega), List.drop_of_length_le (by simp; omega)]; rfl
theorem lay_quote (x0 x1 x2 x3 : List Int) (n0 n1 : Nat) (h0 : x0.length = n0) (h1 : x1.length = n1) : (lay x0 x1 x2 x3).getD (n0 + n1) 0 = 34 := by
  have e : lay x0 x1 x2 x3 = (x0 ++ x1) ++ (34 :: (x2 ++ 34 :: x3)) := by simp [lay]
  have e2 : n0 + n1 = (x0 ++ x1).length + 0 := by simp; omega
  rw [e, e2, getD_cat]; rfl
theorem lay_pad (x0 x1 x2 x3 : List Int) (n0 n1 j : Nat) (h0 : x0.length = n0) (h1 : x1.length = n1) (hj : j < n1) : (lay x0 x1 x2 x3).getD (n0 + j) 0 = x1.getD j 0 := by
  have e : lay x0 x1 x2 x3 = x0 ++ (x1 ++ (34 :: (x2 ++ 34 :: x3))) := by simp [lay]
  rw [e, ← h0, getD_cat, getD_catl _ _ _ (by omega)]
theorem lay_key (x0 x1 x2 x3 : List Int) (n0 n1 n2 j : Nat) (h0 : x0.length = n0) (h1 : x1.length = n1) (h2 : x2.length = n2) (hj : j < n2) : (lay x0 x1 x2 x3).getD (n0 + n1 + 1 + j) 0 = x2.getD j 0 := by
  rw [← getD_drop, lay_drop x0 x1 x2 x3 n0 n1 h0 h1, getD_catl _ _ _ (by omega)]
theorem lay_len (x0 x1 x2 x3 : List Int) : (lay x0 x1 x2 x3).length = x0.length + x1.length + x2.length + x3.length + 2 := by
  simp [lay]; omega

theorem keys_ok (x2 : List Int) (n2 : Nat) (hl : x2.length = n2) (hq : ∀ j, j < n2 → x2.getD j 0 ≠ 34) (hb : ∀ x ∈ x2, 0 ≤ x ∧ x < 256) : ∀ x ∈ x2, x ≠ 34 ∧ 0 ≤ x ∧ x < 256 := by
  intro x hx
  refine ⟨?_, hb x hx⟩
  obtain ⟨j, hj, rfl⟩ := List.mem_iff_getElem.1 hx
  have := hq j (by omega)
  rwa [List.getD_eq_getElem?_getD, List.getElem?_eq_getElem hj] at this

set_option maxRecDepth 5000 in
set_option maxHeartbeats 4000000 in
theorem walk_main (a0 a1 a2 a3 : Option Addr) (n0 c0 n1 c1 n2 c2 n3 c3 : Nat) (x0 x1 x2 x3 : List Int) (w : World) (s0 : Sl w a0 n0 x0) (s1 : Sl w a1 n1 x1) (s2 : Sl w a2 n2 x2) (s3 : Sl w a3 n3 x3)
    (hb2 : ∀ x ∈ x2, 0 ≤ x ∧ x < 256) (h0 : n0 ≤ 262144) (h1 : n1 ≤ 262144) (h2 : n2 ≤ 262144) (h3 : n3 ≤ 262144) :
    Calls Try.prog 4 #[.slice a0 n0 c0, .slice a1 n1 c1, .slice a2 n2 c2, .slice a3 n3 c3] w fun e w' => e = .returned (.bool true) ∧ Below w.heap.size w w' := by
  have d0 : decide ((262144 : Int) < (n0 : Int)) = false := by simp; omega
  have d1 : decide ((262144 : Int) < (n1 : Int)) = false := by simp; omega
  have d2 : decide ((262144 : Int) < (n2 : Int)) = false := by simp; omega
  have d3 : decide ((262144 : Int) < (n3 : Int)) = false := by simp; omega
  have S0 := hid s0
  have S1 := hid s1
  have S2 := hid s2
  have S3 := hid s3
  have HB := hid hb2
  clear s0 s1 s2 s3 hb2
  go_enter Try.func4, Try.ntmps4
  go_wp2_with fail
  refine (zb_any _ _ _ _ _ _ _ _ _ _ _ _ _).mono ?_
  rintro e w' ⟨b, rfl, hw'⟩
  obtain rfl := hw'.symm
  cases b
  · go_wp2
    go_ret
    exact ⟨rfl, Below.refl _ _⟩
  go_wp2
  go_loop [9] (fun i => ∃ k : Nat, k ≤ n1 ∧ i = .int .i64 k ∧ Hid (∀ j, j < k → spB (x1.getD j 0) = true)) (fun i => n1 - (intOf i).toNat)
  case atStart => exact ⟨0, Nat.zero_le _, rfl, hid (fun j hj => absurd hj (by omega))⟩
  case round =>
    obtain ⟨k, hk, rfl, HP⟩ := hrel
    by_cases hlt : k < n1
    · obtain ⟨b, off, rfl, hbl, hc⟩ := S1.out.2.2 (by omega)
      have hcl := hc k hlt
      obtain ⟨x, hx⟩ : ∃ x, x = x1.getD k 0 := ⟨_, rfl⟩
      rw [← hx] at hcl
      have HX := hid hx
      clear hc hx hbl S0 S1 S2 S3 HB d0 d1 d2 d3
      cases hsp : spB x with
      | false =>
        go_wp2_with (go_at_call 8; refine (isSp_any _ _).mono ?_; rintro e w1 ⟨rfl, rfl⟩)
        go_ret
        exact ⟨rfl, Below.refl _ _⟩
      | true =>
        go_wp2_with (go_at_call 8; refine (isSp_any _ _).mono ?_; rintro e w1 ⟨rfl, rfl⟩)
        go_round
        case rel =>
          refine ⟨k + 1, by omega, by go_num, hid (fun j hj => ?_)⟩
          by_cases e : j = k
          · subst e; rw [← HX.out]; exact hsp
          · exact HP.out j (by omega)
        case measure => simp [intOf]; omega
    · have hk1 : k = n1 := by omega
      have HP1 : Hid (∀ j, j < n1 → spB (x1.getD j 0) = true) := hid (hk1 ▸ HP.out)
      clear HP hk1
      go_wp2
      go_loop [10] (fun i => ∃ k : Nat, k ≤ n2 ∧ i = .int .i64 k ∧ Hid (∀ j, j < k → x2.getD j 0 ≠ 34)) (fun i => n2 - (intOf i).toNat)
      case atStart => exact ⟨0, Nat.zero_le _, rfl, hid (fun j hj => absurd hj (by omega))⟩
      case round =>
        obtain ⟨k2, hk2, rfl, HQ⟩ := hrel
        by_cases hlt2 : k2 < n2
        · obtain ⟨b, off, rfl, hbl, hc⟩ := S2.out.2.2 (by omega)
          have hcl := hc k2 hlt2
          obtain ⟨x, hx⟩ : ∃ x, x = x2.getD k2 0 := ⟨_, rfl⟩
          rw [← hx] at hcl
          have HX := hid hx
          clear hc hx hbl S0 S1 S2 S3 HB d0 d1 d2 d3
          cases hsp : x == (34 : Int) with
          | true =>
            go_wp2
            go_ret
            exact ⟨rfl, Below.refl _ _⟩
          | false =>
            go_wp2
            go_round
            case rel =>
              refine ⟨k2 + 1, by omega, by go_num, hid (fun j hj => ?_)⟩
              by_cases e : j = k2
              · subst e; rw [← HX.out]; exact beq_eq_false_iff_ne.1 hsp
              · exact HQ.out j (by omega)
            case measure => simp [intOf]; omega
        · have hk3 : k2 = n2 := by omega
          have HQ1 : Hid (∀ j, j < n2 → x2.getD j 0 ≠ 34) := hid (hk3 ▸ HQ.out)
          clear HQ hk3
          go_wp2_with fail
          refine (clone_any _ _ _ x0 _ S0.out (by omega)).mono ?_
          rintro e w1 ⟨a0', c0', rfl, t0, b1⟩
          have T0 := hid t0
          have T1 := hid (S1.out.below b1)
          have T2 := hid (S2.out.below b1)
          have T3 := hid (S3.out.below b1)
          have B1 := hid b1
          clear S0 S1 S2 S3 t0 b1 hlt hlt2
          go_wp2_with fail
          refine (clone_any _ _ _ x1 _ T1.out (by omega)).mono ?_
          rintro e w2 ⟨a1', c1', rfl, t1, b2⟩
          have U0 := hid (T0.out.below b2)
          have U1 := hid t1
          have U2 := hid (T2.out.below b2)
          have U3 := hid (T3.out.below b2)
          have B2 := hid (B1.out.trans (b2.mono B1.out.size))
          clear T0 T1 T2 T3 t1 b2 B1
          go_wp2_with fail
          refine (clone_any _ _ _ x2 _ U2.out (by omega)).mono ?_
          rintro e w3 ⟨a2', c2', rfl, t2, b3⟩
          have T0 := hid (U0.out.below b3)
          have T1 := hid (U1.out.below b3)
          have T2 := hid t2
          have T3 := hid (U3.out.below b3)
          have B3 := hid (B2.out.trans (b3.mono B2.out.size))
          clear U0 U1 U2 U3 t2 b3 B2
          go_wp2_with fail
          refine (clone_any _ _ _ x3 _ T3.out (by omega)).mono ?_
          rintro e w4 ⟨a3', c3', rfl, t3, b4⟩
          have U0 := hid (T0.out.below b4)
          have U1 := hid (T1.out.below b4)
          have U2 := hid (T2.out.below b4)
          have U3 := hid t3
          have B4 := hid (B3.out.trans (b4.mono B3.out.size))
          clear T0 T1 T2 T3 t3 b4 B3
          obtain ⟨L, hL⟩ : ∃ L, n0 + n1 + n2 + n3 + 2 = L := ⟨_, rfl⟩
          have hmk := fun w => make_law n0 n1 n2 n3 L hL (by omega) w
          have HL := hid hL
          clear hL
          have BA : Hid (Below w4.heap.size w4 (w4.alloc (.cells (madeCells #[.int .u8 0] L) 5))) := hid ((Below.refl _ _).alloc (Nat.le_refl _) _)
          have RA : Hid ((w4.alloc (.cells (madeCells #[.int .u8 0] L) 5)).rowIs w4.heap.size 5 L (rwF [])) := hid ((World.rowIs_made w4 (.int .u8 0) L 5).congr (fun j _ => by simp [rwF]))
          go_wp2_with (first
            | (at_builtin; refine wpList_app rfl (.tmp 83) (.tmp 84) rfl w4.heap.size L 0 n0 n0 [] x0 _ rfl rfl rfl RA.out (src_of (U0.out.below BA.out)) (by have := HL.out; omega) (by omega) ?_; intro w5 r5 l5 b5; have C5 := hid (And.intro r5 (And.intro l5 (BA.out.trans b5))); clear r5 l5 b5)
            | (at_builtin; refine wpList_app rfl (.tmp 86) (.tmp 87) rfl w4.heap.size L n0 n1 (n0 + n1) ([] ++ x0) x1 _ rfl rfl C5.out.2.1 C5.out.1 (src_of (U1.out.below C5.out.2.2)) (by have := HL.out; omega) (by omega) ?_; intro w6 r6 l6 b6; have C6 := hid (And.intro r6 (And.intro l6 (C5.out.2.2.trans b6))); clear r6 l6 b6)
            | (at_builtin; refine wpList_app rfl (.tmp 89) (.tmp 90) rfl w4.heap.size L (n0 + n1) 1 (n0 + n1 + 1) ([] ++ x0 ++ x1) [34] _ rfl rfl C6.out.2.1 (C6.out.1.alloc _) (src_of (sl_new w6)) (by have := HL.out; omega) (by omega) ?_; intro w7 r7 l7 b7; have C7 := hid (And.intro r7 (And.intro l7 ((C6.out.2.2.alloc (Nat.le_of_lt C6.out.1.lt) _).trans b7))); clear r7 l7 b7)
            | (at_builtin; refine wpList_app rfl (.tmp 92) (.tmp 93) rfl w4.heap.size L (n0 + n1 + 1) n2 (n0 + n1 + 1 + n2) ([] ++ x0 ++ x1 ++ [34]) x2 _ rfl rfl C7.out.2.1 C7.out.1 (src_of (U2.out.below C7.out.2.2)) (by have := HL.out; omega) (by omega) ?_; intro w8 r8 l8 b8; have C8 := hid (And.intro r8 (And.intro l8 (C7.out.2.2.trans b8))); clear r8 l8 b8)
            | (at_builtin; refine wpList_app rfl (.tmp 95) (.tmp 96) rfl w4.heap.size L (n0 + n1 + 1 + n2) 1 (n0 + n1 + 1 + n2 + 1) ([] ++ x0 ++ x1 ++ [34] ++ x2) [34] _ rfl rfl C8.out.2.1 (C8.out.1.alloc _) (src_of (sl_new w8)) (by have := HL.out; omega) (by omega) ?_; intro w9 r9 l9 b9; have C9 := hid (And.intro r9 (And.intro l9 ((C8.out.2.2.alloc (Nat.le_of_lt C8.out.1.lt) _).trans b9))); clear r9 l9 b9)
            | (at_builtin; refine wpList_app rfl (.tmp 98) (.tmp 99) rfl w4.heap.size L (n0 + n1 + 1 + n2 + 1) n3 L ([] ++ x0 ++ x1 ++ [34] ++ x2 ++ [34]) x3 _ rfl rfl C9.out.2.1 C9.out.1 (src_of (U3.out.below C9.out.2.2)) (by have := HL.out; omega) (by have := HL.out; omega) ?_; intro w10 r10 l10 b10; have C10 := hid (And.intro r10 (And.intro l10 (C9.out.2.2.trans b10))); clear r10 l10 b10))
          clear BA RA C5 C6 C7 C8 C9 hmk
          have l0 := U0.out.1
          have l1 := U1.out.1
          have l2 := U2.out.1
          have hLL := HL.out
          refine (zzkey_yes w10 w4.heap.size L (lay x0 x1 x2 x3) x2 x3 n0 (n0 + n1) n2 C10.out.1.lt (fun j hj => C10.out.1.cell hj) C10.out.2.1 (by omega) (by omega) (by omega)
            (fun j h1 h2 => by
              obtain ⟨d, rfl⟩ : ∃ d, j = n0 + d := ⟨j - n0, by omega⟩
              rw [lay_pad x0 x1 x2 x3 n0 n1 d l0 l1 (by omega)]
              exact HP1.out d (by omega))
            (lay_quote x0 x1 x2 x3 n0 n1 l0 l1) (lay_drop x0 x1 x2 x3 n0 n1 l0 l1) (keys_ok x2 n2 l2 HQ1.out HB.out) l2).mono ?_
          rintro e w11 ⟨rfl, b11⟩
          have K0 : Hid (Sl w11 (some ⟨w4.heap.size, n0 + n1 + 1, none⟩) n2 x2) := hid (Sl.below (w := w10) ⟨l2, (fun h => nomatch h), fun _ => ⟨_, _, rfl, C10.out.1.lt, fun i hi => by
            rw [← lay_key x0 x1 x2 x3 n0 n1 n2 i l0 l1 l2 hi]
            exact C10.out.1.cell (by omega)⟩⟩ b11)
          have B11 : Hid (Below w.heap.size w w11) := hid (B4.out.trans ((C10.out.2.2.trans (b11.mono (Nat.le_of_lt C10.out.1.lt))).mono B4.out.size))
          have K1 : Hid (Sl w11 a2' n2 x2) := hid ((U2.out.below C10.out.2.2).below b11)
          clear b11 C10 U0 U1 U2 U3 B4 HL HP1 HQ1 HB l0 l1 l2 hLL d0 d1 d2 d3
          go_wp2_with (go_at_call 10; refine (same_yes _ _ _ _ _ x2 _ K0.out K1.out (by omega)).mono ?_; rintro e w12 ⟨rfl, b12⟩)
          go_ret
          exact ⟨rfl, B11.out.trans (b12.mono B11.out.size)⟩
end Go.Proofs.Qxb6604527a
