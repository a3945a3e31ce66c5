import Derived.Test.Qxb6609196aB
namespace Go.Proofs.Qxb6609196a
open Go.RowKit

/-- does the name hold one of the three signs? -/
def badB (l : List UInt8) : Bool := Lib.containsAny l [47, 126, 37]
theorem bad_none {l : List UInt8} (h : Lib.NoAny l [47, 126, 37] l.length) : badB l = false := by
  unfold badB Lib.containsAny; rw [Lib.indexAny_none h]; rfl
theorem bad_hit {l : List UInt8} {i : Nat} {x : UInt8} (h : Lib.NoAny l [47, 126, 37] i) (hx : l[i]? = some x) (hc : ([47, 126, 37] : List UInt8).contains x = true) : badB l = true := by
  unfold badB Lib.containsAny; rw [Lib.indexAny_hit h hx hc]; exact decide_eq_true (by omega)
theorem bad_mem : ∀ {l : List UInt8} {x : UInt8}, x ∈ l → ([47, 126, 37] : List UInt8).contains x = true → badB l = true := by
  have key : ∀ (l : List UInt8) (x : UInt8), x ∈ l → ([47, 126, 37] : List UInt8).contains x = true → 0 ≤ Lib.indexAny l [47, 126, 37] := by
    intro l x
    induction l with
    | nil => intro h; cases h
    | cons b l ih =>
      intro h hc
      unfold Lib.indexAny
      split
      · exact Int.le_refl _
      · rename_i hb
        rcases List.mem_cons.1 h with rfl | h'
        · exact absurd hc hb
        · have h1 := ih h' hc
          split
          · rename_i h2; rw [beq_iff_eq] at h2; omega
          · omega
  intro l x h hc
  exact decide_eq_true (key l x h hc)

theorem u8_eq (c : UInt8) (n : Nat) (hn : n < 256) : ((c.toNat : Int) == (n : Int)) = (c == UInt8.ofNat n) := by
  rw [Bool.eq_iff_iff, beq_iff_eq, beq_iff_eq]
  constructor
  · intro h
    apply UInt8.toNat_inj.1
    rw [UInt8.toNat_ofNat']
    omega
  · intro h
    rw [h, UInt8.toNat_ofNat']
    omega

set_option maxHeartbeats 400000 in
theorem clean_any (s : ByteArray) (w : World) (hs : s.size ≤ 4194304) :
    Calls Try.prog 11 #[.string s] w fun e w' => e = .returned (.bool (!badB s.data.toList)) ∧ w' = w := by
  go_enter Try.func11, Try.ntmps11
  go_wp2
  go_loop [3, 4] (fun i _ => ∃ k : Nat, k ≤ s.size ∧ i = .int .i64 k ∧ Hid (Lib.NoAny s.data.toList [47, 126, 37] k)) (fun i _ => s.size - (intOf i).toNat)
  case atStart => exact ⟨0, Nat.zero_le _, rfl, hid (Lib.NoAny.zero _ _)⟩
  case round =>
    obtain ⟨k, hk, rfl, HN⟩ := hrel
    by_cases hlt : k < s.size
    · obtain ⟨x, hx⟩ : ∃ x : UInt8, s[k]'hlt = x := ⟨_, rfl⟩
      have Hx : Hid (s.data.toList[k]? = some x) := by rw [← hx]; exact Lib.data_getElem? s k hlt
      have e1 := u8_eq x 47 (by omega)
      have e2 := u8_eq x 126 (by omega)
      have e3 := u8_eq x 37 (by omega)
      have hcon : ([47, 126, 37] : List UInt8).contains x = (((x.toNat : Int) == (47 : Nat)) || (((x.toNat : Int) == (126 : Nat)) || ((x.toNat : Int) == (37 : Nat)))) := by
        rw [e1, e2, e3, Bool.eq_iff_iff]; simp
      have HC := hid hcon
      clear e1 e2 e3 hcon
      cases h1 : (x.toNat : Int) == 47 with
      | true =>
        have hc : ([47, 126, 37] : List UInt8).contains x = true := by rw [HC.out]; simp [h1]
        have HB := hid (bad_hit HN.out Hx.out hc)
        clear hc HC
        go_wp2
        go_ret
        exact ⟨ret_bool (by rw [HB.out]; rfl), rfl⟩
      | false =>
        cases h2 : (x.toNat : Int) == 126 with
        | true =>
          have hc : ([47, 126, 37] : List UInt8).contains x = true := by rw [HC.out]; simp [h2]
          have HB := hid (bad_hit HN.out Hx.out hc)
          clear hc HC
          go_wp2
          go_ret
          exact ⟨ret_bool (by rw [HB.out]; rfl), rfl⟩
        | false =>
          cases h3 : (x.toNat : Int) == 37 with
          | true =>
            have hc : ([47, 126, 37] : List UInt8).contains x = true := by rw [HC.out]; simp [h3]
            have HB := hid (bad_hit HN.out Hx.out hc)
            clear hc HC
            go_wp2
            go_ret
            exact ⟨ret_bool (by rw [HB.out]; rfl), rfl⟩
          | false =>
            have hc : ([47, 126, 37] : List UInt8).contains x = false := by rw [HC.out]; simp [h1, h2, h3]
            have HB := hid (HN.out.succ Hx.out hc)
            clear hc HC
            go_wp2
            go_round
            case rel => exact ⟨k + 1, by omega, by go_num, HB⟩
            case measure => simp [intOf]; omega
    · go_wp2
      go_ret
      have hk' : k = s.size := by omega
      refine ⟨ret_bool ?_, rfl⟩
      rw [bad_none (by rw [← Lib.size_eq, ← hk']; exact HN.out)]; rfl

theorem ba_ext {a b : ByteArray} (h : a.data.toList = b.data.toList) : a = b := by
  cases a; cases b; congr 1; exact Array.toList_inj.1 h

/-- schemaName: the pointer is the prefix and a name -/
theorem schemaName_yes (s p n : ByteArray) (w : World) (h : s.data.toList = p.data.toList ++ n.data.toList) (hs : n.size ≤ 4194304) :
    Calls Try.prog 21 #[.string s, .string p] w fun e w' => e = .returned (.tuple #[.string n, .bool (!badB n.data.toList)]) ∧ Below w.heap.size w w' := by
  have hp : Lib.hasPrefix s.data.toList p.data.toList = true := by unfold Lib.hasPrefix; rw [h]; simp
  have ht : (⟨(Lib.trimPrefix s.data.toList p.data.toList).toArray⟩ : ByteArray) = n := by
    apply ba_ext
    unfold Lib.trimPrefix
    rw [hp, if_pos rfl, h]; simp
  go_enter Try.func21, Try.ntmps21
  go_wp2_with (first | (go_at_call 26; refine (Try.strings_CutPrefix _ _ _).mono ?_; rintro e w' ⟨rfl, hw⟩; obtain rfl := hw.symm; rw [hp, ht]; clear hp ht h) | (go_at_call 27; refine (containsAny_any _ _ hs).mono ?_; rintro e w1 ⟨rfl, hb1⟩; have HB1 := hid hb1; clear hb1))
  go_ret2
  exact ⟨rfl, HB1.out⟩
/-- .. the prefix is none -/
theorem schemaName_no (s p : ByteArray) (w : World) (hp : Lib.hasPrefix s.data.toList p.data.toList = false) :
    Calls Try.prog 21 #[.string s, .string p] w fun e w' => e = .returned (.tuple #[.string s, .bool false]) ∧ w' = w := by
  have ht : (⟨(Lib.trimPrefix s.data.toList p.data.toList).toArray⟩ : ByteArray) = s := by
    apply ba_ext
    unfold Lib.trimPrefix
    rw [hp]; simp
  go_enter Try.func21, Try.ntmps21
  go_wp2_with (first | (go_at_call 26; refine (Try.strings_CutPrefix _ _ _).mono ?_; rintro e w' ⟨rfl, hw⟩; obtain rfl := hw.symm; rw [hp, ht]; clear hp ht))
  go_ret2
  exact ⟨rfl, rfl⟩
theorem zzSchemaName_yes (s p n : ByteArray) (w : World) (h : s.data.toList = p.data.toList ++ n.data.toList) (hs : n.size ≤ 4194304) :
    Calls Try.prog 10 #[.string s, .string p] w fun e w' => e = .returned (.tuple #[.string n, .bool (!badB n.data.toList)]) ∧ Below w.heap.size w w' := by
  have HH := hid h
  clear h
  go_enter Try.func10, Try.ntmps10
  go_wp2_with (go_at_call 21; refine (schemaName_yes _ _ n _ HH.out hs).mono ?_; rintro e w1 ⟨rfl, hb1⟩; have HB1 := hid hb1; clear hb1)
  go_ret2
  exact ⟨rfl, HB1.out⟩

theorem zb9 (s t : ByteArray) (w : World) : Calls Try.prog 9 #[.string s, .string t] w fun e w' => ∃ b, e = .returned (.bool b) ∧ w' = w := by
  go_enter Try.func9, Try.ntmps9
  go_wp2
  all_goals go_ret
  all_goals exact ⟨_, rfl, rfl⟩

theorem nameLaw_big (p n : ByteArray) (w : World) (h : 262144 < p.size ∨ 262144 < n.size) :
    Calls Try.prog 4 #[.string p, .string n] w fun e w' => e = .returned (.bool true) ∧ Below w.heap.size w w' := by
  by_cases h1 : 262144 < p.size
  · clear h
    go_enter Try.func4, Try.ntmps4
    go_wp2_with (go_at_call 9; refine (zb9 _ _ _).mono ?_; rintro e w' ⟨b, rfl, rfl⟩; cases b)
    all_goals go_ret
    all_goals exact ⟨rfl, Below.refl _ _⟩
  · have h2 : 262144 < n.size := by omega
    clear h
    go_enter Try.func4, Try.ntmps4
    go_wp2_with (go_at_call 9; refine (zb9 _ _ _).mono ?_; rintro e w' ⟨b, rfl, rfl⟩; cases b)
    all_goals go_ret
    all_goals exact ⟨rfl, Below.refl _ _⟩

theorem cat_list (a b : ByteArray) : (a ++ b).data.toList = a.data.toList ++ b.data.toList := by simp [ByteArray.data_append]

set_option maxHeartbeats 1000000 in
theorem nameLaw_main (p n : ByteArray) (w : World) (h1 : p.size ≤ 262144) (h2 : n.size ≤ 262144) :
    Calls Try.prog 4 #[.string p, .string n] w fun e w' => e = .returned (.bool true) ∧ Below w.heap.size w w' := by
  have K1 : Hid (∀ w, Calls Try.prog 10 #[.string (p ++ n), .string p] w fun e w' => e = .returned (.tuple #[.string n, .bool (!badB n.data.toList)]) ∧ Below w.heap.size w w') :=
    fun w => zzSchemaName_yes _ p n w (cat_list p n) (by omega)
  have K2 : Hid (∀ w, Calls Try.prog 10 #[.string (p ++ n ++ ⟨#[47, 120]⟩), .string p] w fun e w' => e = .returned (.tuple #[.string (n ++ ⟨#[47, 120]⟩), .bool false]) ∧ Below w.heap.size w w') := by
    intro w
    have hbad : badB (n ++ ⟨#[47, 120]⟩ : ByteArray).data.toList = true := bad_mem (x := 47) (by rw [cat_list]; simp) (by decide)
    have := zzSchemaName_yes (p ++ n ++ ⟨#[47, 120]⟩) p (n ++ ⟨#[47, 120]⟩) w (by simp [ByteArray.data_append]) (by rw [ByteArray.size_append]; show n.size + 2 ≤ _; omega)
    rw [hbad] at this
    exact this
  have K3 : Hid (∀ w, Calls Try.prog 10 #[.string (p ++ ⟨#[126, 48]⟩ ++ n), .string p] w fun e w' => e = .returned (.tuple #[.string (⟨#[126, 48]⟩ ++ n), .bool false]) ∧ Below w.heap.size w w') := by
    intro w
    have hbad : badB (⟨#[126, 48]⟩ ++ n : ByteArray).data.toList = true := bad_mem (x := 126) (by rw [cat_list]; simp) (by decide)
    have := zzSchemaName_yes (p ++ ⟨#[126, 48]⟩ ++ n) p (⟨#[126, 48]⟩ ++ n) w (by simp [ByteArray.data_append]) (by rw [ByteArray.size_append]; show 2 + n.size ≤ _; omega)
    rw [hbad] at this
    exact this
  have KC : Hid (∀ w, Calls Try.prog 11 #[.string n] w fun e w' => e = .returned (.bool (!badB n.data.toList)) ∧ w' = w) := fun w => clean_any n w (by omega)
  obtain ⟨x, hx⟩ : ∃ x, x = !badB n.data.toList := ⟨_, rfl⟩
  rw [← hx] at K1 KC
  clear hx
  go_enter Try.func4, Try.ntmps4
  go_wp2_with fail
  refine (zb9 _ _ _).mono ?_
  rintro e w' ⟨b, rfl, hw⟩
  obtain rfl := hw.symm
  cases b
  · go_wp2
    go_ret
    exact ⟨rfl, Below.refl _ _⟩
  go_wp2_with fail
  refine (K1.out _).mono ?_
  rintro e w1 ⟨rfl, hb1⟩
  have HB1 := hid hb1
  clear hb1
  go_wp2_with (go_at_call 11; refine (KC.out _).mono ?_; rintro e w' ⟨rfl, hw'⟩; obtain rfl := hw'.symm)
  refine (K2.out _).mono ?_
  rintro e w2 ⟨rfl, hb2⟩
  have HB2 := hid (HB1.out.trans (hb2.mono HB1.out.size))
  clear hb2 HB1
  go_wp2_with fail
  refine (K3.out _).mono ?_
  rintro e w3 ⟨rfl, hb3⟩
  have HB3 := hid (HB2.out.trans (hb3.mono HB2.out.size))
  clear hb3 HB2
  go_wp2
  go_ret
  exact ⟨ret_bool (by simp), HB3.out⟩

theorem nameLaw (p n : ByteArray) (w : World) :
    Calls Try.prog 4 #[.string p, .string n] w fun e w' => e = .returned (.bool true) ∧ Below w.heap.size w w' := by
  by_cases h : 262144 < p.size ∨ 262144 < n.size
  · exact nameLaw_big p n w h
  · exact nameLaw_main p n w (by omega) (by omega)
end Go.Proofs.Qxb6609196a
