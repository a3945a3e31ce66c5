import Derived.Test.Qxb6609196aT
namespace Go.Proofs.Qxb6609196a
open Go.RowKit

theorem get_list (s : ByteArray) (i : Nat) (h : i < s.size) : s.data.toList[i]? = some s[i] := Lib.data_getElem? s i h

theorem prefix_of {p pre : ByteArray} (h : pre.size ≤ p.size) (hj : ∀ j (h1 : j < p.size) (h2 : j < pre.size), p[j] = pre[j]) : Lib.hasPrefix p.data.toList pre.data.toList = true := by
  unfold Lib.hasPrefix
  rw [List.isPrefixOf_iff_prefix, List.prefix_iff_eq_take]
  apply List.ext_getElem?
  intro i
  rw [List.getElem?_take]
  by_cases hi : i < pre.size
  · rw [if_pos (by exact hi), get_list pre i hi, get_list p i (by omega), hj i (by omega) hi]
  · rw [if_neg (by exact hi)]
    exact List.getElem?_eq_none (by show pre.size ≤ i; omega)
theorem prefix_not {p pre : ByteArray} {k : Nat} (h1 : k < p.size) (h2 : k < pre.size) (hne : p[k] ≠ pre[k]) : Lib.hasPrefix p.data.toList pre.data.toList = false := by
  cases hp : Lib.hasPrefix p.data.toList pre.data.toList with
  | false => rfl
  | true =>
    exfalso
    unfold Lib.hasPrefix at hp
    obtain ⟨t, ht⟩ := List.isPrefixOf_iff_prefix.1 hp
    apply hne
    have e1 := get_list p k h1
    have e2 := get_list pre k h2
    rw [← ht, List.getElem?_append_left (by exact h2), e2] at e1
    exact (Option.some.inj e1).symm
theorem prefix_short {p pre : ByteArray} (h : p.size < pre.size) : Lib.hasPrefix p.data.toList pre.data.toList = false := by
  cases hp : Lib.hasPrefix p.data.toList pre.data.toList with
  | false => rfl
  | true =>
    exfalso
    unfold Lib.hasPrefix at hp
    have := (List.isPrefixOf_iff_prefix.1 hp).length_le
    have h' : p.data.toList.length < pre.data.toList.length := h
    omega

def CutPost (pre p : ByteArray) (w : World) (e : Ending) (w' : World) : Prop :=
  ∃ x m, e = .returned (.tuple #[.string x, .bool (nameOf pre p).isSome]) ∧ (∀ n, nameOf pre p = some n → x = n) ∧ w' = w.drewN m
theorem cut_no {pre p x : ByteArray} {w w' : World} (hw : ∃ m, w' = w.drewN m) (h : Lib.hasPrefix p.data.toList pre.data.toList = false) : CutPost pre p w (.returned (.tuple #[.string x, .bool false])) w' := by
  obtain ⟨m, hw⟩ := hw
  have hn : nameOf pre p = none := by unfold nameOf; rw [h]; rfl
  exact ⟨x, m, by rw [hn]; rfl, (fun n h => by rw [hn] at h; cases h), hw⟩

set_option maxRecDepth 5000 in
set_option maxHeartbeats 1000000 in
theorem cut24 (p pre : ByteArray) (w : World) (hp : p.size ≤ 1048576) (hpre : pre.size ≤ 1048576) :
    Calls Try.prog 24 #[.string p, .string pre] w (CutPost pre p w) := by
  by_cases hsh : p.size < pre.size
  · have HH := hid (prefix_short hsh)
    go_enter Try.func24, Try.ntmps24
    go_wp2
    go_ret2
    exact cut_no ⟨0, rfl⟩ HH.out
  have hsl : ∀ w, (Instr.slice 9 (.string p) (some (.int .i64 (pre.size : Int))) none none).run Try.prog w = .ok (.string (p.extract pre.size p.size)) w := by
    intro w
    rw [run_slice_string_from_if (P := Try.prog) w 9 p .i64 _ Try.underlying9, if_pos (by omega), Int.toNat_natCast]
  obtain ⟨nx, hnx⟩ : ∃ nx, nx = p.extract pre.size p.size := ⟨_, rfl⟩
  rw [← hnx] at hsl
  have hnl : nx.data.toList = p.data.toList.drop pre.size := by rw [hnx, Lib.extract_to_end]
  have hnz : nx.size ≤ 1048576 := by
    have := congrArg List.length hnl
    rw [List.length_drop] at this
    have h1 : nx.size = p.data.toList.length - pre.size := this
    have h2 : p.data.toList.length = p.size := rfl
    omega
  have HN := hid hnl
  clear hnx hnl
  go_enter Try.func24, Try.ntmps24
  go_wp2
  go_loopw [6] (fun i wr => ∃ k m : Nat, k ≤ pre.size ∧ i = .int .i64 k ∧ wr = w.drewN m ∧ Hid (∀ j (h1 : j < p.size) (h2 : j < pre.size), j < k → p[j] = pre[j])) (fun i _ => pre.size - (intOf i).toNat)
  case atStart => exact ⟨0, 0, Nat.zero_le _, rfl, rfl, hid (fun j _ _ h => absurd h (by omega))⟩
  case round =>
    obtain ⟨k, m, hk, rfl, rfl, HP⟩ := hrel
    by_cases hlt : k < pre.size
    · have hltp : k < p.size := by omega
      have hi1 : (k : Int) < (p.size : Int) := by omega
      have hi2 : (k : Int) < (pre.size : Int) := by omega
      clear hsl
      cases hne : ((p[k].toNat : Int) != (pre[k].toNat : Int)) with
      | true =>
        have HQ := hid (prefix_not hltp hlt (fun e => by rw [e] at hne; simp at hne))
        go_wp2
        go_quiet (fail)
        go_wp2
        go_ret2
        exact cut_no ⟨m + nq, World.drewN_drewN ..⟩ HQ.out
      | false =>
        have HE : Hid (p[k] = pre[k]) := by
          have h1 : (p[k].toNat : Int) = (pre[k].toNat : Int) := by simpa using hne
          exact UInt8.toNat_inj.1 (by omega)
        go_wp2
        go_quiet (fail)
        go_wp2
        go_roundw
        case rel =>
          refine ⟨k + 1, m + nq, by omega, by go_num, rfl, hid (fun j h1 h2 h3 => ?_)⟩
          by_cases e : j = k
          · subst e; exact HE.out
          · exact HP.out j h1 h2 (by omega)
        case measure => simp [intOf]; omega
    · have hk' : k = pre.size := by omega
      have HQ := hid (prefix_of (p := p) (pre := pre) (by omega) (fun j h1 h2 => HP.out j h1 h2 (by omega)))
      clear HP
      go_wp2_with (go_at_call 11; refine (clean_any _ _ (by omega)).mono ?_; rintro e w1 ⟨rfl, rfl⟩)
      go_ret2
      have hd : p.data.toList.drop pre.data.toList.length = nx.data.toList := HN.out.symm
      have hnm : nameOf pre p = if badB nx.data.toList then none else some ⟨nx.data.toList.toArray⟩ := by unfold nameOf; rw [HQ.out, if_pos rfl, hd]
      cases hb : badB nx.data.toList with
      | true => exact ⟨nx, m, by rw [hnm, hb]; rfl, (fun n h => by rw [hnm, hb] at h; cases h), rfl⟩
      | false => exact ⟨nx, m, by rw [hnm, hb]; rfl, (fun n h => by rw [hnm, hb] at h; cases h; rfl), rfl⟩

theorem zero9 : ∀ w, (zeroValue 9).run Try.prog w = .ok (.string ⟨#[]⟩) w := fun w => by kernel_rfl
theorem zero3 : ∀ w, (zeroValue 3).run Try.prog w = .ok (.int .i64 0) w := fun w => by kernel_rfl

def LinkPost (r : Option ByteArray) (w : World) (e : Ending) (w' : World) : Prop :=
  e = .returned (.tuple #[.string (r.getD ⟨#[]⟩), .bool r.isSome]) ∧ ∃ m, w' = w.drewN m
theorem SM.drewN {w : World} {b : Nat} {f : ByteArray → Option Value} (h : SM w b f) (n : Nat) : SM (w.drewN n) b f := h

set_option maxRecDepth 5000 in
set_option maxHeartbeats 1000000 in
theorem linkRef_any (p pre : ByteArray) (pass : Bool) (V n c I : Nat) (L : ByteArray → Option Nat) (f : Nat → ByteArray) (w : World) (hp : p.size ≤ 1048576) (hpre : pre.size ≤ 1048576)
    (hV : Strs w V n f) (hI : SM w I (idxF L)) (hL : ∀ s i, L s = some i → i < n) :
    Calls Try.prog 19 #[.string p, .string pre, .bool pass, .slice (some ⟨V, 0, none⟩) n c, .map (some I)] w (LinkPost (linkOf L f pre pass p) w) := by
  cases pass with
  | false =>
    go_enter Try.func19, Try.ntmps19
    go_wp2
    go_ret2
    exact ⟨rfl, 0, rfl⟩
  | true =>
    have HV := hid hV
    have HI := hid hI
    have HL := hid hL
    obtain ⟨r, hr⟩ : ∃ r, r = linkOf L f pre true p := ⟨_, rfl⟩
    rw [← hr]
    unfold linkOf at hr
    rw [if_pos rfl] at hr
    clear hV hI hL
    cases hnm : nameOf pre p with
    | none =>
      rw [hnm] at hr
      simp only at hr
      subst hr
      have HN := hid hnm
      clear hnm
      go_enter Try.func19, Try.ntmps19
      go_wp2_with fail
      refine (cut24 p pre _ hp hpre).mono ?_
      rintro e w1 ⟨x, m, rfl, _, rfl⟩
      rw [HN.out]
      go_wp2
      go_ret2
      exact ⟨rfl, m, rfl⟩
    | some nx =>
      rw [hnm] at hr
      simp only at hr
      have HN := hid hnm
      clear hnm
      cases hLn : L nx with
      | none =>
        rw [hLn] at hr
        simp only at hr
        subst hr
        have hidx : Hid (idxF L nx = none) := by unfold idxF; rw [hLn]; rfl
        clear hLn
        go_enter Try.func19, Try.ntmps19
        go_wp2_with fail
        refine (cut24 p pre _ hp hpre).mono ?_
        rintro e w1 ⟨x, m, rfl, hx, rfl⟩
        obtain rfl := hx nx HN.out
        rw [HN.out]
        clear hx
        go_wp2_with (at_lookup; refine wpList_look rfl _ _ 32 true rfl 9 3 Try.underlying32 Try.underlying9 _ zero3 I _ x none rfl rfl (HI.out.drewN m) hidx.out ?_)
        go_ret2
        exact ⟨rfl, m, rfl⟩
      | some i =>
        rw [hLn] at hr
        simp only at hr
        have hidx : Hid (idxF L nx = some (.int .i64 (i : Nat))) := by unfold idxF; rw [hLn]; rfl
        have hin := HL.out nx i hLn
        have hcl := HV.out.cell hin
        have hii : (i : Int) < (n : Int) := by omega
        clear hLn
        obtain ⟨y, hy⟩ : ∃ y, y = f i := ⟨_, rfl⟩
        rw [← hy] at hcl hr
        clear hy HL
        cases hE : isE y with
        | true =>
          rw [hE, if_pos rfl] at hr
          subst hr
          have hE' : y.toList.isEmpty = true := hE
          clear hE
          go_enter Try.func19, Try.ntmps19
          go_wp2_with fail
          refine (cut24 p pre _ hp hpre).mono ?_
          rintro e w1 ⟨x, m, rfl, hx, rfl⟩
          obtain rfl := hx nx HN.out
          rw [HN.out]
          clear hx
          go_wp2_with (at_lookup; refine wpList_look rfl _ _ 32 true rfl 9 3 Try.underlying32 Try.underlying9 _ zero3 I _ x _ rfl rfl (HI.out.drewN m) hidx.out ?_)
          go_ret2
          exact ⟨rfl, m, rfl⟩
        | false =>
          rw [hE, if_neg (by simp)] at hr
          subst hr
          have hE' : y.toList.isEmpty = false := hE
          clear hE
          go_enter Try.func19, Try.ntmps19
          go_wp2_with fail
          refine (cut24 p pre _ hp hpre).mono ?_
          rintro e w1 ⟨x, m, rfl, hx, rfl⟩
          obtain rfl := hx nx HN.out
          rw [HN.out]
          clear hx
          go_wp2_with (at_lookup; refine wpList_look rfl _ _ 32 true rfl 9 3 Try.underlying32 Try.underlying9 _ zero3 I _ x _ rfl rfl (HI.out.drewN m) hidx.out ?_)
          go_ret2
          exact ⟨rfl, m, rfl⟩
end Go.Proofs.Qxb6609196a
