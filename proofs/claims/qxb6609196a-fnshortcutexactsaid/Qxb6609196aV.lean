import Derived.Test.Qxb6609196aU
import Derived.Test.Qxb6609196aH
namespace Go.Proofs.Qxb6609196a
open Go.RowKit

/-- name to the pointer of its box -/
def boxF (L : ByteArray → Option Nat) (X : Nat) (s : ByteArray) : Option Value := (L s).map fun i => .pointer (some ⟨X + i, 0, none⟩)

/-- the pass closure, the link closure -/
def passV (QB : Nat) : Value := .func (Fn.func 23) #[] #[.pointer (some ⟨QB, 0, none⟩)]
def linkV (PB RB FB : Nat) : Value := .func (Fn.func 29) #[] #[.pointer (some ⟨PB, 0, none⟩), .pointer (some ⟨RB, 0, none⟩), .pointer (some ⟨FB, 0, none⟩)]

/-- what the link closure reads: the blocks of the prefix, of the map's variable, of passes, of pass; the map Rb; the boxes from X on -/
structure Env (w : World) (PB RB FB QB Rb X n : Nat) (L : ByteArray → Option Nat) (c : Nat → ByteArray) (pre : ByteArray) (pass : Bool) : Prop where
  c1 : w.rowIs PB 9 1 (fun _ => .string pre)
  c2 : w.rowIs RB 42 1 (fun _ => .map (some Rb))
  c3 : w.rowIs FB 25 1 (fun _ => .func (Fn.func 23) #[] #[.pointer (some ⟨QB, 0, none⟩)])
  c4 : w.rowIs QB 4 1 (fun _ => .bool pass)
  sm : SM w Rb (boxF L X)
  bx : ∀ i, i < n → w.rowIs (X + i) 9 1 (fun _ => .string (c i))
  lt : ∀ s i, L s = some i → i < n
  sz : ∀ i, i < n → (c i).size ≤ 1048576
  psz : pre.size ≤ 1048576

/-- the blocks that Env speaks of -/
def EnvAt (PB RB FB QB Rb X n : Nat) (k : Nat) : Prop := k = PB ∨ k = RB ∨ k = FB ∨ k = QB ∨ k = Rb ∨ (X ≤ k ∧ k < X + n)

theorem Env.kept {w w' : World} {PB RB FB QB Rb X n : Nat} {L : ByteArray → Option Nat} {c : Nat → ByteArray} {pre : ByteArray} {pass : Bool} (h : Env w PB RB FB QB Rb X n L c pre pass) {ex : Nat → Prop} (hk : Kept ex w w') (hn : ∀ k, EnvAt PB RB FB QB Rb X n k → ¬ ex k) :
    Env w' PB RB FB QB Rb X n L c pre pass :=
  ⟨row_kept h.c1 hk (hn _ (.inl rfl)), row_kept h.c2 hk (hn _ (.inr (.inl rfl))), row_kept h.c3 hk (hn _ (.inr (.inr (.inl rfl)))), row_kept h.c4 hk (hn _ (.inr (.inr (.inr (.inl rfl))))), h.sm.kept hk (hn _ (.inr (.inr (.inr (.inr (.inl rfl)))))),
    fun i hi => row_kept (h.bx i hi) hk (hn _ (.inr (.inr (.inr (.inr (.inr ⟨by omega, by omega⟩)))))), h.lt, h.sz, h.psz⟩
theorem Env.below {w : World} {PB RB FB QB Rb X n : Nat} {L : ByteArray → Option Nat} {c : Nat → ByteArray} {pre : ByteArray} {pass : Bool} (h : Env w PB RB FB QB Rb X n L c pre pass) : ∀ k, EnvAt PB RB FB QB Rb X n k → k < w.heap.size := by
  rintro k (rfl | rfl | rfl | rfl | rfl | ⟨h1, h2⟩)
  · exact h.c1.lt
  · exact h.c2.lt
  · exact h.c3.lt
  · exact h.c4.lt
  · exact h.sm.lt
  · have := (h.bx (k - X) (by omega)).lt
    omega

theorem zero43 : ∀ w, (zeroValue 43).run Try.prog w = .ok (.pointer none) w := fun w => by kernel_rfl

theorem pass23 (s : ByteArray) (QB : Nat) (pass : Bool) (w : World) (h : w.cell? ⟨QB, 0, none⟩ = some (.bool pass)) :
    Calls Try.prog 23 #[.string s, .pointer (some ⟨QB, 0, none⟩)] w fun e w' => e = .returned (.bool pass) ∧ w' = w := by
  go_enter Try.func23, Try.ntmps23
  go_wp2
  go_ret
  exact ⟨rfl, rfl⟩

theorem nearest_any (own after : ByteArray) (w : World) :
    Calls Try.prog 30 #[.string own, .string after] w fun e w' => e = .returned (.string (if isE own then after else own)) ∧ w' = w := by
  cases h : own.toList.isEmpty with
  | true =>
    have h' : isE own = true := h
    rw [h', if_pos rfl]
    go_enter Try.func30, Try.ntmps30
    go_wp2
    go_ret
    exact ⟨rfl, rfl⟩
  | false =>
    have h' : isE own = false := h
    rw [h', if_neg (by simp)]
    go_enter Try.func30, Try.ntmps30
    go_wp2
    go_ret
    exact ⟨rfl, rfl⟩

def LkPost (p : ByteArray) (r : Option ByteArray) (w : World) (e : Ending) (w' : World) : Prop :=
  e = .returned (.tuple #[.string (match r with | some _ => ⟨#[]⟩ | none => p), .string (r.getD ⟨#[]⟩), .bool r.isSome]) ∧ Below w.heap.size w w'

set_option maxRecDepth 5000 in
set_option maxHeartbeats 1000000 in
theorem link29 (p : ByteArray) (PB RB FB QB Rb X n : Nat) (L : ByteArray → Option Nat) (c : Nat → ByteArray) (pre : ByteArray) (pass : Bool) (w : World) (hp : p.size ≤ 1048576)
    (h : Env w PB RB FB QB Rb X n L c pre pass) :
    Calls Try.prog 29 #[.string p, .pointer (some ⟨PB, 0, none⟩), .pointer (some ⟨RB, 0, none⟩), .pointer (some ⟨FB, 0, none⟩)] w (LkPost p (linkOf L c pre pass p) w) := by
  have c1 := h.c1.cell (i := 0) (by omega)
  have HH := hid h
  clear h
  obtain ⟨r, hr⟩ : ∃ r, r = linkOf L c pre pass p := ⟨_, rfl⟩
  rw [← hr]
  have HR := hid hr
  clear hr
  cases hpf : Lib.hasPrefix p.data.toList pre.data.toList with
  | false =>
    have hn : nameOf pre p = none := by unfold nameOf; rw [hpf]; rfl
    have hr0 : r = none := by rw [HR.out]; unfold linkOf; rw [hn]; cases pass <;> rfl
    subst hr0
    have HP := hid hpf
    clear hpf HR hn
    go_enter Try.func29, Try.ntmps29
    go_wp2_with (go_at_call 21; refine (schemaName_no _ _ _ HP.out).mono ?_; rintro e w1 ⟨rfl, hw⟩; obtain rfl := hw.symm)
    go_ret3
    exact ⟨rfl, Below.refl _ _⟩
  | true =>
    obtain ⟨nx, hnx⟩ : ∃ nx : ByteArray, nx = ⟨(p.data.toList.drop pre.data.toList.length).toArray⟩ := ⟨_, rfl⟩
    have hcat : p.data.toList = pre.data.toList ++ nx.data.toList := by
      unfold Lib.hasPrefix at hpf
      obtain ⟨t, ht⟩ := List.isPrefixOf_iff_prefix.1 hpf
      rw [hnx, ← ht]; simp
    have hnz : nx.size ≤ 4194304 := by
      have := congrArg List.length hcat
      rw [List.length_append] at this
      have h1 : p.data.toList.length = p.size := rfl
      have h2 : nx.data.toList.length = nx.size := rfl
      omega
    have hnm : nameOf pre p = if badB nx.data.toList then none else some nx := by
      unfold nameOf
      rw [hpf, if_pos rfl, hnx]
    have HC := hid hcat
    clear hcat hnx hpf
    cases hbad : badB nx.data.toList with
    | true =>
      rw [hbad, if_pos rfl] at hnm
      have hr0 : r = none := by rw [HR.out]; unfold linkOf; rw [hnm]; cases pass <;> rfl
      subst hr0
      have HBAD := hid hbad
      clear HR hnm hbad
      go_enter Try.func29, Try.ntmps29
      go_wp2_with (go_at_call 21; refine (schemaName_yes _ _ nx _ HC.out hnz).mono ?_; rintro e w1 ⟨rfl, hb1⟩; have HB1 := hid hb1; clear hb1; rw [HBAD.out])
      go_ret3
      exact ⟨rfl, HB1.out⟩
    | false =>
      rw [hbad, if_neg (by simp)] at hnm
      have hr1 : r = if pass then (match L nx with | some i => if isE (c i) then none else some (c i) | none => none) else none := by rw [HR.out]; unfold linkOf; simp only [hnm]; cases L nx <;> rfl
      have HBAD := hid hbad
      clear HR hnm hbad
      cases hL : L nx with
      | none =>
        have hr0 : r = none := by rw [hr1, hL]; cases pass <;> rfl
        subst hr0
        have hlook : Hid (boxF L X nx = none) := by unfold boxF; rw [hL]; rfl
        clear hr1 hL
        go_enter Try.func29, Try.ntmps29
        go_wp2_with fail
        refine (schemaName_yes _ _ nx _ HC.out hnz).mono ?_
        rintro e w1 ⟨rfl, hb1⟩
        have HE := hid (HH.out.kept (Kept.of_below (ex := fun _ => False) hb1) (fun _ _ h => h))
        have HB1 := hid hb1
        clear hb1
        rw [HBAD.out]
        have c2 := HE.out.c2.cell (i := 0) (by omega)
        go_wp2_with (at_lookup; refine wpList_look rfl _ _ 42 true rfl 9 43 Try.underlying42 Try.underlying9 (.pointer none) zero43 Rb _ nx none rfl rfl HE.out.sm hlook.out ?_)
        go_ret3
        exact ⟨rfl, HB1.out⟩
      | some i =>
        have hin := HH.out.lt nx i hL
        have hlook : Hid (boxF L X nx = some (.pointer (some ⟨X + i, 0, none⟩))) := by unfold boxF; rw [hL]; rfl
        rw [hL] at hr1
        simp only at hr1
        have HR1 := hid hr1
        clear hL hr1
        go_enter Try.func29, Try.ntmps29
        go_wp2_with fail
        refine (schemaName_yes _ _ nx _ HC.out hnz).mono ?_
        rintro e w1 ⟨rfl, hb1⟩
        have HE := hid (HH.out.kept (Kept.of_below (ex := fun _ => False) hb1) (fun _ _ h => h))
        have HB1 := hid hb1
        clear hb1
        rw [HBAD.out]
        have c2 := HE.out.c2.cell (i := 0) (by omega)
        have c3 := HE.out.c3.cell (i := 0) (by omega)
        have c4 := HE.out.c4.cell (i := 0) (by omega)
        have cb := (HE.out.bx i hin).cell (i := 0) (by omega)
        have hr1 := HR1.out
        obtain ⟨y, hy⟩ : ∃ y, y = c i := ⟨_, rfl⟩
        rw [← hy] at hr1 cb
        clear hy c1 HR1
        cases hE : isE y with
        | true =>
          have hE' : y.toList.isEmpty = true := hE
          have hr0 : r = none := by rw [hr1, hE]; cases pass <;> rfl
          subst hr0
          clear hr1 hE
          go_wp2_with (at_lookup; refine wpList_look rfl _ _ 42 true rfl 9 43 Try.underlying42 Try.underlying9 (.pointer none) zero43 Rb _ nx _ rfl rfl HE.out.sm hlook.out ?_)
          go_ret3
          exact ⟨rfl, HB1.out⟩
        | false =>
          have hE' : y.toList.isEmpty = false := hE
          cases pass with
          | false =>
            have hr0 : r = none := by rw [hr1]; rfl
            subst hr0
            clear hr1 hE
            go_wp2_with (first | (at_lookup; refine wpList_look rfl _ _ 42 true rfl 9 43 Try.underlying42 Try.underlying9 (.pointer none) zero43 Rb _ nx _ rfl rfl HE.out.sm hlook.out ?_) | (go_at_call 23; refine (pass23 _ _ _ _ c4).mono ?_; rintro e w2 ⟨rfl, hw2⟩; obtain rfl := hw2.symm))
            go_ret3
            exact ⟨rfl, HB1.out⟩
          | true =>
            have hr0 : r = some y := by rw [hr1, hE]; rfl
            subst hr0
            clear hr1 hE
            go_wp2_with (first | (at_lookup; refine wpList_look rfl _ _ 42 true rfl 9 43 Try.underlying42 Try.underlying9 (.pointer none) zero43 Rb _ nx _ rfl rfl HE.out.sm hlook.out ?_) | (go_at_call 23; refine (pass23 _ _ _ _ c4).mono ?_; rintro e w2 ⟨rfl, hw2⟩; obtain rfl := hw2.symm))
            go_quiet (fail)
            go_wp2
            go_ret3
            exact ⟨rfl, below_drewN HB1.out _⟩
end Go.Proofs.Qxb6609196a
