import Derived.Test.Qxb6609196aZ
namespace Go.Proofs.Qxb6609196a
open Go.RowKit

theorem boxF_inv {L : ByteArray → Option Nat} {X : Nat} {s : ByteArray} {v : Value} (h : boxF L X s = some v) : ∃ i : Nat, v = .pointer (some ⟨X + i, 0, none⟩) := by
  unfold boxF at h
  cases hL : L s with
  | none => rw [hL] at h; cases h
  | some i => rw [hL] at h; cases h; exact ⟨i, rfl⟩
theorem boxF_at {L : ByteArray → Option Nat} {X i : Nat} {s : ByteArray} (h : boxF L X s = some (.pointer (some ⟨X + i, 0, none⟩))) : L s = some i := by
  unfold boxF at h
  cases hL : L s with
  | none => rw [hL] at h; cases h
  | some j =>
    rw [hL] at h
    simp only [Option.map_some, Option.some.injEq, Value.pointer.injEq, Addr.mk.injEq] at h
    have : j = i := by omega
    rw [this]

theorem newW_at {E : ByteArray → ByteArray} {L : ByteArray → Option Nat} {c : Nat → ByteArray} {s : ByteArray} {i : Nat} (h : L s = some i) : newW E L c s = if chg E (c i) then some (.string (c i)) else none := by
  unfold newW; rw [h]
theorem newS_at {E : ByteArray → ByteArray} {L : ByteArray → Option Nat} {c : Nat → ByteArray} {s : ByteArray} {i : Nat} (h : L s = some i) : newS E L c s = if chg E (c i) then some (.string (E (c i))) else none := by
  unfold newS; rw [h]

theorem chg_no1 {E : ByteArray → ByteArray} {r : ByteArray} (h : r.toList.isEmpty = true) : chg E r = false := by
  unfold chg isE; rw [h]; rfl
theorem chg_no2 {E : ByteArray → ByteArray} {r : ByteArray} (h : (E r).toList = []) : chg E r = false := by
  unfold chg isE; rw [h]; simp
theorem chg_no3 {E : ByteArray → ByteArray} {r : ByteArray} (h : (!(E r).toList.isEmpty) = false ∨ (!(E r).toList == r.toList) = false) : chg E r = false := by
  unfold chg isE
  rcases h with h | h <;> rw [h] <;> simp
theorem chg_yes {E : ByteArray → ByteArray} {r : ByteArray} (h0 : r.toList.isEmpty = false) (h : (!(E r).toList.isEmpty) = true ∧ (!(E r).toList == r.toList) = true) : chg E r = true := by
  unfold chg isE
  rw [h0, h.1, h.2]; rfl

section
variable {E : ByteArray → ByteArray} {QB Rb X n : Nat} {L : ByteArray → Option Nat} {c : Nat → ByteArray} {pre : ByteArray} {pass : Bool} {es : Array MapEntry} {clock : Nat} {w : World} {V V' : ByteArray → Prop} {wr : World}
/-- a round that changes nothing -/
theorem Core.skip (h : Core E QB Rb X n L c pre pass es clock w V wr) {s : ByteArray} {i : Nat} {r : ByteArray} (hL : L s = some i) (hr : r = c i) (hc : chg E r = false) (hV : ∀ x, V' x ↔ (V x ∨ x = s)) : Core E QB Rb X n L c pre pass es clock w V' wr := by
  refine h.same hV ?_ ?_
  · rw [newW_at hL, ← hr, hc]; rfl
  · rw [newS_at hL, ← hr, hc]; rfl
/-- what the three operations on the two maps do -/
theorem Core.write (h : Core E QB Rb X n L c pre pass es clock w V wr) {s : ByteArray} {i : Nat} {r : ByteArray} (hL : L s = some i) (hr : r = c i) (hc : chg E r = true) (hV : ∀ x, V' x ↔ (V x ∨ x = s)) (hs : ¬ V s) :
    ∃ (ck : Nat) (w1 w2 w3 : World), (Instr.mapEntry 34 (.map (some (w.heap.size + 1 + 1 + 1 + 1 + 1))) (.string s)).run Try.prog wr.drew = .ok (.tuple #[.string ⟨#[]⟩, .int .i64 (ck : Nat)]) w1 ∧
      (Instr.entryStore 34 (.map (some (w.heap.size + 1 + 1 + 1 + 1 + 1))) (.int .i64 (ck : Nat)) (.string r)).run Try.prog w1 = .ok () w2 ∧
      (Instr.mapUpdate 34 (.map (some (w.heap.size + 1 + 1 + 1 + 1 + 1 + 1))) (.string s) (.string (E r))).run Try.prog w2 = .ok () w3 ∧
      w1.cell? ⟨X + i, 0, none⟩ = wr.cell? ⟨X + i, 0, none⟩ ∧ Core E QB Rb X n L c pre pass es clock w V' w3 ∧ Kept (fun k => k = w.heap.size + 1 + 1 + 1 + 1 + 1 ∨ k = w.heap.size + 1 + 1 + 1 + 1 + 1 + 1) wr w3 := by
  obtain ⟨fW, mW, pW⟩ := h.wm
  obtain ⟨fS, mS, pS⟩ := h.sm
  obtain ⟨ck, w1, w2, h1, h2, g1, z1, g2, z2, m2⟩ := run_entry_pair (P := Try.prog) (w := wr.drew) Try.underlying34 Try.underlying9 zero9 mW s (.string r) ((pW s).2 hs)
  have k1 : Kept (fun k => k = w.heap.size + 1 + 1 + 1 + 1 + 1) wr.drew w1 := Kept.of_grown g1 rfl
  have k2 : Kept (fun k => k = w.heap.size + 1 + 1 + 1 + 1 + 1) w1 w2 := Kept.of_grown g2 rfl
  have k12 := k1.trans k2
  have mS2 : SM w2 (w.heap.size + 1 + 1 + 1 + 1 + 1 + 1) fS := SM.kept (w := wr.drew) mS k12 (by omega)
  obtain ⟨w3, h3, m3, g3, z3⟩ := run_upd (P := Try.prog) Try.underlying34 Try.underlying9 mS2 s (.string (E r))
  have k3 : Kept (fun k => k = w.heap.size + 1 + 1 + 1 + 1 + 1 + 1) w2 w3 := Kept.of_grown g3 rfl
  have kk : Kept (fun k => k = w.heap.size + 1 + 1 + 1 + 1 + 1 ∨ k = w.heap.size + 1 + 1 + 1 + 1 + 1 + 1) wr.drew w3 := (k12.mono (fun _ e => .inl e)).trans (k3.mono (fun _ e => .inr e))
  have kk' : Kept (fun k => k = w.heap.size + 1 + 1 + 1 + 1 + 1 ∨ k = w.heap.size + 1 + 1 + 1 + 1 + 1 + 1) wr w3 := ⟨kk.os, kk.tape, kk.output, kk.size, kk.block⟩
  have hin := h.env.lt s i hL
  have hlt := h.xlt i hin
  refine ⟨ck, w1, w2, w3, h1, h2, h3, ?_, h.maps kk' ⟨_, m2.kept k3 (by omega), pW.step hV (by rw [newW_at hL, ← hr, hc]; rfl)⟩ ⟨_, m3, pS.step hV (by rw [newS_at hL, ← hr, hc]; rfl)⟩, kk'⟩
  exact World.cell?_of_block (w := wr) (k1.block (X + i) (by have := (h.env.bx i hin).lt; exact this) (by omega))
end

theorem part_all {V : ByteArray → Prop} {f g : ByteArray → Option Value} (h : Part V f g) (hg : ∀ s, ¬ V s → g s = none) : ∀ s, f s = g s := by
  intro s
  by_cases hV : V s
  · exact (h s).1 hV
  · rw [(h s).2 hV, hg s hV]
theorem newS_inv {E : ByteArray → ByteArray} {L : ByteArray → Option Nat} {c : Nat → ByteArray} {s : ByteArray} {v : Value} (h : newS E L c s = some v) : ∃ i, L s = some i ∧ chg E (c i) = true ∧ v = .string (E (c i)) := by
  unfold newS at h
  split at h
  · rename_i i hi
    split at h
    · rename_i hc; cases h; exact ⟨i, hi, hc, rfl⟩
    · cases h
  · cases h

/-- in the second loop -/
structure Lp2 (E : ByteArray → ByteArray) (Rb X n It : Nat) (L : ByteArray → Option Nat) (c : Nat → ByteArray) (es2 : Array MapEntry) (clock2 : Nat) (w : World) (seen : Array Nat) (wq : World) : Prop where
  rb : wq.rowIs w.heap.size 42 1 (fun _ => .map (some Rb))
  mr : SM wq Rb (boxF L X)
  ms : wq.heap[w.heap.size + 1 + 1 + 1 + 1 + 1 + 1]? = some (.map es2 clock2)
  mw : SM wq (w.heap.size + 1 + 1 + 1 + 1 + 1) (newW E L c)
  bx : ∀ s i, L s = some i → (Vis es2 seen s → wq.rowIs (X + i) 9 1 (fun _ => .string (E (c i)))) ∧ (¬ Vis es2 seen s → wq.rowIs (X + i) 9 1 (fun _ => .string (c i)))
  it : wq.heap[It]? = some (.mapIter (some (w.heap.size + 1 + 1 + 1 + 1 + 1 + 1)) clock2 seen clock2)
  kept : Kept (fun k => X ≤ k ∧ k < X + n) w wq
  big : w.heap.size + 1 + 1 + 1 + 1 + 1 + 1 + 1 ≤ It
  xlt : ∀ i, i < n → X + i < w.heap.size
  rlt : Rb < w.heap.size

section
variable {E : ByteArray → ByteArray} {QB Rb X n It : Nat} {L : ByteArray → Option Nat} {c : Nat → ByteArray} {pre : ByteArray} {pass : Bool} {es es2 : Array MapEntry} {clock clock2 : Nat} {w : World} {seen : Array Nat} {wr wq w' : World}

theorem lp2_start (h : Core E QB Rb X n L c pre pass es clock w (Vis es seen) wr) (hok : MOk es clock (boxF L X)) (h0 : (leftOf es seen).size = 0) (hms : wr.heap[w.heap.size + 1 + 1 + 1 + 1 + 1 + 1]? = some (.map es2 clock2))
    (hit : w'.heap[wr.heap.size]? = some (.mapIter (some (w.heap.size + 1 + 1 + 1 + 1 + 1 + 1)) clock2 #[] clock2)) (hg : wr.grownBy w' none) : Lp2 E Rb X n wr.heap.size L c es2 clock2 w #[] w' := by
  have k : Kept (fun _ => False) wr w' := Kept.of_grownNone hg
  have hvis : ∀ s, ¬ Vis es seen s → newW E L c s = none := by
    intro s hs
    unfold newW
    cases hL : L s with
    | none => rfl
    | some i => exact absurd (vis_all hok h0 (s := s) (v := .pointer (some ⟨X + i, 0, none⟩)) (by unfold boxF; rw [hL]; rfl)) hs
  obtain ⟨fW, mW, pW⟩ := h.wm
  have hSlt := (Array.getElem?_eq_some_iff.1 hms).1
  refine ⟨row_kept h.env.c2 k (fun f => f), h.env.sm.kept k (fun f => f), ?_, (mW.congr (part_all pW hvis)).kept k (fun f => f), fun s i hL => ⟨fun hv => absurd hv (vis_none es2 s), fun _ => row_kept (h.env.bx i (h.env.lt s i hL)) k (fun f => f)⟩, hit, (h.kept.trans k).mono (fun _ f => f.elim), by omega, h.xlt, h.rlt⟩
  rw [k.block _ hSlt (fun f => f)]; exact hms

theorem Lp2.next (h : Lp2 E Rb X n It L c es2 clock2 w seen wq) (hg : wq.grownBy w' (some It)) :
    w'.rowIs w.heap.size 42 1 (fun _ => .map (some Rb)) ∧ SM w' Rb (boxF L X) ∧ (∀ s i, L s = some i → i < n → ∃ v, w'.rowIs (X + i) 9 1 (fun _ => .string v)) := by
  have k : Kept (fun k => k = It) wq w' := Kept.of_grown hg rfl
  have h1 := h.big
  have h2 := h.rlt
  refine ⟨row_kept h.rb k (by omega), h.mr.kept k (by omega), fun s i hL hi => ?_⟩
  have h3 := h.xlt i hi
  by_cases hv : Vis es2 seen s
  · exact ⟨_, row_kept ((h.bx s i hL).1 hv) k (by omega)⟩
  · exact ⟨_, row_kept ((h.bx s i hL).2 hv) k (by omega)⟩

theorem Lp2.store (h : Lp2 E Rb X n It L c es2 clock2 w seen wq) (hlt : ∀ s i, L s = some i → i < n) (hinj : ∀ s s' i, L s = some i → L s' = some i → s = s') (hRX : ¬ (X ≤ Rb ∧ Rb < X + n)) {f2 : ByteArray → Option Value} (hok2 : MOk es2 clock2 f2) (hg : wq.grownBy w' (some It)) {e : MapEntry} {s : ByteArray} {i : Nat} (he : e ∈ es2.toList) (hs : e.key = .string s) (hL : L s = some i)
    (hit : w'.heap[It]? = some (.mapIter (some (w.heap.size + 1 + 1 + 1 + 1 + 1 + 1)) clock2 (seen.push e.born) clock2)) : Lp2 E Rb X n It L c es2 clock2 w (seen.push e.born) (w'.setCell ⟨X + i, 0, none⟩ (.string (E (c i)))) := by
  have k : Kept (fun k => k = It) wq w' := Kept.of_grown hg rfl
  have hin := hlt s i hL
  have hxi := h.xlt i hin
  have h1 := h.big
  have h2 := h.rlt
  have k2 : Kept (fun k => k = X + i) w' (w'.setCell ⟨X + i, 0, none⟩ (.string (E (c i)))) := Kept.setCell (ex := fun k => k = X + i) (Kept.refl _ _) (p := ⟨X + i, 0, none⟩) rfl _
  have hSlt := (Array.getElem?_eq_some_iff.1 h.ms).1
  have hItlt := (Array.getElem?_eq_some_iff.1 hit).1
  refine ⟨row_kept (row_kept h.rb k (by omega)) k2 (by omega), (h.mr.kept k (by omega)).kept k2 (by omega), ?_, (h.mw.kept k (by omega)).kept k2 (by omega), ?_, ?_, ?_, h.big, h.xlt, h.rlt⟩
  · rw [k2.block _ (Nat.lt_of_lt_of_le hSlt k.size) (by omega), k.block _ hSlt (by omega)]; exact h.ms
  · intro s' i' hL'
    have hin' := hlt s' i' hL'
    have hxi' := h.xlt i' hin'
    by_cases e1 : s' = s
    · subst e1
      have : i' = i := by rw [hL] at hL'; cases hL'; rfl
      subst this
      refine ⟨fun _ => ?_, fun hv => absurd ((vis_push hok2 he hs s').2 (.inr rfl)) hv⟩
      obtain ⟨v, hv⟩ := (h.next hg).2.2 s' i' hL hin
      exact (hv.set 0 (.string (E (c i')))).congr (fun j hj => by
        have : j = 0 := by omega
        rw [if_pos this])
    · have hne : i' ≠ i := fun e2 => by subst e2; exact e1 (hinj s' s i' hL' hL)
      have hb := h.bx s' i' hL'
      refine ⟨fun hv => ?_, fun hv => ?_⟩
      · rcases (vis_push hok2 he hs s').1 hv with hv' | hv'
        · exact row_kept (row_kept (hb.1 hv') k (by omega)) k2 (by omega)
        · exact absurd hv' e1
      · exact row_kept (row_kept (hb.2 (fun hv' => hv ((vis_push hok2 he hs s').2 (.inl hv')))) k (by omega)) k2 (by omega)
  · rw [k2.block _ hItlt (by omega)]; exact hit
  · refine ⟨k2.os.trans (k.os.trans h.kept.os), k2.tape.trans (k.tape.trans h.kept.tape), k2.output.trans (k.output.trans h.kept.output), Nat.le_trans h.kept.size (Nat.le_trans k.size k2.size), fun j hj hn => ?_⟩
    have hj1 := Nat.lt_of_lt_of_le hj h.kept.size
    rw [k2.block j (Nat.lt_of_lt_of_le hj1 k.size) (fun e1 => hn (by omega)), k.block j hj1 (by omega)]
    exact h.kept.block j hj hn

theorem Lp2.done (h : Lp2 E Rb X n It L c es2 clock2 w seen wq) {f2 : ByteArray → Option Value} (hok2 : MOk es2 clock2 f2) (hf2 : ∀ s, f2 s = newS E L c s) (h0 : (leftOf es2 seen).size = 0) : ShortPost E L c X n w (.returned (.map (some (w.heap.size + 1 + 1 + 1 + 1 + 1)))) wq := by
  refine ⟨_, rfl, by omega, h.mw, fun s i hL => ?_, h.kept⟩
  cases hc : chg E (c i) with
  | true =>
    have hv : Vis es2 seen s := vis_all hok2 h0 (v := .string (E (c i))) (by rw [hf2, newS_at hL, hc]; rfl)
    unfold res
    rw [hc, if_pos rfl]
    exact (h.bx s i hL).1 hv
  | false =>
    have hv : ¬ Vis es2 seen s := by
      rintro ⟨e, he, hk, _⟩
      obtain ⟨k', hk', hf, _⟩ := hok2.1 e he
      rw [hk] at hk'
      cases hk'
      rw [hf2, newS_at hL, hc] at hf
      cases hf
    unfold res
    rw [hc, if_neg (by simp)]
    exact (h.bx s i hL).2 hv
end

set_option maxRecDepth 5000 in
set_option maxHeartbeats 4000000 in
theorem short22 (QB Rb X n : Nat) (L : ByteArray → Option Nat) (c : Nat → ByteArray) (pre : ByteArray) (pass : Bool) (ix : ByteArray → Nat) (w : World) (hn : n ≤ 4096) (hpre : pre.size ≤ 1048576)
    (hq : w.rowIs QB 4 1 (fun _ => .bool pass)) (hm : SM w Rb (boxF L X)) (hb : ∀ i, i < n → w.rowIs (X + i) 9 1 (fun _ => .string (c i))) (hlt : ∀ s i, L s = some i → i < n) (hsz : ∀ i, i < n → (c i).size ≤ 1048576) (hinj : ∀ s s' i, L s = some i → L s' = some i → s = s')
    (hfew : Few (linkOf L c pre pass) n ix) (hRX : ¬ (X ≤ Rb ∧ Rb < X + n)) :
    Calls Try.prog 22 #[.map (some Rb), .string pre, .func (Fn.func 23) #[] #[.pointer (some ⟨QB, 0, none⟩)]] w (ShortPost (EE (linkOf L c pre pass) n) L c X n w) := by
  have hmm := @run_makeMap Try.prog
  obtain ⟨es, clock, hmp, hok⟩ := hm
  have hmlt := (Array.getElem?_eq_some_iff.1 hmp).1
  obtain ⟨E, hE⟩ : ∃ E, E = EE (linkOf L c pre pass) n := ⟨_, rfl⟩
  have C0 := hid (core_start (E := E) (V := Vis es #[]) hq hmp hok hb hlt hsz hpre (vis_none es))
  rw [← hE]
  have HE := hid hE
  have HL := hid (And.intro hlt (And.intro hsz hinj))
  have HF := hid hfew
  have HOK := hid hok
  clear hq hb hlt hsz hinj hfew hmp hok hE
  go_enter Try.func22, Try.ntmps22
  go_wp2_with (first | (go_at_call 28; refine (memo28 _ _ _ _ _ _ _ _ rfl rfl _).mono ?_; rintro e w1 ⟨rfl, rfl⟩) | (at_range; refine wpList_rangeM rfl _ 42 rfl 9 43 Try.underlying42 Rb clock es rfl C0.out.mp (w.heap.size + 1 + 1 + 1 + 1 + 1 + 1 + 1) (by simp) ?_; intro w0 hit0 hgr0 hsz0; have C1 := hid (And.intro (C0.out.keptAll (Kept.of_grownNone (ex := fun _ => False) hgr0) (fun _ h => h.elim)) hit0); clear hit0 hgr0 hsz0 C0 hmm))
  go_frame
  go_loopg [10, 11, 12] ((leftOf es #[]).size) (fun g _ _ _ wr => ∃ seen, g = (leftOf es seen).size ∧ Hid (Core E QB Rb X n L c pre pass es clock w (Vis es seen) wr ∧ wr.heap[w.heap.size + 1 + 1 + 1 + 1 + 1 + 1 + 1]? = some (.mapIter (some Rb) clock seen clock)))
  case atStart =>
    exact ⟨#[], rfl, hid ⟨C1.out.1, C1.out.2⟩⟩
  case round =>
    obtain ⟨seen, rfl, HI⟩ := hrel
    clear C1
    obtain ⟨fS, ⟨es2, clock2, hmp2, hok2⟩, hpart2⟩ := HI.out.1.sm
    have HS2 := hid (And.intro hmp2 (And.intro hok2 hpart2))
    clear hmp2 hok2 hpart2
    go_wp2_with (first
      | (at_next; refine wpList_nextB (fun i : Nat => Value.pointer (some ⟨X + i, 0, none⟩)) rfl (.tmp 20) rfl (w.heap.size + 1 + 1 + 1 + 1 + 1 + 1 + 1) Rb clock seen es _ rfl HI.out.2 HI.out.1.mp HOK.out (fun s v h => boxF_inv h) (by omega) (fun h0 => ?_) (fun e s i w' he hs hf hg hz hit hen => ?_)
         rotate_left
         have HLi := hid (boxF_at hf)
         have hin : i < n := HL.out.1 s i HLi.out
         have C2 := hid (HI.out.1.keptAll (Kept.of_grown (ex := fun k => k = w.heap.size + 1 + 1 + 1 + 1 + 1 + 1 + 1) hg rfl) (fun k hk => by omega))
         have cb := (C2.out.env.bx i hin).cell (i := 0) (by omega)
         have HIT := hid hit
         have HEN := hid (And.intro he hs)
         obtain ⟨r, hr⟩ : ∃ r, r = c i := ⟨_, rfl⟩
         rw [← hr] at cb
         have hrs : r.size ≤ 1048576 := by rw [hr]; exact HL.out.2.1 i hin
         have HR := hid hr
         have FC : Hid (Calls Try.prog 31 #[.pointer (some ⟨w.heap.size + 1 + 1 + 1 + 1, 0, none⟩), .string r] w' (FromPost E r (w.heap.size + 1 + 1 + 1) w')) := by
           obtain ⟨f, hf1, hf2⟩ := C2.out.memo
           rw [HE.out] at hf2 ⊢
           exact from31 r _ _ _ _ _ QB Rb X n L c pre pass ix f w' hrs hn C2.out.env HF.out C2.out.row hf1 hf2
         clear hf hg hz hit he hs hr
         rotate_left)
      | (go_at_call 31; refine FC.out.mono ?_; rintro e2 w2 ⟨rfl, hk2, hm2⟩; have C3 := hid (C2.out.memoTo hk2 hm2); have HIT2 := hid ((hk2.block (w.heap.size + 1 + 1 + 1 + 1 + 1 + 1 + 1) (Array.getElem?_eq_some_iff.1 HIT.out).1 (by omega)).trans HIT.out); have cb2 := (C3.out.env.bx i hin).cell (i := 0) (by omega); rw [← HR.out] at cb2; clear hk2 hm2 cb FC C2 HIT)
      | (at_range; refine wpList_rangeM rfl _ 34 rfl 9 9 Try.underlying34 (w.heap.size + 1 + 1 + 1 + 1 + 1 + 1) clock2 es2 rfl HS2.out.1 wr.heap.size rfl ?_; intro w5 hit5 hgr5 hsz5; have Q0 := hid (lp2_start HI.out.1 HOK.out h0 HS2.out.1 hit5 hgr5); clear hit5 hgr5 hsz5))
    · have hf2 : ∀ s, fS s = newS E L c s := part_all HS2.out.2.2 (fun s hs => by
        unfold newS
        cases hL : L s with
        | none => rfl
        | some i => exact absurd (vis_all HOK.out h0 (s := s) (v := .pointer (some ⟨X + i, 0, none⟩)) (by unfold boxF; rw [hL]; rfl)) hs)
      have HF2 := hid hf2
      have HS3 := hid HS2.out.2.1
      obtain ⟨It, hIt⟩ : ∃ It, It = wr.heap.size := ⟨_, rfl⟩
      rw [← hIt] at Q0 ⊢
      clear hf2 HS2 HI hIt h0
      go_frame
      go_loopg [13, 14] ((leftOf es2 #[]).size) (fun g _ _ wq => ∃ seen, g = (leftOf es2 seen).size ∧ Hid (Lp2 E Rb X n It L c es2 clock2 w seen wq))
      case atStart => exact ⟨#[], rfl, Q0⟩
      case round =>
        obtain ⟨seen, rfl, HQ⟩ := hrel
        have hbig := HQ.out.big
        clear Q0
        go_wp2_with (first
          | (at_next; refine wpList_nextB (fun b : ByteArray => Value.string b) rfl (.tmp 55) rfl It (w.heap.size + 1 + 1 + 1 + 1 + 1 + 1) clock2 seen es2 fS rfl HQ.out.it HQ.out.ms HS3.out (fun s v h => by rw [HF2.out] at h; obtain ⟨i, _, _, hv⟩ := newS_inv h; exact ⟨_, hv⟩) (by omega) (fun h0 => ?_) (fun e s b w6 he hs hf hg hz hit hen => ?_)
             rotate_left
             rw [HF2.out] at hf
             obtain ⟨i, hLi, hci, hbv⟩ := newS_inv hf
             have hin : i < n := HL.out.1 s i hLi
             have H2 := hid (HQ.out.next hg)
             have HST := hid (HQ.out.store HL.out.1 HL.out.2.2 hRX HS3.out hg (mem_left he).1 hs hLi hit)
             have HEE := hid he
             have HLI : Hid (boxF L X s = some (.pointer (some ⟨X + i, 0, none⟩))) := by unfold boxF; rw [hLi]; rfl
             have rb := H2.out.1.cell (i := 0) (by omega)
             obtain ⟨vv, hvv⟩ := H2.out.2.2 s i hLi hin
             have bb := hvv.cell (i := 0) (by omega)
             have bf := hvv.frozen 0
             obtain rfl : b = E (c i) := by cases hbv; rfl
             clear hf hg hz hit he hs hvv hbv hci hLi
             rotate_left)
          | (at_lookup; refine wpList_look rfl _ _ 42 false rfl 9 43 Try.underlying42 Try.underlying9 (.pointer none) zero43 Rb _ s _ rfl rfl H2.out.2.1 HLI.out ?_))
        · go_ret
          exact HQ.out.done HS3.out HF2.out (by assumption)
        · go_roundg ((leftOf es2 (seen.push e.born)).size)
          case measure => exact left_shrinks es2 seen e HEE.out
          case rel => exact ⟨seen.push e.born, rfl, HST⟩
    · go_roundg ((leftOf es (seen.push e.born)).size)
      case measure => exact left_shrinks es seen e HEN.out.1
      case rel => exact ⟨seen.push e.born, rfl, hid ⟨C2.out.skip HLi.out HR.out (chg_no1 ‹_›) (vis_push HOK.out (mem_left HEN.out.1).1 HEN.out.2), HIT.out⟩⟩
    · go_roundg ((leftOf es (seen.push e.born)).size)
      case measure => exact left_shrinks es seen e HEN.out.1
      case rel => exact ⟨seen.push e.born, rfl, hid ⟨C3.out.skip HLi.out HR.out (chg_no2 ‹_›) (vis_push HOK.out (mem_left HEN.out.1).1 HEN.out.2), HIT2.out⟩⟩
    · have hcy : chg E r = true := chg_yes (by assumption) (by assumption)
      obtain ⟨ck, q1, q2, q3, e1, e2, e3, e4, C4, K4⟩ := C3.out.write (V' := Vis es (seen.push e.born)) HLi.out HR.out hcy (vis_push HOK.out (mem_left HEN.out.1).1 HEN.out.2) (not_vis HOK.out HEN.out.1 HEN.out.2)
      rw [cb2] at e4
      have HC4 := hid C4
      have HIT4 := hid ((K4.block (w.heap.size + 1 + 1 + 1 + 1 + 1 + 1 + 1) (Array.getElem?_eq_some_iff.1 HIT2.out).1 (by omega)).trans HIT2.out)
      clear C4 K4 hcy
      go_region
      go_wp2
      go_roundg ((leftOf es (seen.push e.born)).size)
      case measure => exact left_shrinks es seen e HEN.out.1
      case rel => exact ⟨seen.push e.born, rfl, hid ⟨HC4.out, HIT4.out⟩⟩
    · go_roundg ((leftOf es (seen.push e.born)).size)
      case measure => exact left_shrinks es seen e HEN.out.1
      case rel => exact ⟨seen.push e.born, rfl, hid ⟨C3.out.skip HLi.out HR.out (chg_no3 ‹_›) (vis_push HOK.out (mem_left HEN.out.1).1 HEN.out.2), HIT2.out⟩⟩
end Go.Proofs.Qxb6609196a
