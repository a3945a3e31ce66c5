import Derived.Test.Qxb6604527aC
namespace Go.Proofs.Qxb6604527a
open Go.RowKit

theorem rowIs_setCells {b : Nat} {t : TypeId} {n : Nat} : ∀ (vs : List Value) (o : Nat) (w : World) (f : Nat → Value), w.rowIs b t n f →
    (w.setCells b o vs).rowIs b t n (fun j => if o ≤ j ∧ j < o + vs.length then vs.getD (j - o) (.bool false) else f j)
  | [], o, _, f, h => h.congr fun j _ => by rw [if_neg (by rw [List.length_nil]; omega)]
  | v :: vs, o, _, f, h => by
    refine (rowIs_setCells vs (o + 1) _ _ (h.set o v)).congr fun j _ => ?_
    by_cases h1 : j = o
    · subst h1
      rw [if_neg (by omega), if_pos rfl, if_pos (by simp)]; simp
    · by_cases h2 : o + 1 ≤ j ∧ j < o + 1 + vs.length
      · rw [if_pos h2, if_pos (by simp; omega)]
        obtain ⟨d, rfl⟩ : ∃ d, j = o + 1 + d := ⟨j - (o + 1), by omega⟩
        have e1 : o + 1 + d - (o + 1) = d := by omega
        have e2 : o + 1 + d - o = d + 1 := by omega
        rw [e1, e2]; simp
      · rw [if_neg h2, if_neg h1, if_neg (by simp; omega)]

theorem below_setCells {B b : Nat} (hB : B ≤ b) : ∀ (vs : List Value) (o : Nat) (a w : World), Below B a w → Below B a (w.setCells b o vs)
  | [], _, _, _, h => h
  | v :: vs, o, a, _, h => below_setCells hB vs (o + 1) a _ (h.setCell hB v)

/-- the data row -/
def rwF (xs : List Int) (j : Nat) : Value := .int .u8 (xs.getD j 0)
def nums (xs : List Int) : List Value := xs.map (Value.int .u8)
theorem nums_len (xs : List Int) : (nums xs).length = xs.length := by simp [nums]

theorem rwF_app {w : World} {b n : Nat} (xs ys : List Int) (h : w.rowIs b 5 n (rwF xs)) : (w.setCells b xs.length (nums ys)).rowIs b 5 n (rwF (xs ++ ys)) := by
  refine (rowIs_setCells (nums ys) xs.length w _ h).congr fun j _ => ?_
  rw [nums_len]
  unfold rwF
  by_cases h1 : xs.length ≤ j ∧ j < xs.length + ys.length
  · rw [if_pos h1]
    obtain ⟨d, rfl⟩ : ∃ d, j = xs.length + d := ⟨j - xs.length, by omega⟩
    have hd : d < ys.length := by omega
    simp [nums, List.getD_eq_getElem?_getD, hd]
  · rw [if_neg h1]
    by_cases h2 : j < xs.length
    · simp [List.getD_eq_getElem?_getD, List.getElem?_append_left h2]
    · simp only [List.getD_eq_getElem?_getD]
      rw [List.getElem?_eq_none (by omega), List.getElem?_eq_none (by simp; omega)]

theorem src_of {w : World} {a : Option Addr} {n c : Nat} {xs : List Int} (h : Sl w a n xs) : Src Try.prog 1 22 (.slice a n c) n (nums xs) w := by
  by_cases hp : 0 < n
  · obtain ⟨b, off, rfl, hlt, hc⟩ := h.2.2 hp
    refine Src.ofSlice w Try.underlying22 ⟨b, off, none⟩ n c (nums xs) (by rw [nums_len, h.1, Nat.mul_one]) ?_ ?_
    · intro j u hj
      have hj' : j < xs.length := by have := (List.getElem?_eq_some_iff.1 hj).1; simpa [nums] using this
      rw [Go.WideShapes.add_plain, hc j (by have := h.1; omega)]
      simp only [nums, List.getElem?_map, List.getElem?_eq_getElem hj', Option.map_some, Option.some.injEq] at hj
      rw [← hj, List.getD_eq_getElem?_getD, List.getElem?_eq_getElem hj']; rfl
    · intro u hu
      obtain ⟨_, _, rfl⟩ := List.mem_map.1 hu
      rfl
  · have hn : n = 0 := by omega
    subst hn
    have hx : xs = [] := List.length_eq_zero_iff.1 h.1
    subst hx
    cases a with
    | none => exact Src.ofNil w Try.underlying22 c
    | some x => exact Src.ofSlice w Try.underlying22 x 0 c [] (by simp) (fun j u hj => by simp at hj) (fun u hu => by cases hu)

theorem wpList_app {w : World} {ops : Array Oper} {rest : List Oper} {o : Oper} {a : Act} {Q : Exit → Act → World → Prop} (hgd : o.guard = none) (s x : Operand)
    (ho : o.op = .call { callee := .builtin .append, args := #[s, x], argTypes := #[22, 22] })
    (D L n m k : Nat) (xs ys : List Int) (v : Value) (hs : a.eval s = .slice (some ⟨D, 0, none⟩) n L) (hx : a.eval x = v) (hn : xs.length = n) (hrow : w.rowIs D 5 L (rwF xs)) (hsrc : Src Try.prog 1 22 v m (nums ys) w) (hroom : n + m ≤ L) (hk : n + m = k)
    (h : ∀ w', w'.rowIs D 5 L (rwF (xs ++ ys)) → (xs ++ ys).length = k → Below D w w' → wpList Try.prog ops Q rest (a.put o.dst (.slice (some ⟨D, 0, none⟩) k L)) w') : wpList Try.prog ops Q (o :: rest) a w := by
  have hm : ys.length = m := by have := hsrc.newsLen; rw [nums_len, Nat.mul_one] at this; exact this
  subst hn; subst hk
  refine wpList_plain hgd fun K hK => ?_
  obtain ⟨i, hi, hz⟩ := Option.map_eq_some_iff.1 Try.info5
  simp only [Prod.mk.injEq] at hz
  obtain ⟨hz0, hz1, hz2⟩ := hz
  have hr := run_append_room_src (P := Try.prog) w 22 22 o.type 5 i Try.underlying22 hi D 0 xs.length L v m (nums ys) (by rw [hz1]; exact hsrc) hroom
    (fun j hj => by rw [hz1, Nat.zero_add, Nat.mul_one, hrow.cell (by rw [nums_len] at hj; omega)]; rfl)
    (fun j hj => by rw [hz1, Nat.zero_add, Nat.mul_one]; exact hrow.frozen _)
  rw [hz1, Nat.mul_one, Nat.zero_add] at hr
  unfold Oper.wp execOp
  simp only [ho, resolve, invoke, builtin, Sem.run_bind, Sem.run_pure, Result.andThen_ok, List.map_toArray, List.map_cons, List.map_nil, hs, hx, hr]
  exact hK _ _ (h _ (rwF_app xs ys hrow) (by rw [List.length_append, hm]) (below_setCells (Nat.le_refl _) _ _ _ _ (Below.refl _ _)))
end Go.Proofs.Qxb6604527a
