import Derived.Test.Qxb6603900aDeal
namespace Go.Proofs.Qxb6603900a

/-! THE HOLDERS IN THEIR ORDER, each with its key: no Go in sight. -/
section
variable {α β : Type}

def flat (l : List (α × List β)) : List (α × β) := l.flatMap fun x => x.2.map fun h => (x.1, h)

theorem flat_nil : flat ([] : List (α × List β)) = [] := rfl
theorem flat_cons (x : α × List β) (r : List (α × List β)) : flat (x :: r) = (x.2.map fun h => (x.1, h)) ++ flat r := by simp [flat]
theorem flat_append (a b : List (α × List β)) : flat (a ++ b) = flat a ++ flat b := by simp [flat]
theorem flat_len : ∀ (l : List (α × List β)), (flat l).length = cnt l
  | [] => rfl
  | x :: r => by rw [flat_cons, List.length_append, flat_len r]; simp [cnt]

theorem flat_deal : ∀ (l : List (α × List β)) (q : Nat), flat (deal l q).1 ++ flat (deal l q).2 = flat l
  | [], q => by simp [deal, flat]
  | x :: r, q => by
    by_cases h0 : q = 0
    · subst h0; rw [deal_zero]; simp [flat]
    · by_cases h1 : x.2.length ≤ q
      · rw [deal_whole (by omega) h1, flat_cons, List.append_assoc, flat_deal r, flat_cons]
      · rw [deal_part (by omega) (by omega), flat_cons, flat_nil, List.append_nil, flat_cons, flat_cons, ← List.append_assoc, ← List.map_append, List.take_append_drop]

theorem flat_parts_to (L : List (α × List β)) (T N : Nat) : ∀ i, flat ((List.range i).map (part L T N)).flatten ++ flat (left L T N i) = flat L
  | 0 => by simp [flat, left]
  | i + 1 => by
    have ih := flat_parts_to L T N i
    rw [List.range_succ, List.map_append, List.flatten_append, flat_append, List.append_assoc]
    have : flat ([i].map (part L T N)).flatten ++ flat (left L T N (i + 1)) = flat (left L T N i) := by
      have h := flat_deal (left L T N i) (ends T N (i + 1) - ends T N i)
      simpa [part, left] using h
    rw [this, ih]

theorem flat_parts (L : List (α × List β)) {N : Nat} (hN : 0 < N) : flat ((List.range N).map (part L (cnt L) N)).flatten = flat L := by
  have h := flat_parts_to L (cnt L) N N
  have h1 := cnt_left (L := L) hN N (Nat.le_refl _)
  rw [ends_last hN] at h1
  have h2 : flat (left L (cnt L) N N) = [] := List.eq_nil_of_length_eq_zero (by rw [flat_len]; omega)
  rwa [h2, List.append_nil] at h

/-! ### a cursor: holder h of pointer p is holder c of all -/
structure Cur (L : List (α × List β)) (p h c : Nat) : Prop where
  ple : p ≤ L.length
  sum : cnt (L.take p) + h = c
  hle : ∀ x, L[p]? = some x → h ≤ x.2.length
  hz : p = L.length → h = 0

theorem cnt_append (a b : List (α × List β)) : cnt (a ++ b) = cnt a + cnt b := by
  induction a with
  | nil => simp [cnt]
  | cons x r ih => simp only [List.cons_append, cnt, ih]; omega
theorem cnt_take_succ {L : List (α × List β)} {p : Nat} {x : α × List β} (hx : L[p]? = some x) : cnt (L.take (p + 1)) = cnt (L.take p) + x.2.length := by
  rw [List.take_add_one, hx, cnt_append]; simp [cnt]

theorem Cur.start (L : List (α × List β)) : Cur L 0 0 0 := ⟨Nat.zero_le _, by simp [cnt], fun _ _ => Nat.zero_le _, fun _ => rfl⟩
theorem Cur.skip {L : List (α × List β)} {p h c : Nat} {x : α × List β} (k : Cur L p h c) (hx : L[p]? = some x) (hh : h = x.2.length) : Cur L (p + 1) 0 c := by
  refine ⟨(List.getElem?_eq_some_iff.1 hx).1, ?_, fun _ _ => Nat.zero_le _, fun _ => rfl⟩
  rw [cnt_take_succ hx, ← hh]
  exact k.sum
theorem Cur.step {L : List (α × List β)} {p h c : Nat} {x : α × List β} (k : Cur L p h c) (hx : L[p]? = some x) (hh : h < x.2.length) : Cur L p (h + 1) (c + 1) := by
  refine ⟨k.ple, by rw [← Nat.add_assoc, k.sum], fun y hy => by rw [hx] at hy; cases hy; exact hh, fun hp => ?_⟩
  have := (List.getElem?_eq_some_iff.1 hx).1
  omega
theorem Cur.within {L : List (α × List β)} {p h c : Nat} (k : Cur L p h c) (hc : c < cnt L) : p < L.length := by
  rcases Nat.lt_or_ge p L.length with h1 | h1
  · exact h1
  · have hp : p = L.length := by have := k.ple; omega
    have h2 := k.sum
    rw [k.hz hp, hp, List.take_length] at h2
    omega
theorem Cur.get {L : List (α × List β)} {p h c : Nat} {x : α × List β} {y : β} (k : Cur L p h c) (hx : L[p]? = some x) (hy : x.2[h]? = some y) : (flat L)[c]? = some (x.1, y) := by
  have hp := (List.getElem?_eq_some_iff.1 hx).1
  have hxe : L[p] = x := by simpa [List.getElem?_eq_getElem hp] using hx
  have hL : L = L.take p ++ x :: L.drop (p + 1) := by
    rw [← hxe, ← List.drop_eq_getElem_cons hp, List.take_append_drop]
  have hh := (List.getElem?_eq_some_iff.1 hy).1
  rw [← k.sum]
  have hF : flat L = flat (L.take p) ++ ((x.2.map fun h => (x.1, h)) ++ flat (L.drop (p + 1))) := by
    conv => lhs; rw [hL]
    rw [flat_append, flat_cons]
  rw [hF, List.getElem?_append_right (by rw [flat_len]; exact Nat.le_add_right _ _), flat_len, Nat.add_sub_cancel_left,
    List.getElem?_append_left (by simpa using hh), List.getElem?_map, hy]
  rfl

theorem drop_head {γ : Type} {l : List γ} {c : Nat} {a : γ} {r : List γ} (h : l.drop c = a :: r) : l[c]? = some a ∧ l.drop (c + 1) = r ∧ c < l.length := by
  have h1 : l[c]? = some a := by
    have := congrArg (fun z => z[0]?) h
    simpa [List.getElem?_drop] using this
  refine ⟨h1, ?_, (List.getElem?_eq_some_iff.1 h1).1⟩
  rw [← List.drop_drop, h]
  rfl
end
end Go.Proofs.Qxb6603900a
