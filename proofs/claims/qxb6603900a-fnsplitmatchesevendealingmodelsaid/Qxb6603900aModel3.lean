import Derived.Test.Qxb6603900aHead
import Derived.Test.Qxb6603900aRejoin
namespace Go.Proofs.Qxb6603900a
open Go.ChangeShapes Go.WideShapes Go.ChangeAt Go.RowKit
set_option linter.unusedSimpArgs false
set_option linter.unusedVariables false

theorem ends_lt {T N i : Nat} (hN : 0 < N) (hNT : N ≤ T) : ends T N i < ends T N (i + 1) := by
  have h1 := ends_even (T := T) (N := N) (i := i) hN
  have h2 : 1 ≤ T / N := (Nat.le_div_iff_mul_le hN).2 (by omega)
  omega
theorem ends_full {T N i : Nat} (hN : 0 < N) (hNT : N ≤ T) (hi : i < N) (h : T ≤ ends T N (i + 1)) : i + 1 = N := by
  rcases Nat.lt_or_ge (i + 1) N with h1 | h1
  · have h2 := ends_lt (T := T) (N := N) (i := i + 1) hN hNT
    have h3 := ends_le (total := T) (n := N) (i := i + 1 + 1) hN h1
    omega
  · omega

/-- How many pointers the model has placed in part j. -/
def usedN (L : List Bare) (T N i u j : Nat) : Nat := if j < i then (part L T N j).length else if j = i then u else 0
theorem usedN_next {L : List Bare} {T N i u : Nat} (hu : u = (part L T N i).length) (j : Nat) : usedN L T N i u j = usedN L T N (i + 1) 0 j := by
  unfold usedN
  rcases Nat.lt_trichotomy j i with h | h | h
  · rw [if_pos h, if_pos (by omega)]
  · subst h; rw [if_neg (by omega), if_pos rfl, if_pos (by omega), hu]
  · rw [if_neg (by omega), if_neg (by omega)]; split <;> first | omega | (split <;> rfl)
theorem usedN_self (L : List Bare) (T N i u : Nat) : usedN L T N i u i = u := by unfold usedN; rw [if_neg (by omega), if_pos rfl]
theorem usedN_other {L : List Bare} {T N i u v j : Nat} (h : j ≠ i) : usedN L T N i u j = usedN L T N i v j := by
  unfold usedN
  rw [if_neg h, if_neg h]

/-- The model goes to the next part. -/
theorem St.next {L : List Bare} {T N i p h d : Nat} {F : List PtV} (s : St L T N i p h d F) (hT : T ≤ 32768) (hl : L.length ≤ 65536) (hi : i + 1 < N) (hd : ends T N (i + 1) ≤ d) : St L T N (i + 1) p h d [] ∧ F.length = (part L T N i).length := by
  obtain ⟨h1, h2, h3⟩ := s.done (by omega)
  have hs := s.sum
  refine ⟨?_, by rw [← h2]; simp⟩
  rw [h1] at hs ⊢
  exact St.new hT hl (by omega) hi h3 hs s.hle s.ple
/-- The piece that is placed. -/
theorem St.piece {L : List Bare} {T N i p h d : Nat} {F : List PtV} {y : PtV} (s : St L T N i p h d (F ++ [y])) : (part L T N i)[F.length]? = some y.bare := by
  have := s.out
  rw [← this, List.map_append, List.append_assoc, List.getElem?_append_right (by simp)]
  simp
/-- Nothing is left: all is placed. -/
theorem St.over {L : List Bare} {T N i p h d : Nat} {F : List PtV} (s : St L T N i p h d F) (hN : 0 < N) (hNT : N ≤ T) (hi : i < N) (hd : T ≤ d) : i + 1 = N ∧ F.length = (part L T N i).length ∧ d = T := by
  have h1 := s.dle
  have h2 := ends_le (total := T) (n := N) (i := i + 1) hN hi
  obtain ⟨_, h4, _⟩ := s.done (by omega)
  exact ⟨ends_full hN hNT hi (by omega), by rw [← h4]; simp, by omega⟩
theorem St.start {L : List Bare} {N : Nat} (hT : cnt L ≤ 32768) (hl : L.length ≤ 65536) (hN : 0 < N) : St L (cnt L) N 0 0 0 0 [] := by
  have := St.new (L := L) (T := cnt L) (N := N) (i := 0) (p := 0) (h := 0) hT hl hN hN (by rw [remPH_zero]; rfl) (by rw [remPH_zero, ends_zero]; rfl) (fun _ _ => Nat.zero_le _) (Nat.zero_le _)
  rwa [ends_zero] at this
end Go.Proofs.Qxb6603900a
