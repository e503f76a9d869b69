import Derived.Test.Qxb6603900aSplitC
import Derived.Test.Qxb6603900aBytes
namespace Go.Proofs.Qxb6603900a
open Go.ChangeShapes Go.WideShapes Go.ChangeAt Go.RowKit
set_option linter.unusedSimpArgs false
set_option linter.unusedVariables false

abbrev Bare := List Value × List (List Value)

theorem totTo_cnt (E : List PtV) : ∀ k, k ≤ E.length → totTo E k + cnt ((E.map PtV.bare).drop k) = cnt (E.map PtV.bare)
  | 0, _ => by simp [totTo]
  | k + 1, h => by
    have ih := totTo_cnt E k (by omega)
    have hx : E[k]? = some E[k] := List.getElem?_eq_getElem (by omega)
    have hx' : (E.map PtV.bare)[k]? = some (E[k]).bare := by rw [List.getElem?_map, hx]; rfl
    rw [cnt_drop hx'] at ih
    rw [totTo_succ hx]
    have : (E[k]).bare.2.length = (E[k]).hs.length := rfl
    omega
theorem totTo_all (E : List PtV) : totTo E E.length = cnt (E.map PtV.bare) := by
  have := totTo_cnt E E.length (Nat.le_refl _)
  rw [List.drop_eq_nil_of_le (by simp)] at this
  simpa [cnt] using this

/-- Part number j, with the pointers l, lies in the row at block g. -/
def PMem (w : World) (H : Hd) (vh pj : Value) (ptj : Int) (l : List Bare) (g j : Nat) : Prop :=
  ∃ (A : Option Addr) (C : Nat) (F : List PtV), w.rangeAt g (j * 92) (mc H vh pj (.slice A F.length C) ptj) ∧ RowAt w A F ∧ (∀ y ∈ F, PtC y ∧ IdsAt w y.a y.hs) ∧ F.map PtV.bare = l

theorem PMem.below {w w' : World} {H : Hd} (c : HdC H) {vh pj : Value} {ptj : Int} {l : List Bare} {g j : Nat} (h : PMem w H vh pj ptj l g j) (hb : Below w.heap.size w w') : PMem w' H vh pj ptj l g j := by
  obtain ⟨A, C, F, h1, h2, h3, h4⟩ := h
  exact ⟨A, C, F, range_below hb (range_lt h1 (by rw [mc_len c]; omega)) h1, h2.below (fun y hy => (h3 y hy).1) hb, fun y hy => ⟨(h3 y hy).1, (h3 y hy).2.below (h3 y hy).1.hs hb⟩, h4⟩

/-- Which parts there are. -/
def SplitCase (kd n : Int) (L : List Bare) (M : Nat) (PL : List (List Bare)) : Prop :=
  ((¬ (kd = 9 ∨ kd = 10 ∨ kd = 11) ∨ min n (cnt L : Int) < 2) ∧ M = 1 ∧ PL = [L]) ∨
  ((kd = 9 ∨ kd = 10 ∨ kd = 11) ∧ (M : Int) = min n (cnt L : Int) ∧ 2 ≤ M ∧ PL = (List.range M).map (part L (cnt L) M))

theorem split_any (H : Hd) (c : HdC H) (vh vp : Value) (oh : vh.oneCell' = true) (op : vp.oneCell' = true) (aq : Option Addr) (cq : Nat) (E : List PtV) (pt n : Int) (w : World)
    (hrow : RowAt w aq E) (hE : ∀ y ∈ E, PtC y ∧ IdsAt w y.a y.hs ∧ y.hs.length ≤ y.cap) (lE : (E.length : Int) ≤ 65536) (ht : (cnt (E.map PtV.bare) : Int) ≤ 32768) (hn1 : -9223372036854775808 ≤ n) (hn2 : n ≤ 9223372036854775807) :
    Calls Try.prog 11 #[.agg (mc H vh vp (.slice aq E.length cq) pt).toArray, .int .i64 n] w fun e w' => ∃ g M PL, e = .returned (.slice (some ⟨g, 0, none⟩) M M) ∧ Below w.heap.size w w' ∧ PL.length = M ∧ SplitCase H.kd n (E.map PtV.bare) M PL ∧
      ∀ j l, PL[j]? = some l → PMem w' H vh (if j = 0 then vp else .slice none 0 0) (if 2 ≤ M ∧ H.kd = 9 then (M : Int) else pt) l g j := by
  have hone : ∀ {g : Nat} {w' : World}, Below w.heap.size w w' → w'.rangeAt g 0 (mc H vh vp (.slice aq E.length cq) pt) → ∀ j l, ([E.map PtV.bare] : List (List Bare))[j]? = some l → PMem w' H vh (if j = 0 then vp else .slice none 0 0) (if 2 ≤ 1 ∧ H.kd = 9 then ((1 : Nat) : Int) else pt) l g j := by
    intro g w' hb hr j l hj
    have h0 : j = 0 := by have := (List.getElem?_eq_some_iff.1 hj).1; simpa using this
    subst h0
    obtain rfl : E.map PtV.bare = l := by simpa using hj
    refine ⟨aq, cq, E, ?_, hrow.below (fun y hy => (hE y hy).1) hb, fun y hy => ⟨(hE y hy).1, (hE y hy).2.1.below (hE y hy).1.hs hb⟩, rfl⟩
    rw [if_pos rfl, if_neg (by omega), Nat.zero_mul]
    exact hr
  by_cases hk : H.kd = 9 ∨ H.kd = 10 ∨ H.kd = 11
  · by_cases hf : min n (cnt (E.map PtV.bare) : Int) < 2
    · refine (split_few H c vh vp aq cq E pt n w hk hrow (fun y hy => (hE y hy).1) lE (by rw [totTo_all]; exact ht) hn1 hn2 (by rw [totTo_all]; omega)).mono ?_
      rintro e w' ⟨g, rfl, hb, hr⟩
      exact ⟨g, 1, [E.map PtV.bare], rfl, hb, rfl, Or.inl ⟨Or.inr hf, rfl, rfl⟩, hone hb hr⟩
    · obtain ⟨N, hN⟩ : ∃ N : Nat, min n (cnt (E.map PtV.bare) : Int) = (N : Int) := ⟨(min n (cnt (E.map PtV.bare) : Int)).toNat, by omega⟩
      refine (split_many H c vh vp oh op aq cq E pt n w hk hrow (fun y hy => (hE y hy).1) (fun y hy => (hE y hy).2) lE (by rw [totTo_all]; exact ht) hn1 hn2 N (by rw [totTo_all]; exact hN) (by omega) (totTo_all E)).mono ?_
      rintro e w' ⟨g, rfl, hb, hr⟩
      refine ⟨g, N, (List.range N).map (part (E.map PtV.bare) (cnt (E.map PtV.bare)) N), rfl, hb, by simp, Or.inr ⟨hk, hN.symm, by omega, rfl⟩, fun j l hj => ?_⟩
      have hjN : j < N := by have := (List.getElem?_eq_some_iff.1 hj).1; simpa using this
      have hl : part (E.map PtV.bare) (cnt (E.map PtV.bare)) N j = l := by
        rw [List.getElem?_map, List.getElem?_range hjN] at hj
        simpa using hj
      obtain ⟨A, C, F, h1, h2, h3, h4, h5⟩ := hr j hjN
      refine ⟨A, C, F, ?_, h2, fun y hy => ⟨(h4 y hy).1, (h4 y hy).2.below (h4 y hy).1.hs hb⟩, h5.trans hl⟩
      have e1 : (if 2 ≤ N ∧ H.kd = 9 then (N : Int) else pt) = (if H.kd = 9 then (N : Int) else pt) := by
        have : 2 ≤ N := by omega
        simp [this]
      rw [e1]
      exact h1
  · refine (split_kind H c vh vp (.slice aq E.length cq) pt n w (fun h => hk (Or.inl h)) (fun h => hk (Or.inr (Or.inl h))) (fun h => hk (Or.inr (Or.inr h)))).mono ?_
    rintro e w' ⟨g, rfl, hb, hr⟩
    exact ⟨g, 1, [E.map PtV.bare], rfl, hb, rfl, Or.inl ⟨Or.inl hk, rfl, rfl⟩, hone hb hr⟩

/-- The message of type 27 as it comes in. -/
structure MsgIn (w : World) (H : Hd) (ah ap aq : Option Addr) (HL PL : List (List Value)) (PS : List PtV) : Prop where
  hd : HdC H
  hH : IdsAt w ah HL
  cH : ∀ cs ∈ HL, IdC cs
  mH : HL.length ≤ maxLen
  hP : IdsAt w ap PL
  cP : ∀ cs ∈ PL, IdC cs
  mP : PL.length ≤ maxLen
  hQ : RowAt w aq PS
  cQ : ∀ x ∈ PS, PtC x ∧ IdsAt w x.a x.hs ∧ x.hs.length ≤ maxLen
  mQ : PS.length ≤ maxLen

theorem MsgIn.below {w w' : World} {H : Hd} {ah ap aq : Option Addr} {HL PL : List (List Value)} {PS : List PtV} (m : MsgIn w H ah ap aq HL PL PS) (hb : Below w.heap.size w w') : MsgIn w' H ah ap aq HL PL PS :=
  ⟨m.hd, m.hH.below m.cH hb, m.cH, m.mH, m.hP.below m.cP hb, m.cP, m.mP, m.hQ.below (fun x hx => (m.cQ x hx).1) hb, fun x hx => ⟨(m.cQ x hx).1, (m.cQ x hx).2.1.below (m.cQ x hx).1.hs hb, (m.cQ x hx).2.2⟩, m.mQ⟩
end Go.Proofs.Qxb6603900a
