import Derived.Test.Qxb6603900aSplitA
namespace Go.Proofs.Qxb6603900a
open Go.ChangeShapes Go.WideShapes Go.ChangeAt Go.RowKit
set_option linter.unusedSimpArgs false
set_option linter.unusedVariables false

/-- THE DEALER, between two pointers of part number i: F is what part i has got so far. -/
structure St (L : List (List Value × List (List Value))) (T N i p h d : Nat) (F : List PtV) : Prop where
  dle : d ≤ ends T N (i + 1)
  out : F.map PtV.bare ++ (deal (remPH L p h) (ends T N (i + 1) - d)).1 = part L T N i
  rest : (deal (remPH L p h) (ends T N (i + 1) - d)).2 = left L T N (i + 1)
  sum : cnt (remPH L p h) + d = T
  hle : ∀ x, L[p]? = some x → h ≤ x.2.length
  ple : p ≤ L.length
  few : F.length + (ends T N (i + 1) - d) + (L.length - p) ≤ 98304

theorem St.there {L : List (List Value × List (List Value))} {T N i p h d : Nat} {F : List PtV} (s : St L T N i p h d F) (hN : 0 < N) (hi : i < N) (hd : d < ends T N (i + 1)) : p < L.length := by
  rcases Nat.lt_or_ge p L.length with h1 | h1
  · exact h1
  · have h2 := s.sum
    rw [remPH_none h1] at h2
    have := ends_le (total := T) hN (show i + 1 ≤ N from hi)
    simp only [cnt] at h2
    omega

theorem St.whole {L : List (List Value × List (List Value))} {T N i p h d : Nat} {F : List PtV} (s : St L T N i p h d F) (hd : d < ends T N (i + 1)) {x : List Value × List (List Value)} (hx : L[p]? = some x)
    (hs : x.2.length - h ≤ ends T N (i + 1) - d) {y : PtV} (hy : y.bare = (x.1, (x.2.drop h).take (x.2.length - h))) : St L T N i (p + 1) 0 (d + (x.2.length - h)) (F ++ [y]) := by
  have h1 := (deal_step hx (s.hle x hx) (show 0 < ends T N (i + 1) - d by omega)).1 hs
  have hp := (List.getElem?_eq_some_iff.1 hx).1
  have e1 : ends T N (i + 1) - d - (x.2.length - h) = ends T N (i + 1) - (d + (x.2.length - h)) := by omega
  have hsum := s.sum
  rw [cnt_rem hx] at hsum
  have hfew := s.few
  refine ⟨by omega, ?_, ?_, ?_, fun _ _ => Nat.zero_le _, by omega, by simp only [List.length_append, List.length_cons, List.length_nil]; omega⟩
  · have := s.out
    rw [h1, e1] at this
    rw [List.map_append, List.map_cons, List.map_nil, hy, List.append_assoc]
    exact this
  · have := s.rest
    rw [h1, e1] at this
    exact this
  · rw [remPH_zero]; omega

theorem St.bit {L : List (List Value × List (List Value))} {T N i p h d : Nat} {F : List PtV} (s : St L T N i p h d F) (hd : d < ends T N (i + 1)) {x : List Value × List (List Value)} (hx : L[p]? = some x)
    (hs : ends T N (i + 1) - d < x.2.length - h) {y : PtV} (hy : y.bare = (x.1, (x.2.drop h).take (ends T N (i + 1) - d))) : St L T N i p (h + (ends T N (i + 1) - d)) (d + (ends T N (i + 1) - d)) (F ++ [y]) := by
  have h1 := (deal_step hx (s.hle x hx) (show 0 < ends T N (i + 1) - d by omega)).2 hs
  have hsum := s.sum
  rw [cnt_rem hx] at hsum
  have hfew := s.few
  have e1 : ends T N (i + 1) - (d + (ends T N (i + 1) - d)) = 0 := by omega
  refine ⟨by omega, ?_, ?_, ?_, fun z hz => ?_, s.ple, by simp only [List.length_append, List.length_cons, List.length_nil]; omega⟩
  · have := s.out
    rw [h1] at this
    rw [List.map_append, List.map_cons, List.map_nil, hy, List.append_assoc, e1]
    exact this
  · have := s.rest
    rw [h1] at this
    rw [e1]
    exact this
  · rw [cnt_rem hx]; omega
  · rw [hx] at hz; cases hz; omega

/-- A new part. -/
theorem St.new {L : List (List Value × List (List Value))} {T N i p h : Nat} (hT : T ≤ 32768) (hl : L.length ≤ 65536) (hN : 0 < N) (hi : i < N) (hleft : remPH L p h = left L T N i) (hsum : cnt (remPH L p h) + ends T N i = T)
    (hle : ∀ x, L[p]? = some x → h ≤ x.2.length) (ple : p ≤ L.length) : St L T N i p h (ends T N i) [] := by
  have := ends_le (total := T) hN (show i + 1 ≤ N from hi)
  refine ⟨ends_mono, ?_, ?_, hsum, hle, ple, by simp; omega⟩
  · rw [hleft]; rfl
  · rw [hleft]; rfl
/-- A part is done. -/
theorem St.done {L : List (List Value × List (List Value))} {T N i p h d : Nat} {F : List PtV} (s : St L T N i p h d F) (hd : ¬ d < ends T N (i + 1)) : d = ends T N (i + 1) ∧ F.map PtV.bare = part L T N i ∧ remPH L p h = left L T N (i + 1) := by
  have h1 := s.dle
  have h2 := s.out
  have h3 := s.rest
  rw [show ends T N (i + 1) - d = 0 from by omega, deal_zero] at h2 h3
  exact ⟨by omega, by simpa using h2, h3⟩

/-! ### one cell of a range turned -/
theorem range_set1 {w : World} {b : Nat} {cs : List Value} (hr : w.rangeAt b 0 cs) (ht : w.there b 0 cs.length) {j : Nat} (hj : j < cs.length) (v : Value) : (w.setCell ⟨b, j, none⟩ v).rangeAt b 0 (cs.set j v) := fun i u hu => by
  have hs : w.setCell ⟨b, j, none⟩ v = w.setCells b j [v] := rfl
  rw [hs]
  by_cases hij : i = j
  · subst hij
    rw [List.getElem?_set_self (by simpa using hj)] at hu
    obtain rfl : v = u := by simpa using hu
    have := World.rangeAt_setCells_same w b i [v] (fun k hk => by
      have : k = 0 := by simpa using hk
      subst this
      have := ht i hj
      rwa [Nat.zero_add] at this)
    have := this 0 v rfl
    rw [Nat.add_zero] at this
    rwa [Nat.zero_add]
  · rw [List.getElem?_set_ne (Ne.symm hij)] at hu
    have h1 : w.rangeAt b i [u] := fun k z hz => by
      have hk : k = 0 := by have := (List.getElem?_eq_some_iff.1 hz).1; simpa using this
      subst hk
      have := hr i u hu
      obtain rfl : u = z := by simpa using hz
      rwa [Nat.zero_add] at this
    have := World.rangeAt_setCells_apart h1 b j [v] (by simp; omega)
    have := this 0 u rfl
    rw [Nat.add_zero] at this
    rwa [Nat.zero_add]

/-! ### in a held region: a[h : h+k : h+k] -/
theorem hq_sub {ops : Array Oper} {Q : Exit → Act → World → Prop} {S : World → Prop} {t : List Oper} {o : Oper} {l : List (Oper × Bool)} {a : Act} {w : World} (x lo hi mx : Operand) (ho : o.op = .slice 34 x (some lo) (some hi) (some mx)) (hw : Region.wanted o (yielded ops a.tmps) = true)
    (ad : Option Addr) (n c h k : Nat) (hx : a.eval x = .slice ad n c) (hlo : a.eval lo = .int .i64 (h : Int)) (hhi : a.eval hi = .int .i64 ((h : Int) + (k : Int))) (hmx : a.eval mx = .int .i64 ((h : Int) + (k : Int))) (hk : h + k ≤ c)
    (hc : Hq Try.prog ops Q S t l (a.put o.dst (.slice (subA ad h k) k k)) w) : Hq Try.prog ops Q S t ((o, true) :: l) a w :=
  hq_take _ hw (fun w _ => by
    unfold execOp
    simp only [ho, hx, hlo, hhi, hmx, Option.map_some, Sem.run_bind, run_sub w ad n c h k hk, Result.andThen_ok, Sem.run_pure]) hc

theorem cnt_mem {L : List (List Value × List (List Value))} {p : Nat} {x : List Value × List (List Value)} (hx : L[p]? = some x) : x.2.length ≤ cnt L := by
  induction L generalizing p with
  | nil => simp at hx
  | cons y r ih =>
    cases p with
    | zero => simp at hx; subst hx; simp [cnt]
    | succ p => have := ih (p := p) (by simpa using hx); simp only [cnt]; omega

theorem owns_slice {w : World} {base : Nat} {e : TypeId} {size : Nat} {v : Value} {n : Nat} {xs : List Value} (h : w.ownsRow base e size v n xs) : v.oneCell' = true ∧ v.cells = #[v] := by
  obtain ⟨h1, h2⟩ := h
  rcases h2 with ⟨rfl, _⟩ | ⟨g, cap, cur, rfl, _⟩
  · exact ⟨rfl, rfl⟩
  · exact ⟨rfl, rfl⟩
theorem there_set1 {w : World} {b o n : Nat} (h : w.there b o n) (a : Nat) (j : Nat) (v : Value) : (w.setCell ⟨a, j, none⟩ v).there b o n :=
  World.there_setCells h a j [v]

/-! ### the parts in memory -/
/-- Part number j lies in the row at block g; its holders lie in the world w0. -/
def PartAt (w0 : World) (H : Hd) (vh vp : Value) (pt : Int) (L : List (List Value × List (List Value))) (T N g j : Nat) (w : World) : Prop :=
  ∃ (A : Option Addr) (C : Nat) (F : List PtV), w.rangeAt g (j * 92) (mc H vh (if j = 0 then vp else .slice none 0 0) (.slice A F.length C) (if H.kd = 9 then (N : Int) else pt)) ∧ RowAt w A F ∧ (∀ b o, A = some ⟨b, o, none⟩ → g < b) ∧
    (∀ y ∈ F, PtC y ∧ IdsAt w0 y.a y.hs) ∧ F.map PtV.bare = part L T N j

theorem PartAt.below {w0 : World} {H : Hd} {vh vp : Value} {pt : Int} {L : List (List Value × List (List Value))} {T N g j : Nat} {w w' : World} (h : PartAt w0 H vh vp pt L T N g j w) (hg : g < w.heap.size) (hb : Below w.heap.size w w') : PartAt w0 H vh vp pt L T N g j w' := by
  obtain ⟨A, C, F, h1, h2, h3, h4, h5⟩ := h
  exact ⟨A, C, F, range_below hb hg h1, h2.below (fun y hy => (h4 y hy).1) hb, h3, h4, h5⟩
theorem PartAt.set {w0 : World} {H : Hd} (c : HdC H) {vh vp : Value} {pt : Int} {L : List (List Value × List (List Value))} {T N g j i : Nat} {w : World} (h : PartAt w0 H vh vp pt L T N g j w) (hji : j < i) (vs : List Value) : PartAt w0 H vh vp pt L T N g j (w.setCells g (i * 92) vs) := by
  obtain ⟨A, C, F, h1, h2, h3, h4, h5⟩ := h
  refine ⟨A, C, F, World.rangeAt_setCells_apart h1 _ _ _ (Or.inr (Or.inl ?_)), row_set h2 (fun b o hb => by have := h3 b o hb; omega) _ _, h3, h4, h5⟩
  rw [mc_len c]; omega
end Go.Proofs.Qxb6603900a
