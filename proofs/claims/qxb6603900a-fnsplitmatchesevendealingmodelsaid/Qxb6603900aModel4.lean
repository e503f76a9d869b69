import Derived.Test.Qxb6603900aModel3
namespace Go.Proofs.Qxb6603900a
open Go.ChangeShapes Go.WideShapes Go.ChangeAt Go.RowKit
set_option linter.unusedSimpArgs false
set_option linter.unusedVariables false

/-- used[i]++ -/
theorem used_set {w : World} {L : List Bare} {T N i u gu : Nat} (hth : w.there gu 0 N) (hus : ∀ j, j < N → w.cell? ⟨gu, j, none⟩ = some (.int .i64 (usedN L T N i u j : Nat))) (hi : i < N) {v : Int} (hv : v = ((u + 1 : Nat) : Int)) :
    ∀ j, j < N → (w.setCell ⟨gu, i, none⟩ (.int .i64 v)).cell? ⟨gu, j, none⟩ = some (.int .i64 (usedN L T N i (u + 1) j : Nat)) := fun j hj => by
  have hr : w.rangeAt gu 0 ((List.range N).map fun k => Value.int .i64 (usedN L T N i u k : Nat)) := fun k x hx => by
    rw [List.getElem?_map] at hx
    obtain ⟨k', hk', rfl⟩ := Option.map_eq_some_iff.1 hx
    have hk2 := List.getElem?_eq_some_iff.1 hk'
    obtain ⟨h1, h2⟩ := hk2
    rw [List.getElem_range] at h2
    subst h2
    rw [Nat.zero_add]
    exact hus k (by simpa using h1)
  have h1 := range_set1 hr (by simpa using hth) (j := i) (by simpa using hi) (Value.int .i64 v)
  have h2 := h1 j (.int .i64 (usedN L T N i (u + 1) j : Nat)) (by
    by_cases hji : j = i
    · subst hji
      rw [List.getElem?_set_self (by simpa using hj), usedN_self, hv]
    · rw [List.getElem?_set_ne (Ne.symm hji), List.getElem?_map, List.getElem?_range hj, usedN_other (v := u) hji]; rfl)
  rwa [Nat.zero_add] at h2

/-- The piece that the model places is the part's own pointer: zzPointerAt says true. -/
theorem piece_call {wx : World} {H : Hd} (c : HdC H) {vh pj : Value} {pt : Int} {L : List Bare} {T N g i u : Nat} {z : PtV} (hP : PMem wx H vh pj pt (part L T N i) g i) (hz : IdsAt wx z.a z.hs) (cz : PtC z)
    (lo hi : Nat) (hp : (part L T N i)[u]? = some (z.key, (z.hs.drop lo).take (hi - lo))) (hlo : lo ≤ hi) (hhi : hi ≤ z.hs.length) (hL : L.length ≤ 65536) (hl : z.hs.length ≤ 32768) (lI hI : Int) (el : lI = (lo : Int)) (eh : hI = (hi : Int)) :
    ∃ (A : Option Addr) (m C : Nat), wx.cell? ⟨g, i * 92 + 86, none⟩ = some (.slice A m C) ∧ g < wx.heap.size ∧ ∀ w2, Below wx.heap.size wx w2 →
      Calls Try.prog 16 #[.slice A m C, .int .i64 (u : Int), .agg z.key.toArray, .slice z.a z.hs.length z.cap, .int .i64 lI, .int .i64 hI] w2 fun e w' => e = .returned (.bool true) ∧ Below w2.heap.size w2 w' := by
  obtain ⟨A, C, F', hr, hrow, hF, hb⟩ := hP
  subst el; subst eh
  have h1 := hp
  rw [← hb, List.getElem?_map] at h1
  obtain ⟨x, hx, hxy⟩ := Option.map_eq_some_iff.1 h1
  have hlen : F'.length ≤ 65536 := by
    have := congrArg List.length hb
    have h3 := part_len (L := L) (T := T) (N := N) (i := i)
    simp at this
    omega
  refine ⟨A, F'.length, C, range_cell hr 86 (mc_86 c _ _ _ _), range_lt hr (by rw [mc_len c]; omega), fun w2 b2 => ?_⟩
  exact ptr_at A z.a C z.cap u lo hi F' z.key z.hs w2 (hrow.below (fun y hy => (hF y hy).1) b2) (fun y hy => ⟨(hF y hy).1, (hF y hy).2.below (hF y hy).1.hs b2⟩) (hz.below cz.hs b2) cz.key cz.hs x hx hxy (by omega) (by omega) (by omega) (by omega)

/-- Where the model stands behind a piece. -/
def Aft (L : List Bare) (T N i p d en lo : Nat) (F : List PtV) : Prop := if lo < en then St L T N i p (lo - d) lo F else St L T N i (p + 1) 0 lo F

/-- One piece of a pointer that has holders. -/
theorem St.deals {L : List Bare} {T N i p d en lo hi : Nat} {F : List PtV} {z : PtV} (s : St L T N i p (lo - d) lo F) (hz : L[p]? = some z.bare) (hen : en = d + z.hs.length) (h1 : d ≤ lo) (h2 : lo < en) (h3 : lo < ends T N (i + 1)) (hh : hi = min en (ends T N (i + 1))) :
    ∃ y : PtV, (part L T N i)[F.length]? = some (z.key, (z.hs.drop (lo - d)).take (hi - d - (lo - d))) ∧ Aft L T N i p d en hi (F ++ [y]) := by
  obtain ⟨y, hy⟩ : ∃ y : PtV, y = ⟨z.key, z.a, 0, (z.hs.drop (lo - d)).take (hi - d - (lo - d))⟩ := ⟨_, rfl⟩
  have hb : y.bare = (z.key, (z.hs.drop (lo - d)).take (hi - d - (lo - d))) := by rw [hy]; rfl
  have hx1 : z.bare.1 = z.key := rfl
  have hx2 : z.bare.2 = z.hs := rfl
  refine ⟨y, ?_⟩
  unfold Aft
  by_cases full : en ≤ ends T N (i + 1)
  · have e1 : hi = en := by omega
    have e2 : hi - d - (lo - d) = z.bare.2.length - (lo - d) := by rw [hx2]; omega
    have s2 := s.whole h3 hz (by rw [hx2]; omega) (y := y) (by rw [hb, e2]; rfl)
    rw [if_neg (by omega), ← hb]
    refine ⟨s2.piece, ?_⟩
    rw [hx2, show lo + (z.hs.length - (lo - d)) = hi by omega] at s2
    exact s2
  · have e1 : hi = ends T N (i + 1) := by omega
    have e2 : hi - d - (lo - d) = ends T N (i + 1) - lo := by omega
    have s2 := s.bit h3 hz (by rw [hx2]; omega) (y := y) (by rw [hb, e2]; rfl)
    rw [if_pos (by omega), ← hb]
    refine ⟨s2.piece, ?_⟩
    rw [show lo - d + (ends T N (i + 1) - lo) = hi - d by omega, show lo + (ends T N (i + 1) - lo) = hi by omega] at s2
    exact s2

/-- One pointer that has none. -/
theorem St.none {L : List Bare} {T N i p d : Nat} {F : List PtV} {z : PtV} (s : St L T N i p 0 d F) (hz : L[p]? = some z.bare) (h0 : z.hs.length = 0) (h3 : d < ends T N (i + 1)) :
    ∃ y : PtV, (part L T N i)[F.length]? = some (z.key, (z.hs.drop 0).take (0 - 0)) ∧ St L T N i (p + 1) 0 d (F ++ [y]) := by
  have hx2 : z.bare.2 = z.hs := rfl
  obtain ⟨y, hy⟩ : ∃ y : PtV, y = ⟨z.key, z.a, 0, []⟩ := ⟨_, rfl⟩
  have hn : z.hs = [] := List.eq_nil_of_length_eq_zero h0
  have s2 := s.whole h3 hz (by rw [hx2]; omega) (y := y) (by rw [hy, hx2, hn]; rfl)
  refine ⟨y, ?_, ?_⟩
  · have := s2.piece
    rw [hy] at this
    rw [hn]
    exact this
  · rw [hx2, h0] at s2
    exact s2

/-- All is placed: used[j] is the length of part j. -/
theorem used_all {L : List Bare} {T N i d p : Nat} {F : List PtV} (hN : 0 < N) (hNT : N ≤ T) (hi : i < N) (hp : L.length ≤ p) (h : St L T N i p 0 d F ∨ (d = T ∧ i + 1 = N ∧ F.length = (part L T N i).length ∧ cnt (L.drop p) = 0)) :
    ∀ j, j < N → usedN L T N i F.length j = (part L T N j).length := by
  have h2 : i + 1 = N ∧ F.length = (part L T N i).length := by
    rcases h with s | ⟨_, h1, h2, _⟩
    · have h1 := s.sum
      rw [remPH_none hp] at h1
      simp only [cnt] at h1
      obtain ⟨e1, e2, _⟩ := s.over hN hNT hi (by omega)
      exact ⟨e1, e2⟩
    · exact ⟨h1, h2⟩
  intro j hj
  unfold usedN
  by_cases hji : j < i
  · rw [if_pos hji]
  · obtain rfl : j = i := by omega
    rw [if_neg hji, if_pos rfl, h2.2]
end Go.Proofs.Qxb6603900a
