import Derived.Test.Qxb6603900aOpen
import Derived.Test.Qxb6603900aSplitAny
import Derived.Deep.Slices
namespace Go.Proofs.Qxb6603900a
open Go.ChangeShapes Go.WideShapes Go.ChangeAt Go.RowKit Go.Deep
set_option linter.unusedSimpArgs false
set_option linter.unusedVariables false

theorem Try.cells27 : Try.prog.cellsOf 27 = 92 := by kernel_rfl
theorem Try.cells23 : Try.prog.cellsOf 23 = 1 := by kernel_rfl
theorem Try.cells3 : Try.prog.cellsOf 3 = 1 := by kernel_rfl
theorem Try.cells24 : Try.prog.cellsOf 24 = 1 := by kernel_rfl
theorem Try.cells4 : Try.prog.cellsOf 4 = 1 := by kernel_rfl
theorem Try.cells25 : Try.prog.cellsOf 25 = 1 := by kernel_rfl
theorem Try.cells45 : Try.prog.cellsOf 45 = 21 := by kernel_rfl

instance : Inhabited PtV := ⟨⟨[], none, 0, []⟩⟩

section
variable {H : Type} {enc : TypeId × Value → H} {w : World} {base : Nat} {spare : Nat → Bool} {held : Bool}

theorem idc_of_trod {fuel : Nat} {cs : List Value} {x : DataW H × List MemPlace} (h : DataW.trod enc Try.prog w base spare held fuel 22 cs = some x) : IdC cs := by
  obtain ⟨b, hb⟩ := id_of_trod h
  refine ⟨hb.size, fun v hv => ?_⟩
  obtain ⟨i, hi, rfl⟩ := List.mem_iff_getElem.1 hv
  have := hb.cell i (by rw [hb.size] at hi; exact hi)
  rw [List.getElem?_eq_getElem hi] at this
  exact ⟨_, Option.some.inj this⟩

/-- The cells of element i of a slice, as a range. -/
theorem range_of_cells {a : Addr} {o' n : Nat} {cs : List Value} (hs : a.spot = none) (h : w.cells? base (a.add o') n = some cs) : w.rangeAt a.block (a.off + o') cs := fun j v hv => by
  obtain ⟨_, hl, hc⟩ := World.cells?_some h
  have hj : j < n := by rw [← hl]; exact (List.getElem?_eq_some_iff.1 hv).1
  have := hc j hj
  obtain ⟨b, o, s⟩ := a
  simp only at hs
  subst hs
  rw [Addr.add_mid, Addr.add_mid, hv] at this
  exact this

theorem spot_none {a : Addr} {n : Nat} {cs : List Value} (hn : 0 < n) (h : w.cells? base (a.add 0) n = some cs) : a.spot = none := by
  obtain ⟨_, hl, hc⟩ := World.cells?_some h
  have := hc 0 hn
  rw [List.getElem?_eq_getElem (by omega)] at this
  have := World.cell?_spot this
  simpa [Addr.add] using this

/-- A []ID opened. -/
theorem ids_open {fuel : Nat} {cs : List Value} {x : DataW H × List MemPlace} (h : DataW.trod enc Try.prog w base spare held fuel 24 cs = some x) :
    ∃ (a : Option Addr) (c : Nat) (L : List (List Value)), cs = [.slice a L.length c] ∧ IdsAt w a L ∧ (∀ cs ∈ L, IdC cs) ∧ L.length ≤ maxLen := by
  rcases open_slice Try.underlying24 h with ⟨rfl, _⟩ | ⟨a, len, cap, m, n, D, Pl, rfl, hb, hl, hm, hmm, _, hx⟩
  · exact ⟨none, 0, [], rfl, fun i cs h => by simp at h, fun cs h => by simp at h, by simp⟩
  · have hlm : len ≤ m := by rw [hmm]; split <;> omega
    rw [Try.cells22] at hx
    obtain ⟨V, hV⟩ := choose_lt (α := List Value) (p := fun i v => w.cells? base (a.add (i * 20)) 20 = some v ∧ DataW.trod enc Try.prog w base spare held n 22 v = some (D i, Pl i)) (fun i hi => hx i hi)
    refine ⟨some a, cap, (List.range len).map V, by simp, fun i cs hi => ?_, fun cs hcs => ?_, by simp; omega⟩
    · have hil : i < len := by have := (List.getElem?_eq_some_iff.1 hi).1; simpa using this
      rw [List.getElem?_map, List.getElem?_range hil] at hi
      obtain rfl : V i = cs := by simpa using hi
      have hs : a.spot = none := spot_none (n := 20) (by omega) (by have := (hV 0 (by omega)).1; rwa [Nat.zero_mul] at this)
      refine ⟨a.block, a.off, ?_, range_of_cells hs (hV i (by omega)).1⟩
      obtain ⟨b, o, s⟩ := a
      simp only at hs
      subst hs
      rfl
    · obtain ⟨i, hi, rfl⟩ := List.mem_map.1 hcs
      exact idc_of_trod (hV i (by have := List.mem_range.1 hi; omega)).2

/-- A pointer opened. -/
theorem ptr_open {fuel : Nat} {cs : List Value} {x : DataW H × List MemPlace} (h : DataW.trod enc Try.prog w base spare held fuel 45 cs = some x) :
    ∃ y : PtV, cs = y.cells ∧ PtC y ∧ IdsAt w y.a y.hs ∧ y.hs.length ≤ maxLen := by
  obtain ⟨xs, n, _, _, hl, hn, hf⟩ := DataW.trod_struct Try.underlying45 h
  rw [Try.cells45] at hl
  have hx : ∀ i, i < 2 → ∃ y, xs[i]? = some y := fun i hi => ⟨_, List.getElem?_eq_getElem (by rw [hn]; exact hi)⟩
  obtain ⟨y0, hy0⟩ := hx 0 (by omega)
  obtain ⟨y1, hy1⟩ := hx 1 (by omega)
  have h0 : DataW.trod enc Try.prog w base spare held n 22 ((cs.drop 0).take (Try.prog.cellsOf 22)) = xs[0]? := hf 0 _ rfl
  have h1 : DataW.trod enc Try.prog w base spare held n 24 ((cs.drop 20).take (Try.prog.cellsOf 24)) = xs[1]? := hf 1 _ rfl
  rw [hy0, Try.cells22] at h0
  rw [hy1, Try.cells24] at h1
  have k0 := idc_of_trod h0
  obtain ⟨a, c, L, e1, i1, c1, m1⟩ := ids_open h1
  refine ⟨⟨(cs.drop 0).take 20, a, c, L⟩, ?_, ⟨k0, c1⟩, i1, m1⟩
  show cs = (cs.drop 0).take 20 ++ [.slice a L.length c]
  rw [← e1]
  have e2 : (cs.drop 20).take 1 = cs.drop 20 := List.take_of_length_le (by simp; omega)
  rw [e2, List.drop_zero, List.take_append_drop]

/-- A []Pointer opened. -/
theorem row_open {fuel : Nat} {cs : List Value} {x : DataW H × List MemPlace} (h : DataW.trod enc Try.prog w base spare held fuel 25 cs = some x) :
    ∃ (a : Option Addr) (c : Nat) (E : List PtV), cs = [.slice a E.length c] ∧ RowAt w a E ∧ (∀ y ∈ E, PtC y ∧ IdsAt w y.a y.hs ∧ y.hs.length ≤ maxLen) ∧ E.length ≤ maxLen := by
  rcases open_slice Try.underlying25 h with ⟨rfl, _⟩ | ⟨a, len, cap, m, n, D, Pl, rfl, hb, hl, hm, hmm, _, hx⟩
  · exact ⟨none, 0, [], rfl, fun i cs h => by simp at h, fun cs h => by simp at h, by simp⟩
  · have hlm : len ≤ m := by rw [hmm]; split <;> omega
    rw [Try.cells45] at hx
    obtain ⟨V, hV⟩ := choose_lt (α := PtV) (p := fun i v => w.cells? base (a.add (i * 21)) 21 = some v.cells ∧ PtC v ∧ IdsAt w v.a v.hs ∧ v.hs.length ≤ maxLen) (fun i (hi : i < m) => by
      obtain ⟨cs', h1, h2⟩ := hx i hi
      obtain ⟨y, rfl, h3⟩ := ptr_open h2
      exact ⟨y, h1, h3⟩)
    refine ⟨some a, cap, (List.range len).map V, by simp, fun i y hi => ?_, fun y hy => ?_, by simp; omega⟩
    · have hil : i < len := by have := (List.getElem?_eq_some_iff.1 hi).1; simpa using this
      rw [List.getElem?_map, List.getElem?_range hil] at hi
      obtain rfl : V i = y := by simpa using hi
      have hs : a.spot = none := spot_none (n := 21) (by omega) (by have := (hV 0 (by omega)).1; rwa [Nat.zero_mul] at this)
      refine ⟨a.block, a.off, ?_, range_of_cells hs (hV i (by omega)).1⟩
      obtain ⟨b, o, s⟩ := a
      simp only at hs
      subst hs
      rfl
    · obtain ⟨i, hi, rfl⟩ := List.mem_map.1 hy
      exact (hV i (by have := List.mem_range.1 hi; omega)).2

theorem cut_at (cs : List Value) (o n : Nat) : cs.drop o = (cs.drop o).take n ++ cs.drop (o + n) := by
  rw [← List.drop_drop, List.take_append_drop]

/-- A message opened. -/
theorem msg_open {r : Reach} {b0 : Nat} {v : Value} {d : DataW H} {p : List MemPlace} (hv : Value.okWide Try.prog w r b0 27 v) (h : DataW.Trod enc Try.prog w base spare held 27 v d p) :
    ∃ (Hh : Hd) (ah ap aq : Option Addr) (ch cp cq : Nat) (HL PL : List (List Value)) (PS : List PtV) (pt : Int), v = .agg (mc Hh (.slice ah HL.length ch) (.slice ap PL.length cp) (.slice aq PS.length cq) pt).toArray ∧ MsgIn w Hh ah ap aq HL PL PS := by
  obtain ⟨A, rfl, _⟩ := okWide_struct Try.underlying27 hv
  obtain ⟨fuel, hf0⟩ := h
  have hf1 : DataW.trod enc Try.prog w base spare held fuel 27 A.toList = some (d, p) := by simpa [Value.cells] using hf0
  generalize hcs : A.toList = cs at hf1
  obtain ⟨xs, n, _, _, hl, hn, hf⟩ := DataW.trod_struct Try.underlying27 hf1
  rw [Try.cells27] at hl
  have hx : ∀ i, i < 16 → ∃ y, xs[i]? = some y := fun i hi => ⟨_, List.getElem?_eq_getElem (by rw [hn]; exact hi)⟩
  obtain ⟨y0, hy0⟩ := hx 0 (by omega)
  have h0 : DataW.trod enc Try.prog w base spare held n 5 ((cs.drop 0).take (Try.prog.cellsOf 5)) = xs[0]? := hf 0 _ rfl
  rw [hy0, Try.cells5] at h0
  obtain ⟨y1, hy1⟩ := hx 1 (by omega)
  have h1 : DataW.trod enc Try.prog w base spare held n 22 ((cs.drop 1).take (Try.prog.cellsOf 22)) = xs[1]? := hf 1 _ rfl
  rw [hy1, Try.cells22] at h1
  obtain ⟨y2, hy2⟩ := hx 2 (by omega)
  have h2 : DataW.trod enc Try.prog w base spare held n 22 ((cs.drop 21).take (Try.prog.cellsOf 22)) = xs[2]? := hf 2 _ rfl
  rw [hy2, Try.cells22] at h2
  obtain ⟨y3, hy3⟩ := hx 3 (by omega)
  have h3 : DataW.trod enc Try.prog w base spare held n 23 ((cs.drop 41).take (Try.prog.cellsOf 23)) = xs[3]? := hf 3 _ rfl
  rw [hy3, Try.cells23] at h3
  obtain ⟨y4, hy4⟩ := hx 4 (by omega)
  have h4 : DataW.trod enc Try.prog w base spare held n 22 ((cs.drop 42).take (Try.prog.cellsOf 22)) = xs[4]? := hf 4 _ rfl
  rw [hy4, Try.cells22] at h4
  obtain ⟨y5, hy5⟩ := hx 5 (by omega)
  have h5 : DataW.trod enc Try.prog w base spare held n 3 ((cs.drop 62).take (Try.prog.cellsOf 3)) = xs[5]? := hf 5 _ rfl
  rw [hy5, Try.cells3] at h5
  obtain ⟨y6, hy6⟩ := hx 6 (by omega)
  have h6 : DataW.trod enc Try.prog w base spare held n 22 ((cs.drop 63).take (Try.prog.cellsOf 22)) = xs[6]? := hf 6 _ rfl
  rw [hy6, Try.cells22] at h6
  obtain ⟨y7, hy7⟩ := hx 7 (by omega)
  have h7 : DataW.trod enc Try.prog w base spare held n 24 ((cs.drop 83).take (Try.prog.cellsOf 24)) = xs[7]? := hf 7 _ rfl
  rw [hy7, Try.cells24] at h7
  obtain ⟨y8, hy8⟩ := hx 8 (by omega)
  have h8 : DataW.trod enc Try.prog w base spare held n 4 ((cs.drop 84).take (Try.prog.cellsOf 4)) = xs[8]? := hf 8 _ rfl
  rw [hy8, Try.cells4] at h8
  obtain ⟨y9, hy9⟩ := hx 9 (by omega)
  have h9 : DataW.trod enc Try.prog w base spare held n 24 ((cs.drop 85).take (Try.prog.cellsOf 24)) = xs[9]? := hf 9 _ rfl
  rw [hy9, Try.cells24] at h9
  obtain ⟨y10, hy10⟩ := hx 10 (by omega)
  have h10 : DataW.trod enc Try.prog w base spare held n 25 ((cs.drop 86).take (Try.prog.cellsOf 25)) = xs[10]? := hf 10 _ rfl
  rw [hy10, Try.cells25] at h10
  obtain ⟨y11, hy11⟩ := hx 11 (by omega)
  have h11 : DataW.trod enc Try.prog w base spare held n 3 ((cs.drop 87).take (Try.prog.cellsOf 3)) = xs[11]? := hf 11 _ rfl
  rw [hy11, Try.cells3] at h11
  obtain ⟨y12, hy12⟩ := hx 12 (by omega)
  have h12 : DataW.trod enc Try.prog w base spare held n 3 ((cs.drop 88).take (Try.prog.cellsOf 3)) = xs[12]? := hf 12 _ rfl
  rw [hy12, Try.cells3] at h12
  obtain ⟨y13, hy13⟩ := hx 13 (by omega)
  have h13 : DataW.trod enc Try.prog w base spare held n 23 ((cs.drop 89).take (Try.prog.cellsOf 23)) = xs[13]? := hf 13 _ rfl
  rw [hy13, Try.cells23] at h13
  obtain ⟨y14, hy14⟩ := hx 14 (by omega)
  have h14 : DataW.trod enc Try.prog w base spare held n 23 ((cs.drop 90).take (Try.prog.cellsOf 23)) = xs[14]? := hf 14 _ rfl
  rw [hy14, Try.cells23] at h14
  obtain ⟨y15, hy15⟩ := hx 15 (by omega)
  have h15 : DataW.trod enc Try.prog w base spare held n 4 ((cs.drop 91).take (Try.prog.cellsOf 4)) = xs[15]? := hf 15 _ rfl
  rw [hy15, Try.cells4] at h15
  obtain ⟨kd, e0, _, w0⟩ := DataW.trod_int Try.underlying5 h0
  have kb := bounds_u8 w0
  have k1 := idc_of_trod h1
  have k2 := idc_of_trod h2
  obtain ⟨nonce, e3, _, _⟩ := DataW.trod_int Try.underlying23 h3
  have k4 := idc_of_trod h4
  obtain ⟨hops, e5, _, _⟩ := DataW.trod_int Try.underlying3 h5
  have k6 := idc_of_trod h6
  obtain ⟨ah, ch, HL, e7, i7, c7, m7⟩ := ids_open h7
  obtain ⟨last, e8, _⟩ := DataW.trod_bool Try.underlying4 h8
  obtain ⟨ap, cp, PL, e9, i9, c9, m9⟩ := ids_open h9
  obtain ⟨aq, cq, PS, e10, i10, c10, m10⟩ := row_open h10
  obtain ⟨pt, e11, _, _⟩ := DataW.trod_int Try.underlying3 h11
  obtain ⟨lvl, e12, _, _⟩ := DataW.trod_int Try.underlying3 h12
  obtain ⟨bcn, e13, _, _⟩ := DataW.trod_int Try.underlying23 h13
  obtain ⟨ack, e14, _, _⟩ := DataW.trod_int Try.underlying23 h14
  obtain ⟨det, e15, _⟩ := DataW.trod_bool Try.underlying4 h15
  refine ⟨⟨kd, (cs.drop 1).take 20, (cs.drop 21).take 20, nonce, (cs.drop 42).take 20, hops, (cs.drop 63).take 20, last, lvl, bcn, ack, det⟩, ah, ap, aq, ch, cp, cq, HL, PL, PS, pt, ?_,
    ⟨⟨k1, k2, k4, k6, kb.1, kb.2⟩, i7, c7, m7, i9, c9, m9, i10, c10, m10⟩⟩
  have key : cs = mc ⟨kd, (cs.drop 1).take 20, (cs.drop 21).take 20, nonce, (cs.drop 42).take 20, hops, (cs.drop 63).take 20, last, lvl, bcn, ack, det⟩ (.slice ah HL.length ch) (.slice ap PL.length cp) (.slice aq PS.length cq) pt := by
    have z0 := cut_at cs 0 1
    have z1 := cut_at cs 1 20
    have z2 := cut_at cs 21 20
    have z3 := cut_at cs 41 1
    have z4 := cut_at cs 42 20
    have z5 := cut_at cs 62 1
    have z6 := cut_at cs 63 20
    have z7 := cut_at cs 83 1
    have z8 := cut_at cs 84 1
    have z9 := cut_at cs 85 1
    have z10 := cut_at cs 86 1
    have z11 := cut_at cs 87 1
    have z12 := cut_at cs 88 1
    have z13 := cut_at cs 89 1
    have z14 := cut_at cs 90 1
    have z15 := cut_at cs 91 1
    have z16 : cs.drop 92 = [] := List.drop_eq_nil_of_le (by omega)
    rw [e0] at z0
    rw [e3] at z3
    rw [e5] at z5
    rw [e7] at z7
    rw [e8] at z8
    rw [e9] at z9
    rw [e10] at z10
    rw [e11] at z11
    rw [e12] at z12
    rw [e13] at z13
    rw [e14] at z14
    rw [e15, z16] at z15
    unfold mc
    simp only
    have zz : cs = cs.drop 0 := rfl
    conv => lhs; rw [zz, z0, z1, z2, z3, z4, z5, z6, z7, z8, z9, z10, z11, z12, z13, z14, z15]
    rfl
  rw [← key, ← hcs]
end
end Go.Proofs.Qxb6603900a
