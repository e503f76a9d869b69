import Derived.Test.Qxb6603900aHeld
import Derived.Laws.CopyOwn
namespace Go.Proofs.Qxb6603900a
open Go.ChangeShapes Go.WideShapes Go.ChangeAt Go.RowKit

/-! ### The cells of an ID, of a pointer, of a message -/
/-- Twenty cells that hold bytes. -/
structure IdC (cs : List Value) : Prop where
  len : cs.length = 20
  byte : ∀ v ∈ cs, ∃ n, v = .int .u8 n

theorem IdC.one {cs : List Value} (h : IdC cs) : ∀ v ∈ cs, v.oneCell' = true := fun v hv => by
  obtain ⟨n, rfl⟩ := h.byte v hv; rfl

/-- A pointer (key, holders) as it lies in memory: 'a', 'cap': the holders' slice. -/
structure PtV where
  key : List Value
  a : Option Addr
  cap : Nat
  hs : List (List Value)

/-- Its 21 cells. -/
def PtV.cells (x : PtV) : List Value := x.key ++ [.slice x.a x.hs.length x.cap]
/-- What it says: the key and the holders. -/
def PtV.bare (x : PtV) : List Value × List (List Value) := (x.key, x.hs)

structure PtC (x : PtV) : Prop where
  key : IdC x.key
  hs : ∀ cs ∈ x.hs, IdC cs

theorem PtV.cells_len {x : PtV} (h : PtC x) : x.cells.length = 21 := by unfold PtV.cells; simp [h.key.len]
theorem PtV.cells_one {x : PtV} (h : PtC x) : ∀ v ∈ x.cells, v.oneCell' = true := fun v hv => by
  unfold PtV.cells at hv
  rcases List.mem_append.1 hv with h1 | h1
  · exact h.key.one v h1
  · rw [List.mem_singleton.1 h1]; rfl
theorem PtV.cells_hs {x : PtV} (h : PtC x) : x.cells[20]? = some (.slice x.a x.hs.length x.cap) := by
  unfold PtV.cells
  rw [List.getElem?_append_right (by rw [h.key.len]; omega), h.key.len]; rfl

/-- All of a message but its holders, its peers, its pointers and its parts. -/
structure Hd where
  kd : Int
  key : List Value
  src : List Value
  nonce : Int
  frm : List Value
  hops : Int
  stop : List Value
  last : Bool
  lvl : Int
  bcn : Int
  ack : Int
  det : Bool

structure HdC (H : Hd) : Prop where
  key : IdC H.key
  src : IdC H.src
  frm : IdC H.frm
  stop : IdC H.stop
  klo : 0 ≤ H.kd
  khi : H.kd ≤ 255

/-- The 92 cells of a message. -/
def mc (H : Hd) (h p q : Value) (pt : Int) : List Value :=
  [.int .u8 H.kd] ++ (H.key ++ (H.src ++ ([.int .u64 H.nonce] ++ (H.frm ++ ([.int .i64 H.hops] ++ (H.stop ++ [h, .bool H.last, p, q, .int .i64 pt, .int .i64 H.lvl, .int .u64 H.bcn, .int .u64 H.ack, .bool H.det]))))))

theorem mc_len {H : Hd} (c : HdC H) (h p q : Value) (pt : Int) : (mc H h p q pt).length = 92 := by
  unfold mc; simp [c.key.len, c.src.len, c.frm.len, c.stop.len]

theorem mc_tail {H : Hd} (c : HdC H) (h p q : Value) (pt : Int) (j : Nat) : (mc H h p q pt)[83 + j]? = [h, .bool H.last, p, q, .int .i64 pt, .int .i64 H.lvl, .int .u64 H.bcn, .int .u64 H.ack, .bool H.det][j]? := by
  unfold mc
  rw [List.getElem?_append_right (by simp; omega), List.getElem?_append_right (by simp [c.key.len]; omega), List.getElem?_append_right (by simp [c.key.len, c.src.len]; omega),
    List.getElem?_append_right (by simp [c.key.len, c.src.len]; omega), List.getElem?_append_right (by simp [c.key.len, c.src.len, c.frm.len]; omega),
    List.getElem?_append_right (by simp [c.key.len, c.src.len, c.frm.len]; omega), List.getElem?_append_right (by simp [c.key.len, c.src.len, c.frm.len, c.stop.len]; omega)]
  congr 1
  simp [c.key.len, c.src.len, c.frm.len, c.stop.len]
  omega

theorem mc_0 (H : Hd) (h p q : Value) (pt : Int) : (mc H h p q pt)[0]? = some (.int .u8 H.kd) := rfl
theorem mc_83 {H : Hd} (c : HdC H) (h p q : Value) (pt : Int) : (mc H h p q pt)[83]? = some h := mc_tail c h p q pt 0
theorem mc_84 {H : Hd} (c : HdC H) (h p q : Value) (pt : Int) : (mc H h p q pt)[84]? = some (.bool H.last) := mc_tail c h p q pt 1
theorem mc_85 {H : Hd} (c : HdC H) (h p q : Value) (pt : Int) : (mc H h p q pt)[85]? = some p := mc_tail c h p q pt 2
theorem mc_86 {H : Hd} (c : HdC H) (h p q : Value) (pt : Int) : (mc H h p q pt)[86]? = some q := mc_tail c h p q pt 3
theorem mc_87 {H : Hd} (c : HdC H) (h p q : Value) (pt : Int) : (mc H h p q pt)[87]? = some (.int .i64 pt) := mc_tail c h p q pt 4
theorem mc_88 {H : Hd} (c : HdC H) (h p q : Value) (pt : Int) : (mc H h p q pt)[88]? = some (.int .i64 H.lvl) := mc_tail c h p q pt 5
theorem mc_89 {H : Hd} (c : HdC H) (h p q : Value) (pt : Int) : (mc H h p q pt)[89]? = some (.int .u64 H.bcn) := mc_tail c h p q pt 6
theorem mc_90 {H : Hd} (c : HdC H) (h p q : Value) (pt : Int) : (mc H h p q pt)[90]? = some (.int .u64 H.ack) := mc_tail c h p q pt 7
theorem mc_91 {H : Hd} (c : HdC H) (h p q : Value) (pt : Int) : (mc H h p q pt)[91]? = some (.bool H.det) := mc_tail c h p q pt 8

theorem mc_one {H : Hd} (c : HdC H) {h p q : Value} (pt : Int) (h1 : h.oneCell' = true) (h2 : p.oneCell' = true) (h3 : q.oneCell' = true) : ∀ v ∈ mc H h p q pt, v.oneCell' = true := fun v hv => by
  unfold mc at hv
  simp only [List.mem_append, List.mem_cons, List.not_mem_nil, or_false] at hv
  rcases hv with rfl | hv | hv | rfl | hv | rfl | hv | rfl | rfl | rfl | rfl | rfl | rfl | rfl | rfl | rfl
  · rfl
  · exact c.key.one v hv
  · exact c.src.one v hv
  · rfl
  · exact c.frm.one v hv
  · rfl
  · exact c.stop.one v hv
  all_goals first | assumption | rfl

/-! ### Ranges -/
theorem range_part {w : World} {b o : Nat} {A B C : List Value} (h : w.rangeAt b o (A ++ (B ++ C))) : w.rangeAt b (o + A.length) B := fun j v hv => by
  have hj : j < B.length := (List.getElem?_eq_some_iff.1 hv).1
  have := h (A.length + j) v (by rw [List.getElem?_append_right (by omega), show A.length + j - A.length = j from by omega, List.getElem?_append_left hj]; exact hv)
  rwa [Nat.add_assoc]
theorem range_drop {w : World} {b o : Nat} {A B : List Value} (h : w.rangeAt b o (A ++ B)) : w.rangeAt b (o + A.length) B := fun j v hv => by
  have := h (A.length + j) v (by rw [List.getElem?_append_right (by omega), show A.length + j - A.length = j from by omega]; exact hv)
  rwa [Nat.add_assoc]
theorem range_take {w : World} {b o : Nat} {A B : List Value} (h : w.rangeAt b o (A ++ B)) : w.rangeAt b o A := fun j v hv => by
  have hj : j < A.length := (List.getElem?_eq_some_iff.1 hv).1
  exact h j v (by rw [List.getElem?_append_left hj]; exact hv)
theorem range_cell {w : World} {b o : Nat} {cs : List Value} (h : w.rangeAt b o cs) (j : Nat) {v : Value} (hv : cs[j]? = some v) : w.cell? ⟨b, o + j, none⟩ = some v := h j v hv
theorem range_lt {w : World} {b o : Nat} {cs : List Value} (h : w.rangeAt b o cs) (hc : 0 < cs.length) : b < w.heap.size := by
  have := h 0 _ (List.getElem?_eq_getElem hc)
  exact World.block_lt_of_cell? w _ this

/-- The key's cells inside a message's. -/
theorem mc_key {w : World} {b o : Nat} {H : Hd} {h p q : Value} {pt : Int} (hr : w.rangeAt b o (mc H h p q pt)) : w.rangeAt b (o + 1) H.key := range_part hr
theorem mc_src {w : World} {b o : Nat} {H : Hd} (c : HdC H) {h p q : Value} {pt : Int} (hr : w.rangeAt b o (mc H h p q pt)) : w.rangeAt b (o + 21) H.src := by
  have h1 := range_drop hr
  have h2 := range_part h1
  rwa [c.key.len, Nat.add_assoc] at h2
theorem mc_frm {w : World} {b o : Nat} {H : Hd} (c : HdC H) {h p q : Value} {pt : Int} (hr : w.rangeAt b o (mc H h p q pt)) : w.rangeAt b (o + 42) H.frm := by
  have h1 := range_part (range_drop (range_drop (range_drop hr)))
  rw [c.key.len, c.src.len] at h1
  rwa [show o + [Value.int .u8 H.kd].length + 20 + 20 + [Value.int .u64 H.nonce].length = o + 42 from by simp] at h1
theorem mc_stop {w : World} {b o : Nat} {H : Hd} (c : HdC H) {h p q : Value} {pt : Int} (hr : w.rangeAt b o (mc H h p q pt)) : w.rangeAt b (o + 63) H.stop := by
  have h1 := range_part (range_drop (range_drop (range_drop (range_drop (range_drop hr)))))
  rw [c.key.len, c.src.len, c.frm.len] at h1
  rwa [show o + [Value.int .u8 H.kd].length + 20 + 20 + [Value.int .u64 H.nonce].length + 20 + [Value.int .i64 H.hops].length = o + 63 from by simp] at h1
theorem mc_41 {H : Hd} (c : HdC H) (h p q : Value) (pt : Int) : (mc H h p q pt)[41]? = some (.int .u64 H.nonce) := by
  unfold mc
  rw [List.getElem?_append_right (by simp), List.getElem?_append_right (by simp [c.key.len]), List.getElem?_append_right (by simp [c.key.len, c.src.len])]
  simp [c.key.len, c.src.len]
theorem mc_62 {H : Hd} (c : HdC H) (h p q : Value) (pt : Int) : (mc H h p q pt)[62]? = some (.int .i64 H.hops) := by
  unfold mc
  rw [List.getElem?_append_right (by simp), List.getElem?_append_right (by simp [c.key.len]), List.getElem?_append_right (by simp [c.key.len, c.src.len]),
    List.getElem?_append_right (by simp [c.key.len, c.src.len]), List.getElem?_append_right (by simp [c.key.len, c.src.len, c.frm.len])]
  simp [c.key.len, c.src.len, c.frm.len]

/-! ### Slices of IDs and of pointers in memory -/
/-- Element i of the slice at 'a' holds the cells 'L[i]'. -/
def IdsAt (w : World) (a : Option Addr) (L : List (List Value)) : Prop := ∀ i cs, L[i]? = some cs → ∃ b o, a = some ⟨b, o, none⟩ ∧ w.rangeAt b (o + i * 20) cs
def RowAt (w : World) (a : Option Addr) (E : List PtV) : Prop := ∀ i x, E[i]? = some x → ∃ b o, a = some ⟨b, o, none⟩ ∧ w.rangeAt b (o + i * 21) x.cells

theorem IdsAt.below {w w' : World} {a : Option Addr} {L : List (List Value)} (h : IdsAt w a L) (hL : ∀ cs ∈ L, IdC cs) (hb : Below w.heap.size w w') : IdsAt w' a L := fun i cs hi => by
  obtain ⟨b, o, ha, hr⟩ := h i cs hi
  have := (hL cs (List.mem_of_getElem? hi)).len
  exact ⟨b, o, ha, range_below hb (range_lt hr (by omega)) hr⟩
theorem RowAt.below {w w' : World} {a : Option Addr} {E : List PtV} (h : RowAt w a E) (hE : ∀ x ∈ E, PtC x) (hb : Below w.heap.size w w') : RowAt w' a E := fun i x hi => by
  obtain ⟨b, o, ha, hr⟩ := h i x hi
  have := PtV.cells_len (hE x (List.mem_of_getElem? hi))
  exact ⟨b, o, ha, range_below hb (range_lt hr (by omega)) hr⟩
end Go.Proofs.Qxb6603900a
