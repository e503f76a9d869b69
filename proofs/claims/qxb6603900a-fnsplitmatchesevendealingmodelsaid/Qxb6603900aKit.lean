import Derived.Test.Qxb6603900aRows
import Derived.WalkKit
import Derived.ProofKit
import Derived.OpenShut
import Derived.BigQuiet
import Derived.WalkSmall
import Derived.Deep.MidRow
import Derived.Deep.RegionHeld3
namespace Go.Proofs.Qxb6603900a
open Go.ChangeShapes Go.WideShapes Go.ChangeAt Go.RowKit

theorem ret_int {k : IntKind} {a b : Int} (h : a = b) : Ending.returned (.int k a) = .returned (.int k b) := by rw [h]

/-- The cells of a block that has just been laid. -/
theorem range_new (w : World) (cs : List Value) (t : TypeId) : (w.alloc (.cells cs.toArray t)).rangeAt w.heap.size 0 cs := fun j v hv => by
  rw [Nat.zero_add, cell_of_row _ _ _ _ _ _ (heap_alloc_new w _)]
  simpa using hv

theorem range_new' (w : World) (cs : List Value) (t : TypeId) (b : Nat) (hb : b = w.heap.size) : (w.alloc (.cells cs.toArray t)).rangeAt b 0 cs := by
  subst hb; exact range_new w cs t

theorem range_below {B : Nat} {w w' : World} (h : Below B w w') {b o : Nat} {cs : List Value} (hb : b < B) (hr : w.rangeAt b o cs) : w'.rangeAt b o cs :=
  fun j v hv => (h.cell (p := ⟨b, o + j, none⟩) hb).trans (hr j v hv)

theorem setCells_alloc (w : World) (T : TypeId) : ∀ (vs : List Value) (o : Nat) (C : Array Value), o + vs.length = C.size →
    (w.alloc (.cells C T)).setCells w.heap.size o vs = w.alloc (.cells (C.toList.take o ++ vs).toArray T)
  | [], o, C, h => by
    simp at h
    have : (C.toList.take o ++ []).toArray = C := by
      rw [List.append_nil, List.take_of_length_le (by simp; omega)]
    rw [this]; rfl
  | v :: r, o, C, h => by
    rw [World.setCells, World.setCell_alloc_at _ _ _ _ _ rfl, setCells_alloc w T r (o + 1) _ (by simp at h ⊢; omega)]
    congr 3
    simp only [List.length_cons] at h
    have ho : o < C.size := by omega
    simp [List.take_add_one, ho, List.take_set]
    exact List.set_eq_of_length_le (by simp; omega)

/-- A load of an array or a struct in a plain region, guarded or not. -/
theorem wpList_load_g {P : Program} {ops : Array Oper} {rest : List Oper} {op : Oper} {a : Act} {w : World} {Q : Exit → Act → World → Prop} (ty : TypeId) (x : Operand) (ho : op.op = .load ty x) (hw : Region.wanted op (yielded ops a.tmps) = true)
    (b o : Nat) (hx : a.eval x = .pointer (some ⟨b, o, none⟩)) (cs : List Value) (d : TypeDesc) (hc : w.rangeAt b o cs)
    (hu : P.underlying ty = some d) (hd : d.isRow = true) (hi : (P.info? ty).map (·.size) = some cs.length)
    (h : wpList P ops Q rest (a.put op.dst (.agg cs.toArray)) w) : wpList P ops Q (op :: rest) a w :=
  wpList_step fun K hK => by rw [if_pos hw]; exact wp_load_mid ty x ho b o hx cs d hc hu hd hi (hK _ _ h)

/-- A new block behind a world of the class. -/
theorem belowA {B : Nat} {a w : World} (h : Below B a w) (hB : B ≤ a.heap.size) (o : Obj) : Below B a (w.alloc o) := h.alloc (Nat.le_trans hB h.size) o

/-- 'var x T = v' : a new variable of an array or struct type, and its first value. -/
theorem wpList_new_var {P : Program} {ops : Array Oper} {rest : List Oper} {o1 o2 : Oper} {a : Act} {w : World} {Q : Exit → Act → World → Prop} (g1 : o1.guard = none) (g2 : o2.guard = none)
    (T : TypeId) (d : Tmp) (x : Operand) (h1 : o1.op = .alloc T) (hd1 : o1.dst = some d) (h2 : o2.op = .store T (.tmp d) x) (hd2 : o2.dst = none) (n : Nat) (hn : a.tmps.size = n) (hlt0 : d < n)
    (cs : List Value) (Z : Array Value) (by0 : Nat) (hx : (a.put (some d) (.pointer (some ⟨w.heap.size, 0, none⟩))).eval x = .agg cs.toArray)
    (hi : (P.info? T).map (fun i => (i.zero, i.size, i.bytes)) = some (some (.agg Z), cs.length, by0)) (hZ : Z.size = cs.length) (h1c : ∀ v ∈ cs, v.oneCell' = true)
    (h : wpList P ops Q rest (a.put (some d) (.pointer (some ⟨w.heap.size, 0, none⟩))) (w.alloc (.cells cs.toArray T))) : wpList P ops Q (o1 :: o2 :: rest) a w := by
  have hlt : d < a.tmps.size := hn ▸ hlt0
  obtain ⟨i, hi0, hiz, his, _⟩ := info_parts hi
  refine wpList_plain g1 fun K hK => ?_
  have e1 : (execOp a.eval o1).run P w = .ok (.value (.pointer (some ⟨w.heap.size, 0, none⟩))) (w.alloc (.cells Z T)) := by
    unfold execOp
    simp [h1, Instr.alloc, zeroValue, typeInfo, hi0, hiz, newVar, newRow, Value.cells, go_sem]
  unfold Oper.wp
  rw [e1]
  show K _ _
  refine hK _ _ ?_
  rw [hd1]
  have hth : (w.alloc (.cells Z T)).there w.heap.size 0 cs.toArray.size := fun j hj => by
    refine ⟨?_, ?_⟩
    · rw [Nat.zero_add, cell_of_row _ _ _ _ _ _ (heap_alloc_new w _)]
      simp at hj
      simp [hZ, hj]
    · exact frozen_of_row _ _ _ _ _ (heap_alloc_new w _)
  refine wpList_store_mid g2 T (.tmp d) x h2 w.heap.size 0 cs.toArray ?_ hx hth ?_ (all_oneCell_toArray h1c) ?_
  · simp [Act.eval, Act.put, hlt]
  · simp [hi0, his]
  · rw [hd2]
    have e2 : (w.alloc (.cells Z T)).setCells w.heap.size 0 cs.toArray.toList = w.alloc (.cells cs.toArray T) := by
      rw [setCells_alloc w T _ 0 Z (by simp [hZ])]
      simp
    rw [e2]
    exact h

end Go.Proofs.Qxb6603900a
