import Derived.Test.Qxb6603900aSplitAny
import Derived.Laws.StructEq
namespace Go.Proofs.Qxb6603900a
open Go.ChangeShapes Go.WideShapes Go.ChangeAt Go.RowKit
set_option linter.unusedSimpArgs false
set_option linter.unusedVariables false

theorem Try.size5 (w : World) : (sizeOf 5).run Try.prog w = .ok 1 w := by kernel_rfl
theorem Try.guard33 : Try.prog.eqGuardType Try.prog.depth 33 = false := by kernel_rfl

/-- An ID equals itself. -/
theorem run_same_id (w : World) (d : Nat) (cs : List Value) (h : IdC cs) : (Op.equalIn (d + 2) 33 (.agg cs.toArray) (.agg cs.toArray)).run Try.prog w = .ok true w := by
  rw [Op.equalIn]
  simp only [Sem.run_bind, run_underlying Try.underlying33, Result.andThen_ok, Try.size5, Std.Legacy.Range.forIn_eq_forIn_range', Std.Legacy.Range.size, Nat.sub_zero, Nat.add_sub_cancel, Nat.div_one]
  have hl : ∀ i ∈ List.range' 0 20 1, i < 20 := fun i hi => by simpa using (List.mem_range'_1.1 hi).2
  generalize List.range' 0 20 1 = l at hl ⊢
  induction l with
  | nil => simp
  | cons i l ih =>
    have hi : i < 20 := hl i (by simp)
    have hlen := h.len
    obtain ⟨n, hn⟩ := h.byte (cs[i]'(by omega)) (List.getElem_mem _)
    have px : (Go.part 5 cs.toArray (i * 1)).run Try.prog w = .ok (.int .u8 n) w := by
      simp [Go.part, isAgg, run_underlying Try.underlying5, List.getElem?_eq_getElem (show i < cs.length by omega), hn]
    have pe : (Op.equalIn (d + 1) 5 (.int .u8 n) (.int .u8 n)).run Try.prog w = .ok true w := by
      rw [run_equalIn_int w d 5 .u8 .u8 _ _ Try.underlying5]; simp
    simp only [List.forIn_cons, Sem.run_bind, px, pe, Result.andThen_ok, Bool.not_true, Bool.false_eq_true, if_false, Sem.run_pure]
    exact ih fun j hj => hl j (by simp [hj])

theorem run_neq_same (w : World) (cs : List Value) (h : IdC cs) : (binOp .neq 33 (.agg cs.toArray) (.agg cs.toArray)).run Try.prog w = .ok (.bool false) w := by
  rw [run_neq_struct, run_same_id w 9998 cs h]
  rfl
theorem run_eql_same (w : World) (cs : List Value) (h : IdC cs) : (binOp .eql 33 (.agg cs.toArray) (.agg cs.toArray)).run Try.prog w = .ok (.bool true) w := by
  rw [run_eql_struct, run_same_id w 9998 cs h]
  rfl

section
variable {ops : Array Oper} {Q : Exit → Act → World → Prop} {S : World → Prop}
theorem hw_neq {o : Oper} {l : List (Oper × Bool)} {a : Act} {w : World} (x y : Operand) (ty : TypeId) (ho : o.op = .binOp .neq 33 x y ty) (hw : Region.wanted o (yielded ops a.tmps) = true)
    (cs : List Value) (h : IdC cs) (hx : a.eval x = .agg cs.toArray) (hy : a.eval y = .agg cs.toArray) (hc : Hw Try.prog ops Q S l (a.put o.dst (.bool false)) w) : Hw Try.prog ops Q S ((o, true) :: l) a w :=
  hw_take _ hw (fun w _ => by
    unfold execOp
    simp only [ho, hx, hy, Sem.run_bind, run_eqGuard_agg w _ 33 x y _ _ Try.guard33, run_neq_same w cs h, Result.andThen_ok, Sem.run_pure]) hc
theorem hw_eql {o : Oper} {l : List (Oper × Bool)} {a : Act} {w : World} (x y : Operand) (ty : TypeId) (ho : o.op = .binOp .eql 33 x y ty) (hw : Region.wanted o (yielded ops a.tmps) = true)
    (cs : List Value) (h : IdC cs) (hx : a.eval x = .agg cs.toArray) (hy : a.eval y = .agg cs.toArray) (hc : Hw Try.prog ops Q S l (a.put o.dst (.bool true)) w) : Hw Try.prog ops Q S ((o, true) :: l) a w :=
  hw_take _ hw (fun w _ => by
    unfold execOp
    simp only [ho, hx, hy, Sem.run_bind, run_eqGuard_agg w _ 33 x y _ _ Try.guard33, run_eql_same w cs h, Result.andThen_ok, Sem.run_pure]) hc
end
end Go.Proofs.Qxb6603900a
