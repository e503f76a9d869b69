import Derived.Test.Qxb6603900aHeld
namespace Go.Proofs.Qxb6603900a
open Go.RowKit
set_option linter.unusedSimpArgs false
set_option linter.unusedVariables false

section
variable {P : Program} {ops : Array Oper} {Q : Exit → Act → World → Prop} {S : World → Prop}

theorem run_loadVar_one (w : World) (a : Addr) (ty : TypeId) (v : Value) (d : TypeDesc) (hc : w.cell? a = some v) (hu : P.underlying ty = some d) (hd : d.isRow = false) :
    (loadVar ty a).run P w = .ok v w := by
  have hagg : (isAgg ty).run P w = .ok false w := by
    unfold isAgg
    rw [Sem.run_bind, run_underlying hu w]
    cases d <;> simp_all
  simp [loadVar, Sem.run_bind, hagg, run_load, hc]

/-- A load of one cell. -/
theorem hw_load1 {o : Oper} {l : List (Oper × Bool)} {a : Act} {w : World} (ty : TypeId) (x : Operand) (ho : o.op = .load ty x) (hw : Region.wanted o (yielded ops a.tmps) = true)
    (b off : Nat) (hx : a.eval x = .pointer (some ⟨b, off, none⟩)) (v : Value) (d : TypeDesc) (hS : ∀ w, S w → w.cell? ⟨b, off, none⟩ = some v)
    (hu : P.underlying ty = some d) (hd : d.isRow = false)
    (h : Hw P ops Q S l (a.put o.dst v) w) : Hw P ops Q S ((o, true) :: l) a w :=
  hw_take v hw (fun w hw' => by
    unfold execOp
    simp only [ho, hx, Instr.loadAt, Instr.sureAddr, Sem.run_bind, Sem.run_pure, Result.andThen_ok, run_loadVar_one w _ ty v d (hS w hw') hu hd]) h

/-- A struct built of parts. -/
theorem hw_build {o : Oper} {l : List (Oper × Bool)} {a : Act} {w : World} (t : TypeId) (ps : Array (Nat × Operand)) (vs : Array (Nat × Value)) (v : Value) (ho : o.op = .build t ps) (hw : Region.wanted o (yielded ops a.tmps) = true)
    (hr : ∀ w, (Instr.build t vs).run P w = .ok v w) (hv : (ps.map fun (i, x) => (i, a.eval x)) = vs)
    (h : Hw P ops Q S l (a.put o.dst v) w) : Hw P ops Q S ((o, true) :: l) a w :=
  hw_take v hw (fun w _ => by
    unfold execOp
    simp only [ho, hv, Sem.run_bind, Sem.run_pure, hr w, Result.andThen_ok]) h

/-- A single-cell load in a plain region. -/
theorem wpList_load1 {rest : List Oper} {op : Oper} {a : Act} {w : World} (ty : TypeId) (x : Operand) (ho : op.op = .load ty x) (hw : Region.wanted op (yielded ops a.tmps) = true)
    (b o : Nat) (hx : a.eval x = .pointer (some ⟨b, o, none⟩)) (v : Value) (d : TypeDesc) (hc : w.cell? ⟨b, o, none⟩ = some v)
    (hu : P.underlying ty = some d) (hd : d.isRow = false)
    (h : wpList P ops Q rest (a.put op.dst v) w) : wpList P ops Q (op :: rest) a w :=
  wpList_step fun K hK => by
    rw [if_pos hw]
    unfold Oper.wp execOp
    simp only [ho, hx, Instr.loadAt, Instr.sureAddr, Sem.run_bind, Sem.run_pure, Result.andThen_ok, run_loadVar_one w _ ty v d hc hu hd]
    exact hK _ _ h

/-- A new variable of a struct or array type, at its zero value. -/
theorem wpList_alloc_row {rest : List Oper} {o : Oper} {a : Act} {w : World} (hg : o.guard = none) (T : TypeId) (ho : o.op = .alloc T) (Z : List Value) (sz by0 : Nat)
    (hi : (P.info? T).map (fun i => (i.zero, i.size, i.bytes)) = some (some (.agg Z.toArray), sz, by0))
    (h : wpList P ops Q rest (a.put o.dst (.pointer (some ⟨w.heap.size, 0, none⟩))) (w.alloc (.cells Z.toArray T))) : wpList P ops Q (o :: rest) a w := by
  obtain ⟨i, hi0, hiz, his, _⟩ := info_parts hi
  refine wpList_plain hg fun K hK => ?_
  have e1 : (execOp a.eval o).run P w = .ok (.value (.pointer (some ⟨w.heap.size, 0, none⟩))) (w.alloc (.cells Z.toArray T)) := by
    unfold execOp
    simp [ho, Instr.alloc, zeroValue, typeInfo, hi0, hiz, newVar, newRow, Value.cells, go_sem]
  unfold Oper.wp
  rw [e1]
  exact hK _ _ h

/-- A result that lies in memory. -/
theorem results_cell_mid {fn : Func} {p : Tmp} {ty : TypeId} (h : fn.results = #[.cell p ty]) (tmps : Array Value) (w : World) (b o : Nat) (cs : List Value) (d : TypeDesc)
    (hp : tmps.getD p undef = .pointer (some ⟨b, o, none⟩)) (hc : w.rangeAt b o cs)
    (hu : P.underlying ty = some d) (hd : d.isRow = true) (hi : (P.info? ty).map (·.size) = some cs.length) :
    (results fn tmps).run P w = .ok (.agg cs.toArray) w := by
  have hp' : tmps[p]?.getD undef = .pointer (some ⟨b, o, none⟩) := by simpa using hp
  simp [results, h, hp', asAddr, run_loadVar_mid w b o ty cs d hc hu hd hi]
end
end Go.Proofs.Qxb6603900a
