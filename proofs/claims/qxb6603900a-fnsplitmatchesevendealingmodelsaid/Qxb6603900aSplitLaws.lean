import Derived.Test.Qxb6603900aToMsg
import Derived.Test.Qxb6603900aHeldT
import Derived.Test.Qxb6603900aDeal
namespace Go.Proofs.Qxb6603900a
open Go.ChangeShapes Go.WideShapes Go.ChangeAt Go.RowKit
set_option linter.unusedSimpArgs false
set_option linter.unusedVariables false

/-! ### the cells of a message, one turned -/
def pre (H : Hd) : List Value := [.int .u8 H.kd] ++ (H.key ++ (H.src ++ ([.int .u64 H.nonce] ++ (H.frm ++ ([.int .i64 H.hops] ++ H.stop)))))
theorem pre_len {H : Hd} (c : HdC H) : (pre H).length = 83 := by unfold pre; simp [c.key.len, c.src.len, c.frm.len, c.stop.len]
theorem mc_eq (H : Hd) (h p q : Value) (pt : Int) : mc H h p q pt = pre H ++ [h, .bool H.last, p, q, .int .i64 pt, .int .i64 H.lvl, .int .u64 H.bcn, .int .u64 H.ack, .bool H.det] := by
  unfold mc pre; simp
theorem mc_set85 {H : Hd} (c : HdC H) (h p q p' : Value) (pt : Int) : (mc H h p q pt).set 85 p' = mc H h p' q pt := by
  rw [mc_eq, mc_eq, List.set_append_right _ _ (by rw [pre_len c]; omega), pre_len c]; rfl
theorem mc_set86 {H : Hd} (c : HdC H) (h p q q' : Value) (pt : Int) : (mc H h p q pt).set 86 q' = mc H h p q' pt := by
  rw [mc_eq, mc_eq, List.set_append_right _ _ (by rw [pre_len c]; omega), pre_len c]; rfl
theorem mc_set87 {H : Hd} (c : HdC H) (h p q : Value) (pt pt' : Int) : (mc H h p q pt).set 87 (.int .i64 pt') = mc H h p q pt' := by
  rw [mc_eq, mc_eq, List.set_append_right _ _ (by rw [pre_len c]; omega), pre_len c]; rfl

/-! ### a[h : h+k : h+k] -/
def subA (a : Option Addr) (h k : Nat) : Option Addr := if k = 0 then a else a.map (·.add (h * 20))
theorem run_sub (w : World) (a : Option Addr) (n c h k : Nat) (hk : h + k ≤ c) :
    (Instr.sliceAt 34 (.slice a n c) (some (.int .i64 (h : Int))) (some (.int .i64 ((h : Int) + (k : Int)))) (some (.int .i64 ((h : Int) + (k : Int))))).run Try.prog w = .ok (.slice (subA a h k) k k) w := by
  have hu : Try.prog.underlying 34 = some (.slice (Try.prog.elem 34)) := by kernel_rfl
  have hs : (sizeOf (Try.prog.elem 34)).run Try.prog w = .ok 20 w := by kernel_rfl
  have e1 : ((h : Int) + (k : Int)).toNat = h + k := by omega
  rw [run_sliceAt_slice _ _ _ _ _ _ hu, run_slice_any _ _ _ _ _ hu]
  simp only [Instr.sliceBounds, Sem.run_bind]
  rw [run_sliceBound _ _ _ _ _ (by omega) (by omega)]
  simp only [Result.andThen_ok]
  rw [run_sliceBound _ _ _ _ _ (by omega) (by omega)]
  simp only [Result.andThen_ok]
  rw [run_sliceBound _ _ _ _ _ (by omega) (by omega)]
  simp only [Result.andThen_ok, Sem.run_pure, hs, e1, Int.toNat_natCast, sliced, subA]
  congr 1
  by_cases h0 : k = 0
  · subst h0; simp
  · rw [if_neg (by omega), if_neg h0, show h + k - h = k from by omega]

theorem ids_sub {w : World} {a : Option Addr} {L : List (List Value)} (hI : IdsAt w a L) (h k : Nat) : IdsAt w (subA a h k) ((L.drop h).take k) := fun i cs hi => by
  have hik : i < k := by have := (List.getElem?_eq_some_iff.1 hi).1; simp at this; omega
  rw [List.getElem?_take_of_lt hik, List.getElem?_drop] at hi
  obtain ⟨b, o, ha, hr⟩ := hI (h + i) cs hi
  refine ⟨b, o + h * 20, ?_, ?_⟩
  · rw [subA, if_neg (by omega), ha, Option.map_some, Addr.add_mid]
  · rwa [show o + h * 20 + i * 20 = o + (h + i) * 20 from by omega]

/-! ### []T{v} -/
theorem run_buildSlice_one {P : Program} (w : World) (t e : TypeId) (Z cs : List Value) (sz by0 : Nat) (hu : P.underlying t = some (.slice e)) (hi : (P.info? e).map (fun i => (i.zero, i.size, i.bytes)) = some (some (.agg Z.toArray), sz, by0))
    (hsz : 0 < sz) (hle : sz ≤ 16777216) (hc : cs.length = sz) :
    (Instr.buildSlice t 1 #[(0, .agg cs.toArray)]).run P w = .ok (.slice (some ⟨w.heap.size, 0, none⟩) 1 1) (w.alloc (.cells cs.toArray e)) := by
  obtain ⟨i, hi0, hiz, his, _⟩ := info_parts hi
  have hsize : (sizeOf e).run P w = .ok sz w := by simp [sizeOf, typeInfo, hi0, his]
  have hzero : (zeroValue e).run P w = .ok (.agg Z.toArray) w := by simp [zeroValue, typeInfo, hi0, hiz]
  have hf : ∀ A : Array Value, A.size = sz → Instr.fill (fun i => some (i * sz, sz)) A [(0, .agg cs.toArray)] = some cs.toArray := fun A hA => by
    have e0 : A = (([] : List Value) ++ A.toList.drop ([] : List Value).length).toArray := by simp
    rw [e0, fill_one _ [] A.toList 0 (.agg cs.toArray) [] sz (by simp) (by simp [Value.cells, hc]) (by simp [hA]), Instr.fill]
    simp [Value.cells]
    omega
  unfold Instr.buildSlice
  simp only [Sem.run_bind, run_underlying hu, Result.andThen_ok, hsize, Nat.one_mul]
  rw [if_neg (by omega), if_neg (by omega)]
  simp only [Sem.run_bind, hzero, Result.andThen_ok, Sem.run_pure]
  rw [hf _ (by simp)]
  simp [newRow, go_sem]

theorem wp_buildSlice_one {P : Program} {o : Oper} {a : Act} {w : World} {K : Act → World → Prop} {Q : Exit → Act → World → Prop} (t e : TypeId) (x : Operand) (ho : o.op = .buildSlice t 1 #[(0, x)]) (Z cs : List Value) (sz by0 : Nat) (hx : a.eval x = .agg cs.toArray)
    (hu : P.underlying t = some (.slice e)) (hi : (P.info? e).map (fun i => (i.zero, i.size, i.bytes)) = some (some (.agg Z.toArray), sz, by0)) (hsz : 0 < sz) (hle : sz ≤ 16777216) (hc : cs.length = sz)
    (h : K (a.put o.dst (.slice (some ⟨w.heap.size, 0, none⟩) 1 1)) (w.alloc (.cells cs.toArray e))) : o.wp P a w K Q := by
  have e1 : (execOp a.eval o).run P w = .ok (.value (.slice (some ⟨w.heap.size, 0, none⟩) 1 1)) (w.alloc (.cells cs.toArray e)) := by
    unfold execOp
    have hm : ((#[(0, x)] : Array (Nat × Operand)).map fun (i, x) => (i, a.eval x)) = #[(0, .agg cs.toArray)] := by simp [hx]
    simp only [ho, hm, Sem.run_bind, run_buildSlice_one w t e Z cs sz by0 hu hi hsz hle hc, Result.andThen_ok, Sem.run_pure]
  unfold Oper.wp
  rw [e1]
  exact h

/-! ### a store of one cell -/
theorem wp_store1 {P : Program} {o : Oper} {a : Act} {w : World} {K : Act → World → Prop} {Q : Exit → Act → World → Prop} (ty : TypeId) (x y : Operand) (ho : o.op = .store ty x y) (hd : o.dst = none) (b off : Nat) (v : Value) (hx : a.eval x = .pointer (some ⟨b, off, none⟩)) (hy : a.eval y = v)
    (hc : (w.cell? ⟨b, off, none⟩).isSome = true) (hf : w.frozen? ⟨b, off, none⟩ = false) (hv : v.oneCell' = true) (hs : (P.info? ty).map (·.size) = some 1) (hcs : v.cells = #[v])
    (h : K a (w.setCell ⟨b, off, none⟩ v)) : o.wp P a w K Q := by
  have hth : w.there b off [v].length := fun j hj => by
    have : j = 0 := by simpa using hj
    subst this; exact ⟨hc, hf⟩
  have e1 := run_storeCells_cells (P := P) b off [v] 0 w (fun j hj => by simpa using (hth j hj).1) (fun j hj => by simpa using (hth j hj).2) (fun u hu => by rw [List.mem_singleton.1 hu]; exact hv)
  cases hq : P.info? ty with
  | none => simp [hq] at hs
  | some i =>
    have hi : i.size = 1 := by simpa [hq] using hs
    have e2 : (storeVar ty ⟨b, off, none⟩ v).run P w = .ok () (w.setCell ⟨b, off, none⟩ v) := by
      simp only [Nat.add_zero, World.setCells] at e1
      simp [storeVar, sizeOf, typeInfo, hq, hi, hcs, e1]
    unfold Oper.wp execOp
    simp only [ho, hx, hy, Instr.storeAt, Instr.sureAddr, Sem.run_bind, Sem.run_pure, Result.andThen_ok, e2]
    show K (a.put o.dst undef) _
    rw [hd]
    exact h

/-! ### a row of pointers that the call owns -/
theorem flat_get : ∀ (F : List PtV), (∀ y ∈ F, PtC y) → ∀ (i : Nat) (y : PtV) (j : Nat) (v : Value), F[i]? = some y → y.cells[j]? = some v → (F.flatMap PtV.cells)[i * 21 + j]? = some v
  | [], _, i, y, j, v, h, _ => by simp at h
  | x :: r, hF, 0, y, j, v, h, hv => by
    simp at h; subst h
    rw [List.flatMap_cons, Nat.zero_mul, Nat.zero_add, List.getElem?_append_left (List.getElem?_eq_some_iff.1 hv).1]; exact hv
  | x :: r, hF, i + 1, y, j, v, h, hv => by
    have hl := PtV.cells_len (hF x (List.mem_cons_self ..))
    rw [List.flatMap_cons, List.getElem?_append_right (by omega), hl, show (i + 1) * 21 + j - 21 = i * 21 + j from by omega]
    exact flat_get r (fun z hz => hF z (List.mem_cons_of_mem _ hz)) i y j v (by simpa using h) hv

theorem row_of_owns {w : World} {base : Nat} {v : Value} {F : List PtV} (h : w.ownsRow base 48 21 v F.length (F.flatMap PtV.cells)) (hF : ∀ y ∈ F, PtC y) : ∃ a cap, v = .slice a F.length cap ∧ RowAt w a F ∧ (∀ b o, a = some ⟨b, o, none⟩ → base ≤ b) := by
  obtain ⟨h1, h2⟩ := h
  rcases h2 with ⟨rfl, hn⟩ | ⟨g, cap, cur, rfl, hg, hh, hn, hm, hs, ht⟩
  · refine ⟨none, 0, by rw [hn], fun i x hi => ?_, fun b o h => by cases h⟩
    have := (List.getElem?_eq_some_iff.1 hi).1
    omega
  · refine ⟨some ⟨g, 0, none⟩, cap, rfl, fun i x hi => ⟨g, 0, rfl, fun j v hv => ?_⟩, fun b o h => by simp at h; omega⟩
    have hx := flat_get F hF i x j v hi hv
    have hlt : i * 21 + j < F.length * 21 := by rw [← h1]; exact (List.getElem?_eq_some_iff.1 hx).1
    rw [← ht, List.getElem?_take_of_lt hlt, Array.getElem?_toList] at hx
    rw [cell_of_row _ _ _ _ _ _ hh, Nat.zero_add]
    exact hx
end Go.Proofs.Qxb6603900a
