import Derived.Test.Qxb6603900aMem
namespace Go.Proofs.Qxb6603900a
open Go.ChangeShapes Go.WideShapes Go.ChangeAt Go.RowKit
set_option linter.unusedSimpArgs false
set_option linter.unusedVariables false

theorem foldl_set (off : Nat) : ∀ (vs : List Value) (k : Nat) (cells : Array Value), off + k + vs.length ≤ cells.size →
    (vs.zipIdx k).foldl (fun cs p => cs.setIfInBounds (off + p.2) p.1) cells = (cells.toList.take (off + k) ++ (vs ++ cells.toList.drop (off + k + vs.length))).toArray
  | [], k, cells, h => by simp
  | v :: r, k, cells, h => by
    simp only [List.length_cons] at h
    rw [List.zipIdx_cons, List.foldl_cons, foldl_set off r (k + 1) _ (by simp; omega)]
    congr 1
    have h1 : off + k < cells.toList.length := by simp; omega
    simp only [Array.toList_setIfInBounds]
    rw [show off + (k + 1) = (off + k) + 1 from by omega, List.take_set, List.take_add_one, List.getElem?_eq_getElem h1]
    simp only [Option.toList_some]
    rw [List.set_append_right _ _ (by simp; omega)]
    rw [show off + k - (cells.toList.take (off + k)).length = 0 from by simp; omega]
    rw [List.drop_set_of_lt (by omega)]
    simp only [List.set_cons_zero, List.length_cons, List.append_assoc, List.cons_append, List.nil_append]
    congr 4
    omega

theorem fill_one (place : Nat → Option (Nat × Nat)) (P Z : List Value) (i : Nat) (v : Value) (rest : List (Nat × Value)) (sz : Nat) (hp : place i = some (P.length, sz)) (hv : v.cells.size = sz) (hz : P.length + sz ≤ Z.length) :
    Instr.fill place (P ++ Z.drop P.length).toArray ((i, v) :: rest) = Instr.fill place ((P ++ v.cells.toList) ++ Z.drop (P ++ v.cells.toList).length).toArray rest := by
  have hl : (P ++ Z.drop P.length).toArray.size = Z.length := by simp; omega
  rw [Instr.fill, hp]
  simp only
  rw [if_neg (by rw [hl]; simp; omega)]
  congr 1
  have := foldl_set P.length v.cells.toList 0 (P ++ Z.drop P.length).toArray (by rw [hl]; simp; omega)
  rw [← Array.foldl_toList, Array.toList_zipIdx]
  refine this.trans ?_
  congr 1
  simp only [Nat.add_zero, List.take_left', Array.length_toList, hv, List.length_append, List.append_assoc]
  congr 2
  rw [List.drop_append, List.drop_of_length_le (by omega), List.drop_drop]
  simp

def zero48 : List Value := List.replicate 20 (.int .u8 0) ++ [.slice none 0 0]
theorem Try.info48z : (Try.prog.info? 48).map (fun i => (i.zero, i.size, i.bytes)) = some (some (.agg zero48.toArray), 21, 48) := by kernel_rfl
def z20 : List Value := List.replicate 20 (.int .u8 0)
def zero37 : List Value := mc ⟨0, z20, z20, 0, z20, 0, z20, false, 0, 0, 0, false⟩ (.slice none 0 0) (.slice none 0 0) (.slice none 0 0) 0
theorem Try.info37z : (Try.prog.info? 37).map (fun i => (i.zero, i.size, i.bytes)) = some (some (.agg zero37.toArray), 92, 232) := by kernel_rfl

theorem run_mapM_sizes {P : Program} (w : World) : ∀ (fs : List Field), (∀ f ∈ fs, (P.info? f.type).isSome = true) →
    (fs.mapM (m := Sem) fun f => Prod.mk f.offset <$> sizeOf f.type).run P w = .ok (fs.map fun f => (f.offset, (P.info? f.type).map (·.size) |>.getD 0)) w
  | [], _ => by simp
  | f :: r, h => by
    obtain ⟨i, hi⟩ := Option.isSome_iff_exists.1 (h f (List.mem_cons_self ..))
    have ih := run_mapM_sizes w r (fun g hg => h g (List.mem_cons_of_mem _ hg))
    have hs : (sizeOf f.type).run P w = .ok i.size w := by simp [sizeOf, typeInfo, hi]
    simp [List.mapM_cons, hs, ih, hi]

theorem run_build {P : Program} (w : World) (t : TypeId) (fs : Array Field) (Z out : List Value) (sz by0 : Nat) (parts : Array (Nat × Value)) (hu : P.underlying t = some (.struct fs)) (hi : (P.info? t).map (fun i => (i.zero, i.size, i.bytes)) = some (some (.agg Z.toArray), sz, by0))
    (hall : ∀ f ∈ fs.toList, (P.info? f.type).isSome = true)
    (hf : Instr.fill ((fs.toList.map fun f => (f.offset, (P.info? f.type).map (·.size) |>.getD 0))[·]?) Z.toArray parts.toList = some out.toArray) :
    (Instr.build t parts).run P w = .ok (.agg out.toArray) w := by
  obtain ⟨i, hi0, hiz, his, _⟩ := info_parts hi
  have hm : (fs.mapM (m := Sem) fun f => Prod.mk f.offset <$> sizeOf f.type).run P w = .ok (fs.toList.map fun f => (f.offset, (P.info? f.type).map (·.size) |>.getD 0)).toArray w := by
    rw [Array.mapM_eq_mapM_toList]
    simp [run_mapM_sizes w fs.toList hall]
  unfold Instr.build
  simp only [Sem.run_bind, zeroValue, typeInfo]
  simp [hi0, hiz, run_underlying hu, hm, Value.cells]
  have hf' : Instr.fill (fun x => Option.map (fun f => (f.offset, (Option.map (fun x => x.size) (P.info? f.type)).getD 0)) fs[x]?) Z.toArray parts.toList = some out.toArray := by simpa using hf
  rw [hf']
  simp

/-- 'Pointer{Key: .., Holders: ..}' -/
theorem run_build48 (w : World) (key : List Value) (a : Option Addr) (l c : Nat) (hk : key.length = 20) :
    (Instr.build 48 #[(0, .agg key.toArray), (1, .slice a l c)]).run Try.prog w = .ok (.agg (key ++ [Value.slice a l c]).toArray) w := by
  refine run_build w 48 _ zero48 _ 21 48 _ Try.underlying48 Try.info48z (by intro f hf; simp at hf; rcases hf with rfl | rfl <;> kernel_rfl) ?_
  have e0 : ((zero48.toArray) : Array Value) = (([] : List Value) ++ zero48.drop ([] : List Value).length).toArray := rfl
  rw [e0, fill_one _ [] zero48 0 (.agg key.toArray) _ 20 (by kernel_rfl) (by simp [Value.cells, hk]) (by decide)]
  rw [fill_one _ _ zero48 1 (.slice a l c) _ 1 (by simp only [Value.cells, List.nil_append, List.toList_toArray, hk]; kernel_rfl) rfl (by simp [Value.cells, hk]; decide)]
  rw [Instr.fill]
  simp [Value.cells, hk]
  exact Nat.le_refl _

/-- The whole message. -/
theorem run_build37 (w : World) (H : Hd) (c : HdC H) (ah ap aq : Option Addr) (lh ch lp cp lq cq : Nat) (pt : Int) :
    (Instr.build 37 #[(0, .int .u8 H.kd), (1, .agg H.key.toArray), (2, .agg H.src.toArray), (3, .int .u64 H.nonce), (4, .agg H.frm.toArray), (5, .int .i64 H.hops), (6, .agg H.stop.toArray), (7, .slice ah lh ch), (8, .bool H.last), (9, .slice ap lp cp), (10, .slice aq lq cq),
      (11, .int .i64 pt), (12, .int .i64 H.lvl), (13, .int .u64 H.bcn), (14, .int .u64 H.ack), (15, .bool H.det)]).run Try.prog w = .ok (.agg (mc H (.slice ah lh ch) (.slice ap lp cp) (.slice aq lq cq) pt).toArray) w := by
  have k1 := c.key.len
  have k2 := c.src.len
  have k3 := c.frm.len
  have k4 := c.stop.len
  have hz : zero37.length = 92 := by decide
  refine run_build w 37 _ zero37 _ 92 232 _ Try.underlying37 Try.info37z (by intro f hf; simp at hf; rcases hf with rfl | rfl | rfl | rfl | rfl | rfl | rfl | rfl | rfl | rfl | rfl | rfl | rfl | rfl | rfl | rfl <;> kernel_rfl) ?_
  have e0 : ((zero37.toArray) : Array Value) = (([] : List Value) ++ zero37.drop ([] : List Value).length).toArray := rfl
  rw [e0]
  rw [fill_one _ _ zero37 0 (.int .u8 H.kd) _ 1 (by simp only [Value.cells, List.nil_append, List.toList_toArray, List.length_append, List.length_cons, List.length_nil, k1, k2, k3, k4]; kernel_rfl) (by simp [Value.cells, k1, k2, k3, k4]) (by simp [Value.cells, k1, k2, k3, k4, hz])]
  rw [fill_one _ _ zero37 1 (.agg H.key.toArray) _ 20 (by simp only [Value.cells, List.nil_append, List.toList_toArray, List.length_append, List.length_cons, List.length_nil, k1, k2, k3, k4]; kernel_rfl) (by simp [Value.cells, k1, k2, k3, k4]) (by simp [Value.cells, k1, k2, k3, k4, hz])]
  rw [fill_one _ _ zero37 2 (.agg H.src.toArray) _ 20 (by simp only [Value.cells, List.nil_append, List.toList_toArray, List.length_append, List.length_cons, List.length_nil, k1, k2, k3, k4]; kernel_rfl) (by simp [Value.cells, k1, k2, k3, k4]) (by simp [Value.cells, k1, k2, k3, k4, hz])]
  rw [fill_one _ _ zero37 3 (.int .u64 H.nonce) _ 1 (by simp only [Value.cells, List.nil_append, List.toList_toArray, List.length_append, List.length_cons, List.length_nil, k1, k2, k3, k4]; kernel_rfl) (by simp [Value.cells, k1, k2, k3, k4]) (by simp [Value.cells, k1, k2, k3, k4, hz])]
  rw [fill_one _ _ zero37 4 (.agg H.frm.toArray) _ 20 (by simp only [Value.cells, List.nil_append, List.toList_toArray, List.length_append, List.length_cons, List.length_nil, k1, k2, k3, k4]; kernel_rfl) (by simp [Value.cells, k1, k2, k3, k4]) (by simp [Value.cells, k1, k2, k3, k4, hz])]
  rw [fill_one _ _ zero37 5 (.int .i64 H.hops) _ 1 (by simp only [Value.cells, List.nil_append, List.toList_toArray, List.length_append, List.length_cons, List.length_nil, k1, k2, k3, k4]; kernel_rfl) (by simp [Value.cells, k1, k2, k3, k4]) (by simp [Value.cells, k1, k2, k3, k4, hz])]
  rw [fill_one _ _ zero37 6 (.agg H.stop.toArray) _ 20 (by simp only [Value.cells, List.nil_append, List.toList_toArray, List.length_append, List.length_cons, List.length_nil, k1, k2, k3, k4]; kernel_rfl) (by simp [Value.cells, k1, k2, k3, k4]) (by simp [Value.cells, k1, k2, k3, k4, hz])]
  rw [fill_one _ _ zero37 7 (.slice ah lh ch) _ 1 (by simp only [Value.cells, List.nil_append, List.toList_toArray, List.length_append, List.length_cons, List.length_nil, k1, k2, k3, k4]; kernel_rfl) (by simp [Value.cells, k1, k2, k3, k4]) (by simp [Value.cells, k1, k2, k3, k4, hz])]
  rw [fill_one _ _ zero37 8 (.bool H.last) _ 1 (by simp only [Value.cells, List.nil_append, List.toList_toArray, List.length_append, List.length_cons, List.length_nil, k1, k2, k3, k4]; kernel_rfl) (by simp [Value.cells, k1, k2, k3, k4]) (by simp [Value.cells, k1, k2, k3, k4, hz])]
  rw [fill_one _ _ zero37 9 (.slice ap lp cp) _ 1 (by simp only [Value.cells, List.nil_append, List.toList_toArray, List.length_append, List.length_cons, List.length_nil, k1, k2, k3, k4]; kernel_rfl) (by simp [Value.cells, k1, k2, k3, k4]) (by simp [Value.cells, k1, k2, k3, k4, hz])]
  rw [fill_one _ _ zero37 10 (.slice aq lq cq) _ 1 (by simp only [Value.cells, List.nil_append, List.toList_toArray, List.length_append, List.length_cons, List.length_nil, k1, k2, k3, k4]; kernel_rfl) (by simp [Value.cells, k1, k2, k3, k4]) (by simp [Value.cells, k1, k2, k3, k4, hz])]
  rw [fill_one _ _ zero37 11 (.int .i64 pt) _ 1 (by simp only [Value.cells, List.nil_append, List.toList_toArray, List.length_append, List.length_cons, List.length_nil, k1, k2, k3, k4]; kernel_rfl) (by simp [Value.cells, k1, k2, k3, k4]) (by simp [Value.cells, k1, k2, k3, k4, hz])]
  rw [fill_one _ _ zero37 12 (.int .i64 H.lvl) _ 1 (by simp only [Value.cells, List.nil_append, List.toList_toArray, List.length_append, List.length_cons, List.length_nil, k1, k2, k3, k4]; kernel_rfl) (by simp [Value.cells, k1, k2, k3, k4]) (by simp [Value.cells, k1, k2, k3, k4, hz])]
  rw [fill_one _ _ zero37 13 (.int .u64 H.bcn) _ 1 (by simp only [Value.cells, List.nil_append, List.toList_toArray, List.length_append, List.length_cons, List.length_nil, k1, k2, k3, k4]; kernel_rfl) (by simp [Value.cells, k1, k2, k3, k4]) (by simp [Value.cells, k1, k2, k3, k4, hz])]
  rw [fill_one _ _ zero37 14 (.int .u64 H.ack) _ 1 (by simp only [Value.cells, List.nil_append, List.toList_toArray, List.length_append, List.length_cons, List.length_nil, k1, k2, k3, k4]; kernel_rfl) (by simp [Value.cells, k1, k2, k3, k4]) (by simp [Value.cells, k1, k2, k3, k4, hz])]
  rw [fill_one _ _ zero37 15 (.bool H.det) _ 1 (by simp only [Value.cells, List.nil_append, List.toList_toArray, List.length_append, List.length_cons, List.length_nil, k1, k2, k3, k4]; kernel_rfl) (by simp [Value.cells, k1, k2, k3, k4]) (by simp [Value.cells, k1, k2, k3, k4, hz])]
  rw [Instr.fill]
  simp [Value.cells, k1, k2, k3, k4, hz, mc]
end Go.Proofs.Qxb6603900a
