import Derived.Test.Qxb6603900aSplitLaws
import Derived.Test.Qxb6603900aSize
namespace Go.Proofs.Qxb6603900a
open Go.ChangeShapes Go.WideShapes Go.ChangeAt Go.RowKit
set_option linter.unusedSimpArgs false
set_option linter.unusedVariables false

theorem wpList_buildSlice_one {P : Program} {ops : Array Oper} {rest : List Oper} {o : Oper} {a : Act} {w : World} {Q : Exit → Act → World → Prop} (hg : o.guard = none) (t e : TypeId) (x : Operand) (ho : o.op = .buildSlice t 1 #[(0, x)]) (Z cs : List Value) (sz by0 : Nat) (hx : a.eval x = .agg cs.toArray)
    (hu : P.underlying t = some (.slice e)) (hi : (P.info? e).map (fun i => (i.zero, i.size, i.bytes)) = some (some (.agg Z.toArray), sz, by0)) (hsz : 0 < sz) (hle : sz ≤ 16777216) (hc : cs.length = sz)
    (h : wpList P ops Q rest (a.put o.dst (.slice (some ⟨w.heap.size, 0, none⟩) 1 1)) (w.alloc (.cells cs.toArray e))) : wpList P ops Q (o :: rest) a w :=
  wpList_plain hg fun K hK => wp_buildSlice_one t e x ho Z cs sz by0 hx hu hi hsz hle hc (hK _ _ h)

theorem Try.underlying31 : Try.prog.underlying 31 = some (.slice 37) := by kernel_rfl

set_option maxRecDepth 100000 in
set_option maxHeartbeats 2000000 in
theorem split_kind (H : Hd) (c : HdC H) (vh vp vq : Value) (pt n : Int) (w : World) (k9 : H.kd ≠ 9) (k10 : H.kd ≠ 10) (k11 : H.kd ≠ 11) :
    Calls Try.prog 11 #[.agg (mc H vh vp vq pt).toArray, .int .i64 n] w fun e w' => ∃ g, e = .returned (.slice (some ⟨g, 0, none⟩) 1 1) ∧ Below w.heap.size w w' ∧ w'.rangeAt g 0 (mc H vh vp vq pt) := by
  have m0 := mc_0 H vh vp vq pt
  have hlen := mc_len c vh vp vq pt
  have ims : (Try.prog.info? 37).map (·.size) = some (mc H vh vp vq pt).length := by rw [hlen]; exact Try.info37s
  have u37 := Try.underlying37
  have hW := range_new w (mc H vh vp vq pt) 37
  generalize hms : mc H vh vp vq pt = ms at *
  clear hms
  have HL : Hid (ms.length = 92) := hlen
  clear hlen
  go_enter Try.func11, Try.ntmps11
  go_wp2_with (first
    | (refine wpList_load_g 37 (.tmp 2) rfl rfl w.heap.size 0 rfl ms _ hW u37 rfl ims ?_; simp only [Act.put, List.setIfInBounds_toArray, List.set_cons_zero, List.set_cons_succ, World.size_alloc])
    | (refine wpList_buildSlice_one rfl 31 37 (.tmp 19) rfl zero37 ms 92 232 rfl Try.underlying31 Try.info37z (by omega) (by omega) HL.out ?_; simp only [Act.put, List.setIfInBounds_toArray, List.set_cons_zero, List.set_cons_succ, World.size_alloc]))

  go_ret
  refine ⟨_, rfl, ?_, ?_⟩
  · exact ((Below.refl _ _).alloc (Nat.le_refl _) _).alloc (by simp) _
  · exact range_new' _ _ _ _ (by simp)
end Go.Proofs.Qxb6603900a
