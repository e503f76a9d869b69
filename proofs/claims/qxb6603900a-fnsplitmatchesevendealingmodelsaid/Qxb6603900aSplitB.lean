import Derived.Test.Qxb6603900aSplitA
import Derived.Deep.CutRange
import Derived.Deep.CutBlock
namespace Go.Proofs.Qxb6603900a
open Go.ChangeShapes Go.WideShapes Go.ChangeAt Go.RowKit
set_option linter.unusedSimpArgs false
set_option linter.unusedVariables false

theorem totTo_mono {E : List PtV} : ∀ {j k : Nat}, j ≤ k → totTo E j ≤ totTo E k
  | j, 0, h => by rw [Nat.le_zero.1 h]; exact Nat.le_refl _
  | j, k + 1, h => by
    rcases Nat.lt_or_ge j (k + 1) with h1 | h1
    · exact Nat.le_trans (totTo_mono (Nat.lt_succ_iff.1 h1)) (Nat.le_add_right _ _)
    · rw [show j = k + 1 from by omega]; exact Nat.le_refl _

set_option maxRecDepth 100000 in
set_option maxHeartbeats 2000000 in
theorem split_few (H : Hd) (c : HdC H) (vh vp : Value) (aq : Option Addr) (cq : Nat) (E : List PtV) (pt n : Int) (w : World) (hk : H.kd = 9 ∨ H.kd = 10 ∨ H.kd = 11)
    (hrow : RowAt w aq E) (hE : ∀ y ∈ E, PtC y) (lE : (E.length : Int) ≤ 65536) (ht : (totTo E E.length : Int) ≤ 32768) (hn1 : -9223372036854775808 ≤ n) (hn2 : n ≤ 9223372036854775807)
    (hfew : n < 2 ∨ (totTo E E.length : Int) < 2) :
    Calls Try.prog 11 #[.agg (mc H vh vp (.slice aq E.length cq) pt).toArray, .int .i64 n] w fun e w' => ∃ g, e = .returned (.slice (some ⟨g, 0, none⟩) 1 1) ∧ Below w.heap.size w w' ∧ w'.rangeAt g 0 (mc H vh vp (.slice aq E.length cq) pt) := by
  have m0 := mc_0 H vh vp (.slice aq E.length cq) pt
  have m86 := mc_86 c vh vp (.slice aq E.length cq) pt
  have hlen := mc_len c vh vp (.slice aq E.length cq) pt
  have ims : (Try.prog.info? 37).map (·.size) = some (mc H vh vp (.slice aq E.length cq) pt).length := by rw [hlen]; exact Try.info37s
  have d37 := Try.underlying37
  have hW := range_new w (mc H vh vp (.slice aq E.length cq) pt) 37
  generalize hms : mc H vh vp (.slice aq E.length cq) pt = ms at *
  clear hms
  have HL : Hid (ms.length = 92) := hlen
  clear hlen
  have HK : Hid (H.kd = 9 ∨ H.kd = 10 ∨ H.kd = 11) := hk
  have HF : Hid (n < 2 ∨ (totTo E E.length : Int) < 2) := hfew
  clear hk hfew
  generalize H.kd = kd at *
  go_enter Try.func11, Try.ntmps11
  go_upto_block 0 with fail
  go_cut [] from 17 (fun wc => wc = w.alloc (.cells ms.toArray 37))
  case first =>
    rcases HK.out with rfl | rfl | rfl
    all_goals
      go_wp2
      go_meet
      rfl
  case rest =>
    subst hcut
    have bW : Below w.heap.size w (w.alloc (.cells ms.toArray 37)) := (Below.refl _ _).alloc (Nat.le_refl _) _
    have hsz : (w.alloc (.cells ms.toArray 37)).heap.size = w.heap.size + 1 := by simp
    have hc86 : (w.alloc (.cells ms.toArray 37)).cell? ⟨w.heap.size, 86, none⟩ = some (.slice aq E.length cq) := box_cell hW (Below.refl _ _) m86
    generalize (w.alloc (.cells ms.toArray 37)) = W at *
    have Z21 : zero48.toArray.size = 21 := by decide
    go_wp2
    go_loopw [5, 28] (fun tv iv wr => ∃ k : Nat, k ≤ E.length ∧ tv = .int .i64 (totTo E k : Nat) ∧ iv = .int .i64 k ∧ Below (w.heap.size + 1) W wr) (fun _ iv _ => E.length - (intOf iv).toNat)
    case atStart => exact ⟨0, Nat.zero_le _, rfl, rfl, Below.refl _ _⟩
    case round =>
      obtain ⟨k, hk, rfl, rfl, hbr⟩ := hrel
      have hmono : totTo E k ≤ totTo E E.length := totTo_mono hk
      by_cases lk : k < E.length
      · obtain ⟨x, hx⟩ : ∃ x, E[k]? = some x := ⟨_, List.getElem?_eq_getElem lk⟩
        have hxc := hE x (List.mem_of_getElem? hx)
        obtain ⟨bq, oq, rfl, rX0⟩ := hrow k x hx
        have hcl := PtV.cells_len hxc
        have hbq : bq < w.heap.size := range_lt rX0 (by omega)
        have rX : wr.rangeAt bq (oq + k * 21) x.cells := range_below hbr (by omega) (range_below bW hbq rX0)
        have ix : (Try.prog.info? 48).map (·.size) = some x.cells.length := by rw [hcl]; exact Try.info48s
        have iz : (Try.prog.info? 48).map (fun i => (i.zero, i.size, i.bytes)) = some (some (.agg zero48.toArray), x.cells.length, 48) := by rw [hcl]; exact Try.info48z
        have hZ : zero48.toArray.size = x.cells.length := by rw [hcl]; exact Z21
        have hone := PtV.cells_one hxc
        have h20 := PtV.cells_hs hxc
        have hs := totTo_succ hx
        have hmono1 : totTo E (k + 1) ≤ totTo E E.length := totTo_mono lk
        rw [hs] at hmono1
        have HS : Hid (totTo E (k + 1) = totTo E k + x.hs.length) := hs
        have hbn : Below (w.heap.size + 1) W (wr.alloc (.cells x.cells.toArray 48)) := hbr.alloc (by have := hbr.size; omega) _
        generalize totTo E k = T at *
        generalize totTo E E.length = TT at *
        generalize hxx : x.cells = xc at *
        have HR : Hid (RowAt w (some ⟨bq, oq, none⟩) E) := hrow
        have HE : Hid (∀ y ∈ E, PtC y) := hE
        have HX : Hid (E[k]? = some x) := hx
        clear hcl hxx hs hrow hE hx rX0 Z21
        go_wp2_with (first
          | (refine wpList_load_g 48 (.tmp 30) rfl rfl bq (oq + k * 21) rfl xc _ rX Try.underlying48 rfl ix ?_; simp only [Act.put, List.setIfInBounds_toArray, List.set_cons_zero, List.set_cons_succ, World.size_alloc])
          | (refine wpList_new_var rfl rfl 48 7 (.tmp 31) rfl rfl rfl rfl 124 rfl (by decide) xc zero48.toArray 48 rfl iz hZ hone ?_; simp only [Act.put, List.setIfInBounds_toArray, List.set_cons_zero, List.set_cons_succ, World.size_alloc]))
        go_roundw
        case rel => exact ⟨k + 1, by omega, by rw [HS.out]; go_num, by go_num, hbn⟩
        case measure => simp [intOf]; omega
      · have hke : k = E.length := by omega
        subst hke
        have hW2 : wr.rangeAt w.heap.size 0 ms := range_below hbr (by omega) hW
        have hmin : min n (totTo E E.length : Int) < 2 := by have := HF.out; omega
        generalize totTo E E.length = T at *
        have hbe : Below w.heap.size w wr := bW.trans (hbr.mono (by omega))
        go_wp2_with (first
          | (refine wpList_load_g 37 (.tmp 2) rfl rfl w.heap.size 0 rfl ms _ hW2 d37 rfl ims ?_; simp only [Act.put, List.setIfInBounds_toArray, List.set_cons_zero, List.set_cons_succ, World.size_alloc])
          | (refine wpList_buildSlice_one rfl 31 37 (.tmp 43) rfl zero37 ms 92 232 rfl Try.underlying31 Try.info37z (by omega) (by omega) HL.out ?_; simp only [Act.put, List.setIfInBounds_toArray, List.set_cons_zero, List.set_cons_succ, World.size_alloc]))
        all_goals
          go_ret
          exact ⟨_, rfl, hbe.alloc hbe.size _, range_new' _ _ _ _ rfl⟩
end Go.Proofs.Qxb6603900a
