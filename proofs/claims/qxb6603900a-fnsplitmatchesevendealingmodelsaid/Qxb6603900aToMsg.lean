import Derived.Test.Qxb6603900aIDs
import Derived.Test.Qxb6603900aBuild
import Derived.Test.Qxb6603900aHeld2
namespace Go.Proofs.Qxb6603900a
open Go.ChangeShapes Go.WideShapes Go.ChangeAt Go.RowKit
set_option linter.unusedSimpArgs false
set_option linter.unusedVariables false

theorem Try.info37s : (Try.prog.info? 37).map (·.size) = some 92 := by kernel_rfl
theorem Try.info48s : (Try.prog.info? 48).map (·.size) = some 21 := by kernel_rfl

theorem mc_size {H : Hd} (c : HdC H) (h p q : Value) (pt : Int) : (mc H h p q pt).toArray.size = 92 := by rw [List.size_toArray]; exact mc_len c h p q pt

theorem box_cell {W w' : World} {B : Nat} {ms : List Value} (hW : W.rangeAt B 0 ms) (hb : Below (B + 1) W w') {j : Nat} {v : Value} (hj : ms[j]? = some v) : w'.cell? ⟨B, j, none⟩ = some v := by
  have := range_cell (range_below hb (by omega) hW) j hj
  rwa [Nat.zero_add] at this
theorem there_below {B : Nat} {w w' : World} (h : Below B w w') {b o n : Nat} (hb : b < B) (ht : w.there b o n) : w'.there b o n := fun j hj => by
  have h1 := ht j hj
  exact ⟨by rw [h.cell (p := ⟨b, o + j, none⟩) hb]; exact h1.1, by rw [h.frozen (p := ⟨b, o + j, none⟩) hb]; exact h1.2⟩
theorem take_snoc {α : Type} {l : List α} {k : Nat} {x : α} (h : l[k]? = some x) : l.take (k + 1) = l.take k ++ [x] := by
  rw [List.take_add_one, h]; rfl
theorem owns_lt {w : World} {base : Nat} {e : TypeId} {size g n cap : Nat} {xs : List Value} (h : w.ownsRow base e size (.slice (some ⟨g, 0, none⟩) n cap) n xs) : g < w.heap.size := by
  obtain ⟨h1, h2⟩ := h
  rcases h2 with ⟨h2, _⟩ | ⟨g', cap', cur, hv, hg, hh, _⟩
  · cases h2
  · simp only [Value.slice.injEq, Option.some.injEq, Addr.mk.injEq] at hv
    obtain ⟨⟨rfl, _, _⟩, _, rfl⟩ := hv
    exact (Array.getElem?_eq_some_iff.1 hh).1
theorem two_blocks (w : World) (ms : List Value) : ∃ W : World, W = (w.alloc (.cells ms.toArray 27)).alloc (.cells zero37.toArray 37) ∧ Below w.heap.size w W ∧ W.heap.size = w.heap.size + 2 ∧ W.rangeAt w.heap.size 0 ms ∧ W.there (w.heap.size + 1) 0 92 := by
  refine ⟨_, rfl, ((Below.refl _ _).alloc (Nat.le_refl _) _).alloc (by simp) _, by simp, World.rangeAt_alloc (range_new w ms 27) _, fun j hj => ?_⟩
  have hh := heap_alloc_new (w.alloc (.cells ms.toArray 27)) (.cells zero37.toArray 37)
  have hs : (w.alloc (.cells ms.toArray 27)).heap.size = w.heap.size + 1 := by simp
  rw [hs] at hh
  refine ⟨?_, frozen_of_row _ _ _ _ _ hh⟩
  rw [Nat.zero_add, cell_of_row _ _ _ _ _ _ hh]
  have hz : zero37.length = 92 := by decide
  simp [hz, hj]
theorem ids_set {w : World} {a : Option Addr} {L : List (List Value)} (h : IdsAt w a L) {g : Nat} (hg : ∀ b o, a = some ⟨b, o, none⟩ → b ≠ g) (o : Nat) (vs : List Value) : IdsAt (w.setCells g o vs) a L := fun i cs hi => by
  obtain ⟨b, o', ha, hr⟩ := h i cs hi
  exact ⟨b, o', ha, World.rangeAt_setCells_apart hr _ _ _ (Or.inl (hg b o' ha))⟩
theorem row_set {w : World} {a : Option Addr} {E : List PtV} (h : RowAt w a E) {g : Nat} (hg : ∀ b o, a = some ⟨b, o, none⟩ → b ≠ g) (o : Nat) (vs : List Value) : RowAt (w.setCells g o vs) a E := fun i x hi => by
  obtain ⟨b, o', ha, hr⟩ := h i x hi
  exact ⟨b, o', ha, World.rangeAt_setCells_apart hr _ _ _ (Or.inl (hg b o' ha))⟩

set_option maxRecDepth 100000 in
set_option maxHeartbeats 2000000 in
theorem toMsg_nil (H : Hd) (c : HdC H) (ah ap aq : Option Addr) (ch cp cq : Nat) (HL PL : List (List Value)) (PS : List PtV) (pt : Int) (w : World)
    (hH : IdsAt w ah HL) (hHc : ∀ cs ∈ HL, IdC cs) (lH : (HL.length : Int) ≤ 65536) (hP : IdsAt w ap PL) (hPc : ∀ cs ∈ PL, IdC cs) (lP : (PL.length : Int) ≤ 65536)
    (hrow : RowAt w aq PS) (hps : ∀ x ∈ PS, PtC x ∧ IdsAt w x.a x.hs ∧ (x.hs.length : Int) ≤ 65536) (lQ : (PS.length : Int) ≤ 65536) (hnil : aq = none) :
    Calls Try.prog 10 #[.agg (mc H (.slice ah HL.length ch) (.slice ap PL.length cp) (.slice aq PS.length cq) pt).toArray] w fun e w' => ∃ ah' ch' ap' cp' aq' cq' E, e = .returned (.agg (mc H (.slice ah' HL.length ch') (.slice ap' PL.length cp') (.slice aq' E.length cq') pt).toArray) ∧ Below w.heap.size w w' ∧
      IdsAt w' ah' HL ∧ IdsAt w' ap' PL ∧ RowAt w' aq' E ∧ (∀ y ∈ E, PtC y ∧ IdsAt w' y.a y.hs ∧ y.hs.length ≤ y.cap) ∧ E.map PtV.bare = PS.map PtV.bare := by
  have ikey : (Try.prog.info? 22).map (·.size) = some H.key.length := by rw [c.key.len]; exact Try.info22s
  have isrc : (Try.prog.info? 22).map (·.size) = some H.src.length := by rw [c.src.len]; exact Try.info22s
  have ifrm : (Try.prog.info? 22).map (·.size) = some H.frm.length := by rw [c.frm.len]; exact Try.info22s
  have istop : (Try.prog.info? 22).map (·.size) = some H.stop.length := by rw [c.stop.len]; exact Try.info22s
  have m0 := mc_0 H (.slice ah HL.length ch) (.slice ap PL.length cp) (.slice aq PS.length cq) pt
  have m41 := mc_41 c (.slice ah HL.length ch) (.slice ap PL.length cp) (.slice aq PS.length cq) pt
  have m62 := mc_62 c (.slice ah HL.length ch) (.slice ap PL.length cp) (.slice aq PS.length cq) pt
  have m83 := mc_83 c (.slice ah HL.length ch) (.slice ap PL.length cp) (.slice aq PS.length cq) pt
  have m84 := mc_84 c (.slice ah HL.length ch) (.slice ap PL.length cp) (.slice aq PS.length cq) pt
  have m85 := mc_85 c (.slice ah HL.length ch) (.slice ap PL.length cp) (.slice aq PS.length cq) pt
  have m86 := mc_86 c (.slice ah HL.length ch) (.slice ap PL.length cp) (.slice aq PS.length cq) pt
  have m87 := mc_87 c (.slice ah HL.length ch) (.slice ap PL.length cp) (.slice aq PS.length cq) pt
  have m88 := mc_88 c (.slice ah HL.length ch) (.slice ap PL.length cp) (.slice aq PS.length cq) pt
  have m89 := mc_89 c (.slice ah HL.length ch) (.slice ap PL.length cp) (.slice aq PS.length cq) pt
  have m90 := mc_90 c (.slice ah HL.length ch) (.slice ap PL.length cp) (.slice aq PS.length cq) pt
  have m91 := mc_91 c (.slice ah HL.length ch) (.slice ap PL.length cp) (.slice aq PS.length cq) pt
  obtain ⟨W, hWe, bw0, hsz, hW, thW⟩ := two_blocks w (mc H (.slice ah HL.length ch) (.slice ap PL.length cp) (.slice aq PS.length cq) pt)
  have rkey := mc_key hW
  have rsrc := mc_src c hW
  have rfrm := mc_frm c hW
  have rstop := mc_stop c hW
  rw [Nat.zero_add] at rkey rsrc rfrm rstop
  generalize (mc H (.slice ah HL.length ch) (.slice ap PL.length cp) (.slice aq PS.length cq) pt) = ms at *
  have HPS : Hid (PS = []) := by
    show PS = []
    cases PS with
    | nil => rfl
    | cons x r => obtain ⟨b, o, h, _⟩ := hrow 0 x rfl; rw [hnil] at h; cases h
  have hneq := fun w => run_neq_slice_nil_any (P := Try.prog) w 25 45 none PS.length cq 0 0 Try.underlying25
  subst hnil
  clear hrow hps
  have HWe : Hid (W = (w.alloc (.cells ms.toArray 27)).alloc (.cells zero37.toArray 37)) := hWe
  clear hWe
  go_enter Try.func10, Try.ntmps10
  go_wp2_with (refine wpList_alloc_row rfl 37 rfl zero37 92 232 Try.info37z ?_; simp only [Act.put, List.setIfInBounds_toArray, List.set_cons_zero, List.set_cons_succ, World.size_alloc])
  rw [← HWe.out]
  obtain ⟨wz, hwz⟩ : ∃ wz, wz = W := ⟨_, rfl⟩
  rw [← hwz]
  have bW : Below (w.heap.size + 2) W wz := by rw [hwz]; exact Below.refl _ _
  have bW0 : Below w.heap.size w wz := by rw [hwz]; exact bw0
  clear hwz HWe hneq
  refine wp_region_Hw (S := fun w' => Below (w.heap.size + 1) W w') [(0, true), (1, true), (2, true), (3, true), (4, true), (5, true), (6, true), (7, true), (8, true), (9, true), (10, true), (11, true), (12, true), (13, true), (14, true), (15, true), (17, true), (18, true), (19, true), (20, true), (22, true), (23, true), (24, true), (25, true), (26, true), (27, true), (28, true), (29, true), (30, true), (31, true), (32, true), (16, false), (21, false), (33, true), (34, false)] (by kernel_rfl) (by kernel_rfl) rfl (by kernel_rfl) (fun _ _ _ _ h => h) (bW.mono (by omega)).drew (fun hHeld => ?_)
  simp only [pick, List.map_cons, List.map_nil, Array.getD_eq_getD_getElem?, List.getElem?_toArray, List.getElem?_cons_zero, List.getElem?_cons_succ, Option.getD_some]
  refine hw_ex rfl ?_; apply Exists.intro; refine ⟨fun w hSw => ?_, ?_⟩; (go_simp; first | done | (with_reducible rfl))
  simp only [Act.put, Act.eval, List.setIfInBounds_toArray, List.set_cons_zero, List.set_cons_succ, Array.getD_eq_getD_getElem?, List.getElem?_toArray, List.getElem?_cons_zero, List.getElem?_cons_succ, Option.getD_some]
  refine hw_load1 5 _ rfl rfl w.heap.size 0 rfl (.int .u8 H.kd) _ (fun w' h' => box_cell hW h' m0) Try.underlying5 rfl ?_
  simp only [Act.put, Act.eval, List.setIfInBounds_toArray, List.set_cons_zero, List.set_cons_succ, Array.getD_eq_getD_getElem?, List.getElem?_toArray, List.getElem?_cons_zero, List.getElem?_cons_succ, Option.getD_some]
  refine hw_ex rfl ?_; apply Exists.intro; refine ⟨fun w hSw => ?_, ?_⟩; (go_simp; first | done | (with_reducible rfl))
  simp only [Act.put, Act.eval, List.setIfInBounds_toArray, List.set_cons_zero, List.set_cons_succ, Array.getD_eq_getD_getElem?, List.getElem?_toArray, List.getElem?_cons_zero, List.getElem?_cons_succ, Option.getD_some]
  refine hw_load 22 _ rfl rfl w.heap.size 1 rfl H.key _ (fun w' h' => range_below h' (by omega) rkey) Try.underlying22 rfl ikey ?_
  simp only [Act.put, Act.eval, List.setIfInBounds_toArray, List.set_cons_zero, List.set_cons_succ, Array.getD_eq_getD_getElem?, List.getElem?_toArray, List.getElem?_cons_zero, List.getElem?_cons_succ, Option.getD_some]
  refine hw_ex rfl ?_; apply Exists.intro; refine ⟨fun w hSw => ?_, ?_⟩; (go_simp; first | done | (with_reducible rfl))
  simp only [Act.put, Act.eval, List.setIfInBounds_toArray, List.set_cons_zero, List.set_cons_succ, Array.getD_eq_getD_getElem?, List.getElem?_toArray, List.getElem?_cons_zero, List.getElem?_cons_succ, Option.getD_some]
  refine hw_load 22 _ rfl rfl w.heap.size 21 rfl H.src _ (fun w' h' => range_below h' (by omega) rsrc) Try.underlying22 rfl isrc ?_
  simp only [Act.put, Act.eval, List.setIfInBounds_toArray, List.set_cons_zero, List.set_cons_succ, Array.getD_eq_getD_getElem?, List.getElem?_toArray, List.getElem?_cons_zero, List.getElem?_cons_succ, Option.getD_some]
  refine hw_ex rfl ?_; apply Exists.intro; refine ⟨fun w hSw => ?_, ?_⟩; (go_simp; first | done | (with_reducible rfl))
  simp only [Act.put, Act.eval, List.setIfInBounds_toArray, List.set_cons_zero, List.set_cons_succ, Array.getD_eq_getD_getElem?, List.getElem?_toArray, List.getElem?_cons_zero, List.getElem?_cons_succ, Option.getD_some]
  refine hw_load1 23 _ rfl rfl w.heap.size 41 rfl (.int .u64 H.nonce) _ (fun w' h' => box_cell hW h' m41) Try.underlying23 rfl ?_
  simp only [Act.put, Act.eval, List.setIfInBounds_toArray, List.set_cons_zero, List.set_cons_succ, Array.getD_eq_getD_getElem?, List.getElem?_toArray, List.getElem?_cons_zero, List.getElem?_cons_succ, Option.getD_some]
  refine hw_ex rfl ?_; apply Exists.intro; refine ⟨fun w hSw => ?_, ?_⟩; (go_simp; first | done | (with_reducible rfl))
  simp only [Act.put, Act.eval, List.setIfInBounds_toArray, List.set_cons_zero, List.set_cons_succ, Array.getD_eq_getD_getElem?, List.getElem?_toArray, List.getElem?_cons_zero, List.getElem?_cons_succ, Option.getD_some]
  refine hw_load 22 _ rfl rfl w.heap.size 42 rfl H.frm _ (fun w' h' => range_below h' (by omega) rfrm) Try.underlying22 rfl ifrm ?_
  simp only [Act.put, Act.eval, List.setIfInBounds_toArray, List.set_cons_zero, List.set_cons_succ, Array.getD_eq_getD_getElem?, List.getElem?_toArray, List.getElem?_cons_zero, List.getElem?_cons_succ, Option.getD_some]
  refine hw_ex rfl ?_; apply Exists.intro; refine ⟨fun w hSw => ?_, ?_⟩; (go_simp; first | done | (with_reducible rfl))
  simp only [Act.put, Act.eval, List.setIfInBounds_toArray, List.set_cons_zero, List.set_cons_succ, Array.getD_eq_getD_getElem?, List.getElem?_toArray, List.getElem?_cons_zero, List.getElem?_cons_succ, Option.getD_some]
  refine hw_load1 3 _ rfl rfl w.heap.size 62 rfl (.int .i64 H.hops) _ (fun w' h' => box_cell hW h' m62) Try.underlying3 rfl ?_
  simp only [Act.put, Act.eval, List.setIfInBounds_toArray, List.set_cons_zero, List.set_cons_succ, Array.getD_eq_getD_getElem?, List.getElem?_toArray, List.getElem?_cons_zero, List.getElem?_cons_succ, Option.getD_some]
  refine hw_ex rfl ?_; apply Exists.intro; refine ⟨fun w hSw => ?_, ?_⟩; (go_simp; first | done | (with_reducible rfl))
  simp only [Act.put, Act.eval, List.setIfInBounds_toArray, List.set_cons_zero, List.set_cons_succ, Array.getD_eq_getD_getElem?, List.getElem?_toArray, List.getElem?_cons_zero, List.getElem?_cons_succ, Option.getD_some]
  refine hw_load 22 _ rfl rfl w.heap.size 63 rfl H.stop _ (fun w' h' => range_below h' (by omega) rstop) Try.underlying22 rfl istop ?_
  simp only [Act.put, Act.eval, List.setIfInBounds_toArray, List.set_cons_zero, List.set_cons_succ, Array.getD_eq_getD_getElem?, List.getElem?_toArray, List.getElem?_cons_zero, List.getElem?_cons_succ, Option.getD_some]
  refine hw_ex rfl ?_; apply Exists.intro; refine ⟨fun w hSw => ?_, ?_⟩; (go_simp; first | done | (with_reducible rfl))
  simp only [Act.put, Act.eval, List.setIfInBounds_toArray, List.set_cons_zero, List.set_cons_succ, Array.getD_eq_getD_getElem?, List.getElem?_toArray, List.getElem?_cons_zero, List.getElem?_cons_succ, Option.getD_some]
  refine hw_load1 24 _ rfl rfl w.heap.size 83 rfl (.slice ah HL.length ch) _ (fun w' h' => box_cell hW h' m83) Try.underlying24 rfl ?_
  simp only [Act.put, Act.eval, List.setIfInBounds_toArray, List.set_cons_zero, List.set_cons_succ, Array.getD_eq_getD_getElem?, List.getElem?_toArray, List.getElem?_cons_zero, List.getElem?_cons_succ, Option.getD_some]
  refine hw_ex rfl ?_; apply Exists.intro; refine ⟨fun w hSw => ?_, ?_⟩; (go_simp; first | done | (with_reducible rfl))
  simp only [Act.put, Act.eval, List.setIfInBounds_toArray, List.set_cons_zero, List.set_cons_succ, Array.getD_eq_getD_getElem?, List.getElem?_toArray, List.getElem?_cons_zero, List.getElem?_cons_succ, Option.getD_some]
  refine hw_load1 4 _ rfl rfl w.heap.size 84 rfl (.bool H.last) _ (fun w' h' => box_cell hW h' m84) Try.underlying4 rfl ?_
  simp only [Act.put, Act.eval, List.setIfInBounds_toArray, List.set_cons_zero, List.set_cons_succ, Array.getD_eq_getD_getElem?, List.getElem?_toArray, List.getElem?_cons_zero, List.getElem?_cons_succ, Option.getD_some]
  refine hw_ex rfl ?_; apply Exists.intro; refine ⟨fun w hSw => ?_, ?_⟩; (go_simp; first | done | (with_reducible rfl))
  simp only [Act.put, Act.eval, List.setIfInBounds_toArray, List.set_cons_zero, List.set_cons_succ, Array.getD_eq_getD_getElem?, List.getElem?_toArray, List.getElem?_cons_zero, List.getElem?_cons_succ, Option.getD_some]
  refine hw_load1 24 _ rfl rfl w.heap.size 85 rfl (.slice ap PL.length cp) _ (fun w' h' => box_cell hW h' m85) Try.underlying24 rfl ?_
  simp only [Act.put, Act.eval, List.setIfInBounds_toArray, List.set_cons_zero, List.set_cons_succ, Array.getD_eq_getD_getElem?, List.getElem?_toArray, List.getElem?_cons_zero, List.getElem?_cons_succ, Option.getD_some]
  refine hw_move _ rfl rfl ?_
  simp only [Act.put, Act.eval, List.setIfInBounds_toArray, List.set_cons_zero, List.set_cons_succ, Array.getD_eq_getD_getElem?, List.getElem?_toArray, List.getElem?_cons_zero, List.getElem?_cons_succ, Option.getD_some]
  refine hw_ex rfl ?_; apply Exists.intro; refine ⟨fun w hSw => ?_, ?_⟩; (go_simp; first | done | (with_reducible rfl))
  simp only [Act.put, Act.eval, List.setIfInBounds_toArray, List.set_cons_zero, List.set_cons_succ, Array.getD_eq_getD_getElem?, List.getElem?_toArray, List.getElem?_cons_zero, List.getElem?_cons_succ, Option.getD_some]
  refine hw_load1 3 _ rfl rfl w.heap.size 87 rfl (.int .i64 pt) _ (fun w' h' => box_cell hW h' m87) Try.underlying3 rfl ?_
  simp only [Act.put, Act.eval, List.setIfInBounds_toArray, List.set_cons_zero, List.set_cons_succ, Array.getD_eq_getD_getElem?, List.getElem?_toArray, List.getElem?_cons_zero, List.getElem?_cons_succ, Option.getD_some]
  refine hw_ex rfl ?_; apply Exists.intro; refine ⟨fun w hSw => ?_, ?_⟩; (go_simp; first | done | (with_reducible rfl))
  simp only [Act.put, Act.eval, List.setIfInBounds_toArray, List.set_cons_zero, List.set_cons_succ, Array.getD_eq_getD_getElem?, List.getElem?_toArray, List.getElem?_cons_zero, List.getElem?_cons_succ, Option.getD_some]
  refine hw_load1 3 _ rfl rfl w.heap.size 88 rfl (.int .i64 H.lvl) _ (fun w' h' => box_cell hW h' m88) Try.underlying3 rfl ?_
  simp only [Act.put, Act.eval, List.setIfInBounds_toArray, List.set_cons_zero, List.set_cons_succ, Array.getD_eq_getD_getElem?, List.getElem?_toArray, List.getElem?_cons_zero, List.getElem?_cons_succ, Option.getD_some]
  refine hw_ex rfl ?_; apply Exists.intro; refine ⟨fun w hSw => ?_, ?_⟩; (go_simp; first | done | (with_reducible rfl))
  simp only [Act.put, Act.eval, List.setIfInBounds_toArray, List.set_cons_zero, List.set_cons_succ, Array.getD_eq_getD_getElem?, List.getElem?_toArray, List.getElem?_cons_zero, List.getElem?_cons_succ, Option.getD_some]
  refine hw_load1 23 _ rfl rfl w.heap.size 89 rfl (.int .u64 H.bcn) _ (fun w' h' => box_cell hW h' m89) Try.underlying23 rfl ?_
  simp only [Act.put, Act.eval, List.setIfInBounds_toArray, List.set_cons_zero, List.set_cons_succ, Array.getD_eq_getD_getElem?, List.getElem?_toArray, List.getElem?_cons_zero, List.getElem?_cons_succ, Option.getD_some]
  refine hw_ex rfl ?_; apply Exists.intro; refine ⟨fun w hSw => ?_, ?_⟩; (go_simp; first | done | (with_reducible rfl))
  simp only [Act.put, Act.eval, List.setIfInBounds_toArray, List.set_cons_zero, List.set_cons_succ, Array.getD_eq_getD_getElem?, List.getElem?_toArray, List.getElem?_cons_zero, List.getElem?_cons_succ, Option.getD_some]
  refine hw_load1 23 _ rfl rfl w.heap.size 90 rfl (.int .u64 H.ack) _ (fun w' h' => box_cell hW h' m90) Try.underlying23 rfl ?_
  simp only [Act.put, Act.eval, List.setIfInBounds_toArray, List.set_cons_zero, List.set_cons_succ, Array.getD_eq_getD_getElem?, List.getElem?_toArray, List.getElem?_cons_zero, List.getElem?_cons_succ, Option.getD_some]
  refine hw_ex rfl ?_; apply Exists.intro; refine ⟨fun w hSw => ?_, ?_⟩; (go_simp; first | done | (with_reducible rfl))
  simp only [Act.put, Act.eval, List.setIfInBounds_toArray, List.set_cons_zero, List.set_cons_succ, Array.getD_eq_getD_getElem?, List.getElem?_toArray, List.getElem?_cons_zero, List.getElem?_cons_succ, Option.getD_some]
  refine hw_load1 4 _ rfl rfl w.heap.size 91 rfl (.bool H.det) _ (fun w' h' => box_cell hW h' m91) Try.underlying4 rfl ?_
  simp only [Act.put, Act.eval, List.setIfInBounds_toArray, List.set_cons_zero, List.set_cons_succ, Array.getD_eq_getD_getElem?, List.getElem?_toArray, List.getElem?_cons_zero, List.getElem?_cons_succ, Option.getD_some]
  refine hw_do rfl (fun K hK => ?_)
  go_wp2_with (go_at_call 21; refine (ids_any ah ch HL _ (hH.below hHc ?_) hHc lH).mono ?_; (exact bW0.drew); rintro e wa ⟨ah', ch', rfl, ba, ia, fa, _⟩)
  have bWa : Below (w.heap.size + 2) W wa := bW.drew.trans (ba.mono (by show w.heap.size + 2 ≤ wz.heap.size; have := bW.size; omega))
  refine hK.out _ _ (bWa.mono (by omega)) (fun hHeld => ?_)
  clear hK K
  refine hw_do rfl (fun K hK => ?_)
  go_wp2_with (go_at_call 21; refine (ids_any ap cp PL _ (hP.below hPc ?_) hPc lP).mono ?_; (exact bw0.trans (bWa.mono (by omega))); rintro e wb ⟨ap', cp', rfl, bb, ib, fb, _⟩)
  have bWb : Below (w.heap.size + 2) W wb := bWa.trans (bb.mono (by have := bWa.size; omega))
  refine hK.out _ _ (bWb.mono (by omega)) (fun hHeld => ?_)
  clear hK K
  refine hw_build 37 _ _ _ rfl rfl (fun wx => run_build37 wx H c ah' ap' none HL.length ch' PL.length cp' 0 0 pt) (by simp [Act.eval]) ?_
  simp only [Act.put, Act.eval, List.setIfInBounds_toArray, List.set_cons_zero, List.set_cons_succ, Array.getD_eq_getD_getElem?, List.getElem?_toArray, List.getElem?_cons_zero, List.getElem?_cons_succ, Option.getD_some]
  refine hw_do rfl (fun K hK => ?_)
  have hth : wb.there (w.heap.size + 1) 0 (mc H (.slice ah' HL.length ch') (.slice ap' PL.length cp') (.slice none 0 0) pt).toArray.size := by rw [mc_size c]; exact there_below bWb (by omega) thW
  refine wp_store_mid 37 _ _ rfl (w.heap.size + 1) 0 (mc H (.slice ah' HL.length ch') (.slice ap' PL.length cp') (.slice none 0 0) pt).toArray rfl rfl hth (by rw [mc_size c]; exact Try.info37s) (all_oneCell_toArray (mc_one c pt rfl rfl rfl)) ?_
  have bF : Below (w.heap.size + 1) W (wb.setCells (w.heap.size + 1) 0 (mc H (.slice ah' HL.length ch') (.slice ap' PL.length cp') (.slice none 0 0) pt).toArray.toList) := below_setCells (Nat.le_refl _) _ _ _ (bWb.mono (by omega))
  refine hK.out _ _ bF (fun hHeld => ?_)
  clear hK K
  refine hw_nil ?_
  go_wp2_with fail
  have rF : (wb.setCells (w.heap.size + 1) 0 (mc H (.slice ah' HL.length ch') (.slice ap' PL.length cp') (.slice none 0 0) pt).toArray.toList).rangeAt (w.heap.size + 1) 0 (mc H (.slice ah' HL.length ch') (.slice ap' PL.length cp') (.slice none 0 0) pt) := World.rangeAt_setCells_same _ _ _ _ (by rw [mc_size c] at hth; rw [mc_len c]; exact hth)
  refine bodyPost_ret (v := .agg (mc H (.slice ah' HL.length ch') (.slice ap' PL.length cp') (.slice none 0 0) pt).toArray) (results_cell_mid Try.results10 _ _ (w.heap.size + 1) 0 (mc H (.slice ah' HL.length ch') (.slice ap' PL.length cp') (.slice none 0 0) pt) _ rfl rF Try.underlying37 rfl (by rw [mc_len c]; exact Try.info37s)) rfl ?_
  refine ⟨ah', ch', ap', cp', none, 0, [], rfl, bw0.trans (bF.mono (by omega)), ?_, ?_, ?_, ?_, ?_⟩
  · exact ids_set (ia.below hHc bb) (fun b o h => by have h1 : wz.heap.size ≤ b := fa b o h; have := bW.size; omega) _ _
  · exact ids_set ib (fun b o h => by have := fb b o h; have := bWa.size; omega) _ _
  · exact fun i x h => by simp at h
  · exact fun y h => by simp at h
  · simp [HPS.out]

set_option maxRecDepth 100000 in
set_option maxHeartbeats 4000000 in
theorem toMsg_some (H : Hd) (c : HdC H) (ah ap aq : Option Addr) (ch cp cq : Nat) (HL PL : List (List Value)) (PS : List PtV) (pt : Int) (w : World)
    (hH : IdsAt w ah HL) (hHc : ∀ cs ∈ HL, IdC cs) (lH : (HL.length : Int) ≤ 65536) (hP : IdsAt w ap PL) (hPc : ∀ cs ∈ PL, IdC cs) (lP : (PL.length : Int) ≤ 65536)
    (hrow : RowAt w aq PS) (hps : ∀ x ∈ PS, PtC x ∧ IdsAt w x.a x.hs ∧ (x.hs.length : Int) ≤ 65536) (lQ : (PS.length : Int) ≤ 65536) (x0 : Addr) (hnil : aq = some x0) :
    Calls Try.prog 10 #[.agg (mc H (.slice ah HL.length ch) (.slice ap PL.length cp) (.slice aq PS.length cq) pt).toArray] w fun e w' => ∃ ah' ch' ap' cp' aq' cq' E, e = .returned (.agg (mc H (.slice ah' HL.length ch') (.slice ap' PL.length cp') (.slice aq' E.length cq') pt).toArray) ∧ Below w.heap.size w w' ∧
      IdsAt w' ah' HL ∧ IdsAt w' ap' PL ∧ RowAt w' aq' E ∧ (∀ y ∈ E, PtC y ∧ IdsAt w' y.a y.hs ∧ y.hs.length ≤ y.cap) ∧ E.map PtV.bare = PS.map PtV.bare := by
  have ikey : (Try.prog.info? 22).map (·.size) = some H.key.length := by rw [c.key.len]; exact Try.info22s
  have isrc : (Try.prog.info? 22).map (·.size) = some H.src.length := by rw [c.src.len]; exact Try.info22s
  have ifrm : (Try.prog.info? 22).map (·.size) = some H.frm.length := by rw [c.frm.len]; exact Try.info22s
  have istop : (Try.prog.info? 22).map (·.size) = some H.stop.length := by rw [c.stop.len]; exact Try.info22s
  have m0 := mc_0 H (.slice ah HL.length ch) (.slice ap PL.length cp) (.slice aq PS.length cq) pt
  have m41 := mc_41 c (.slice ah HL.length ch) (.slice ap PL.length cp) (.slice aq PS.length cq) pt
  have m62 := mc_62 c (.slice ah HL.length ch) (.slice ap PL.length cp) (.slice aq PS.length cq) pt
  have m83 := mc_83 c (.slice ah HL.length ch) (.slice ap PL.length cp) (.slice aq PS.length cq) pt
  have m84 := mc_84 c (.slice ah HL.length ch) (.slice ap PL.length cp) (.slice aq PS.length cq) pt
  have m85 := mc_85 c (.slice ah HL.length ch) (.slice ap PL.length cp) (.slice aq PS.length cq) pt
  have m86 := mc_86 c (.slice ah HL.length ch) (.slice ap PL.length cp) (.slice aq PS.length cq) pt
  have m87 := mc_87 c (.slice ah HL.length ch) (.slice ap PL.length cp) (.slice aq PS.length cq) pt
  have m88 := mc_88 c (.slice ah HL.length ch) (.slice ap PL.length cp) (.slice aq PS.length cq) pt
  have m89 := mc_89 c (.slice ah HL.length ch) (.slice ap PL.length cp) (.slice aq PS.length cq) pt
  have m90 := mc_90 c (.slice ah HL.length ch) (.slice ap PL.length cp) (.slice aq PS.length cq) pt
  have m91 := mc_91 c (.slice ah HL.length ch) (.slice ap PL.length cp) (.slice aq PS.length cq) pt
  obtain ⟨W, hWe, bw0, hsz, hW, thW⟩ := two_blocks w (mc H (.slice ah HL.length ch) (.slice ap PL.length cp) (.slice aq PS.length cq) pt)
  have rkey := mc_key hW
  have rsrc := mc_src c hW
  have rfrm := mc_frm c hW
  have rstop := mc_stop c hW
  rw [Nat.zero_add] at rkey rsrc rfrm rstop
  generalize (mc H (.slice ah HL.length ch) (.slice ap PL.length cp) (.slice aq PS.length cq) pt) = ms at *
  have hneq := fun w => run_neq_slice_nil_any (P := Try.prog) w 25 45 (some x0) PS.length cq 0 0 Try.underlying25
  subst hnil
  have HWe : Hid (W = (w.alloc (.cells ms.toArray 27)).alloc (.cells zero37.toArray 37)) := hWe
  clear hWe
  obtain ⟨i0, hi, hz0, hz1, hz2⟩ := info_parts Try.info48z
  go_enter Try.func10, Try.ntmps10
  go_wp2_with (first
    | (refine wpList_alloc_row rfl 37 rfl zero37 92 232 Try.info37z ?_; simp only [Act.put, List.setIfInBounds_toArray, List.set_cons_zero, List.set_cons_succ, World.size_alloc])
    | (at_make; refine wpList_make_full _ rfl (.tmp 10) (.tmp 10) 35 rfl (w.heap.size + 2) 48 i0 (.agg zero48.toArray) 21 Try.underlying35 hi hz0 hz1 .i64 .i64 _ _ PS.length rfl rfl rfl rfl ?_ ?_ ?_ ?_))
  · rw [hz2]; omega
  · unfold maxLen; omega
  · simp
  intro w1 hown hgrow
  try simp only [World.size_alloc] at hown
  rw [← HWe.out] at hgrow
  obtain ⟨hth1, _⟩ := owns_there hown
  have hb1 : Below (w.heap.size + 2) W w1 := (Below.refl _ _).grown hgrow (by omega) (fun k h => by cases h)
  have hlt1 : w.heap.size + 1 + 1 < w1.heap.size := owns_lt hown
  clear hown hgrow hneq HWe hi hz0 hz1 hz2
  go_wp2
  go_loopw [4] (fun i wr => ∃ (k : Nat) (E : List PtV), k ≤ PS.length ∧ E.length = k ∧ i = .int .i64 k ∧ Below (w.heap.size + 2) W wr ∧ w.heap.size + 1 + 1 < wr.heap.size ∧ wr.there (w.heap.size + 1 + 1) 0 (PS.length * 21) ∧
      (∀ j y, E[j]? = some y → wr.rangeAt (w.heap.size + 1 + 1) (0 + j * 21) y.cells ∧ PtC y ∧ IdsAt wr y.a y.hs ∧ (∀ b o, y.a = some ⟨b, o, none⟩ → b ≠ w.heap.size + 1 + 1) ∧ (∀ b o, y.a = some ⟨b, o, none⟩ → b ≠ w.heap.size + 1) ∧ y.hs.length ≤ y.cap) ∧ E.map PtV.bare = (PS.take k).map PtV.bare) (fun i _ => PS.length - (intOf i).toNat)
  case atStart => exact ⟨0, [], Nat.zero_le _, rfl, rfl, hb1, hlt1, hth1, fun j y h => by simp at h, by simp⟩
  case round =>
    obtain ⟨k, E, hk, hEl, rfl, hbr, hglt, hth, hall, hbare⟩ := hrel
    have HE : Hid (∀ j y, E[j]? = some y → wr.rangeAt (w.heap.size + 1 + 1) (0 + j * 21) y.cells ∧ PtC y ∧ IdsAt wr y.a y.hs ∧ (∀ b o, y.a = some ⟨b, o, none⟩ → b ≠ w.heap.size + 1 + 1) ∧ (∀ b o, y.a = some ⟨b, o, none⟩ → b ≠ w.heap.size + 1) ∧ y.hs.length ≤ y.cap) := hall
    have HB0 : Hid (E.map PtV.bare = (PS.take k).map PtV.bare) := hbare
    have HEl : Hid (E.length = k) := hEl
    clear hall hbare hEl hb1 hth1
    have hc86 : wr.cell? ⟨w.heap.size, 86, none⟩ = some (.slice (some x0) PS.length cq) := box_cell hW (hbr.mono (by omega)) m86
    by_cases lk : k < PS.length
    · obtain ⟨x, hx⟩ : ∃ x, PS[k]? = some x := ⟨_, List.getElem?_eq_getElem lk⟩
      obtain ⟨hxc, hxi, hxl⟩ := hps x (List.mem_of_getElem? hx)
      obtain ⟨bq, oq, hbo, rX0⟩ := hrow k x hx
      have hcl := PtV.cells_len hxc
      have hbq : bq < w.heap.size := range_lt rX0 (by omega)
      have rX : W.rangeAt bq (oq + k * 21) x.cells := range_below bw0 hbq rX0
      have ixk : (Try.prog.info? 22).map (·.size) = some x.key.length := by rw [hxc.key.len]; exact Try.info22s
      obtain rfl : x0 = ⟨bq, oq, none⟩ := by simpa using hbo
      have HX : Hid (PS[k]? = some x) := hx
      have lk' : (k : Int) < (PS.length : Int) := by omega
      have HROW : Hid (RowAt w (some ⟨bq, oq, none⟩) PS) := hrow
      have HPS : Hid (∀ x ∈ PS, PtC x ∧ IdsAt w x.a x.hs ∧ (x.hs.length : Int) ≤ 65536) := hps
      clear hx rX0 hcl hrow hps
      go_wp2
      refine wp_region_Hw (S := fun w' => Below (w.heap.size + 2) W w') [(0, true), (1, true), (2, true), (3, true), (4, true), (5, true), (6, true), (7, true), (8, true), (9, true), (10, true), (11, true), (12, true), (13, true), (14, false), (15, true), (16, true), (17, false)] (by kernel_rfl) (by kernel_rfl) rfl (by kernel_rfl) (fun _ _ _ _ h => h) hbr.drew (fun hHeld => ?_)
      simp only [pick, List.map_cons, List.map_nil, Array.getD_eq_getD_getElem?, List.getElem?_toArray, List.getElem?_cons_zero, List.getElem?_cons_succ, Option.getD_some]
      refine hw_move _ rfl rfl ?_
      simp only [Act.put, Act.eval, List.setIfInBounds_toArray, List.set_cons_zero, List.set_cons_succ, Array.getD_eq_getD_getElem?, List.getElem?_toArray, List.getElem?_cons_zero, List.getElem?_cons_succ, Option.getD_some]
      refine hw_move _ rfl rfl ?_
      simp only [Act.put, Act.eval, List.setIfInBounds_toArray, List.set_cons_zero, List.set_cons_succ, Array.getD_eq_getD_getElem?, List.getElem?_toArray, List.getElem?_cons_zero, List.getElem?_cons_succ, Option.getD_some]
      refine hw_ex rfl ?_; apply Exists.intro; refine ⟨fun w hSw => ?_, ?_⟩; (go_simp; first | done | (with_reducible rfl))
      simp only [Act.put, Act.eval, List.setIfInBounds_toArray, List.set_cons_zero, List.set_cons_succ, Array.getD_eq_getD_getElem?, List.getElem?_toArray, List.getElem?_cons_zero, List.getElem?_cons_succ, Option.getD_some]
      refine hw_load1 25 _ rfl rfl w.heap.size 86 rfl (.slice (some ⟨bq, oq, none⟩) PS.length cq) _ (fun w' h' => box_cell hW (h'.mono (by omega)) m86) Try.underlying25 rfl ?_
      simp only [Act.put, Act.eval, List.setIfInBounds_toArray, List.set_cons_zero, List.set_cons_succ, Array.getD_eq_getD_getElem?, List.getElem?_toArray, List.getElem?_cons_zero, List.getElem?_cons_succ, Option.getD_some]
      refine hw_move _ rfl rfl ?_
      simp only [Act.put, Act.eval, List.setIfInBounds_toArray, List.set_cons_zero, List.set_cons_succ, Array.getD_eq_getD_getElem?, List.getElem?_toArray, List.getElem?_cons_zero, List.getElem?_cons_succ, Option.getD_some]
      refine hw_ex rfl ?_; apply Exists.intro; refine ⟨fun w hSw => ?_, ?_⟩; (go_simp; first | done | (with_reducible rfl))
      simp only [Act.put, Act.eval, List.setIfInBounds_toArray, List.set_cons_zero, List.set_cons_succ, Array.getD_eq_getD_getElem?, List.getElem?_toArray, List.getElem?_cons_zero, List.getElem?_cons_succ, Option.getD_some]
      refine hw_ex rfl ?_; apply Exists.intro; refine ⟨fun w hSw => ?_, ?_⟩; (go_simp; first | done | (with_reducible rfl))
      simp only [Act.put, Act.eval, List.setIfInBounds_toArray, List.set_cons_zero, List.set_cons_succ, Array.getD_eq_getD_getElem?, List.getElem?_toArray, List.getElem?_cons_zero, List.getElem?_cons_succ, Option.getD_some]
      refine hw_load 22 _ rfl rfl bq (oq + k * 21) rfl x.key _ (fun w' h' => range_below (h'.mono (by omega)) hbq (range_take rX)) Try.underlying22 rfl ixk ?_
      simp only [Act.put, Act.eval, List.setIfInBounds_toArray, List.set_cons_zero, List.set_cons_succ, Array.getD_eq_getD_getElem?, List.getElem?_toArray, List.getElem?_cons_zero, List.getElem?_cons_succ, Option.getD_some]
      refine hw_ex rfl ?_; apply Exists.intro; refine ⟨fun w hSw => ?_, ?_⟩; (go_simp; first | done | (with_reducible rfl))
      simp only [Act.put, Act.eval, List.setIfInBounds_toArray, List.set_cons_zero, List.set_cons_succ, Array.getD_eq_getD_getElem?, List.getElem?_toArray, List.getElem?_cons_zero, List.getElem?_cons_succ, Option.getD_some]
      refine hw_load1 25 _ rfl rfl w.heap.size 86 rfl (.slice (some ⟨bq, oq, none⟩) PS.length cq) _ (fun w' h' => box_cell hW (h'.mono (by omega)) m86) Try.underlying25 rfl ?_
      simp only [Act.put, Act.eval, List.setIfInBounds_toArray, List.set_cons_zero, List.set_cons_succ, Array.getD_eq_getD_getElem?, List.getElem?_toArray, List.getElem?_cons_zero, List.getElem?_cons_succ, Option.getD_some]
      refine hw_move _ rfl rfl ?_
      simp only [Act.put, Act.eval, List.setIfInBounds_toArray, List.set_cons_zero, List.set_cons_succ, Array.getD_eq_getD_getElem?, List.getElem?_toArray, List.getElem?_cons_zero, List.getElem?_cons_succ, Option.getD_some]
      refine hw_ex rfl ?_; apply Exists.intro; refine ⟨fun w hSw => ?_, ?_⟩; (go_simp; first | done | (with_reducible rfl))
      simp only [Act.put, Act.eval, List.setIfInBounds_toArray, List.set_cons_zero, List.set_cons_succ, Array.getD_eq_getD_getElem?, List.getElem?_toArray, List.getElem?_cons_zero, List.getElem?_cons_succ, Option.getD_some]
      refine hw_ex rfl ?_; apply Exists.intro; refine ⟨fun w hSw => ?_, ?_⟩; (go_simp; first | done | (with_reducible rfl))
      simp only [Act.put, Act.eval, List.setIfInBounds_toArray, List.set_cons_zero, List.set_cons_succ, Array.getD_eq_getD_getElem?, List.getElem?_toArray, List.getElem?_cons_zero, List.getElem?_cons_succ, Option.getD_some]
      refine hw_load1 24 _ rfl rfl bq (oq + k * 21 + 20) rfl (.slice x.a x.hs.length x.cap) _ (fun w' h' => range_cell (range_below (h'.mono (by omega)) hbq rX) 20 (PtV.cells_hs hxc)) Try.underlying24 rfl ?_
      simp only [Act.put, Act.eval, List.setIfInBounds_toArray, List.set_cons_zero, List.set_cons_succ, Array.getD_eq_getD_getElem?, List.getElem?_toArray, List.getElem?_cons_zero, List.getElem?_cons_succ, Option.getD_some]
      refine hw_do rfl (fun K hK => ?_)
      go_wp2_with (go_at_call 21; refine (ids_any x.a x.cap x.hs _ (hxi.below hxc.hs ?_) hxc.hs hxl).mono ?_; (exact (bw0.trans (hbr.mono (by omega))).drew); rintro e wa ⟨a', c', rfl, ba, ia, fa, lcap⟩)
      have bWa : Below (w.heap.size + 2) W wa := hbr.drew.trans (ba.mono (by show w.heap.size + 2 ≤ wr.heap.size; have := hbr.size; omega))
      refine hK.out _ _ bWa (fun hHeld => ?_)
      clear hK K
      refine hw_build 48 _ _ _ rfl rfl (fun wx => run_build48 wx x.key a' x.hs.length c' hxc.key.len) (by simp [Act.eval]) ?_
      simp only [Act.put, Act.eval, List.setIfInBounds_toArray, List.set_cons_zero, List.set_cons_succ, Array.getD_eq_getD_getElem?, List.getElem?_toArray, List.getElem?_cons_zero, List.getElem?_cons_succ, Option.getD_some]
      refine hw_ex rfl ?_; apply Exists.intro; refine ⟨fun w hSw => ?_, ?_⟩; (go_simp; first | done | (with_reducible rfl))
      simp only [Act.put, Act.eval, List.setIfInBounds_toArray, List.set_cons_zero, List.set_cons_succ, Array.getD_eq_getD_getElem?, List.getElem?_toArray, List.getElem?_cons_zero, List.getElem?_cons_succ, Option.getD_some]
      refine hw_do rfl (fun K hK => ?_)
      obtain ⟨y, hy⟩ : ∃ y : PtV, y = ⟨x.key, a', c', x.hs⟩ := ⟨_, rfl⟩
      have hyc : PtC y := by rw [hy]; exact ⟨hxc.key, hxc.hs⟩
      have hycells : x.key ++ [Value.slice a' x.hs.length c'] = y.cells := by rw [hy]; rfl
      rw [hycells]
      have HY : Hid (y = ⟨x.key, a', c', x.hs⟩) := hy
      clear hy hycells
      have ba' : Below wr.heap.size wr wa := ((Below.refl _ wr).drew).trans ba
      have htha : wa.there (w.heap.size + 1 + 1) 0 (PS.length * 21) := there_below ba' hglt hth
      have hth2 : wa.there (w.heap.size + 1 + 1) (k * 21) y.cells.toArray.size := fun j hj => by
        rw [List.size_toArray, PtV.cells_len hyc] at hj
        have := htha (k * 21 + j) (by omega)
        rwa [Nat.zero_add] at this
      refine wp_store_mid 48 _ _ rfl (w.heap.size + 1 + 1) (k * 21) y.cells.toArray rfl rfl hth2 (by rw [List.size_toArray, PtV.cells_len hyc]; exact Try.info48s) (all_oneCell_toArray (PtV.cells_one hyc)) ?_
      have bF : Below (w.heap.size + 2) W (wa.setCells (w.heap.size + 1 + 1) (k * 21) y.cells.toArray.toList) := below_setCells (by omega) _ _ _ bWa
      refine hK.out _ _ bF (fun hHeld => ?_)
      clear hK K
      refine hw_nil ?_
      go_wp2
      go_roundw
      case rel =>
        refine ⟨k + 1, E ++ [y], by omega, by simp [HEl.out], by go_num, bF, by rw [size_setCells]; exact Nat.lt_of_lt_of_le hglt ba.size, World.there_setCells htha _ _ _, fun j z hj => ?_, ?_⟩
        · by_cases hjk : j < E.length
          · rw [List.getElem?_append_left hjk] at hj
            obtain ⟨e1, e2, e3, e4, e5, e6⟩ := HE.out j z hj
            refine ⟨World.rangeAt_setCells_apart (range_below ba' hglt e1) _ _ _ (Or.inr (Or.inl ?_)), e2, ids_set (e3.below e2.hs ba') e4 _ _, e4, e5, e6⟩
            have := PtV.cells_len e2
            have := HEl.out
            omega
          · rw [List.getElem?_append_right (by omega)] at hj
            have hj0 : j - E.length = 0 := by have := (List.getElem?_eq_some_iff.1 hj).1; simp at this; omega
            rw [hj0] at hj
            obtain rfl : y = z := by simpa using hj
            have hjk' : j = k := by have := HEl.out; omega
            subst hjk'
            refine ⟨?_, hyc, ?_, ?_, ?_, by rw [HY.out]; exact lcap⟩
            · rw [Nat.zero_add]
              exact World.rangeAt_setCells_same _ _ _ _ (by simpa using hth2)
            · rw [HY.out]
              exact ids_set ia (fun b o h => by have h1 : wr.heap.size ≤ b := fa b o h; omega) _ _
            · rw [HY.out]
              exact fun b o h => by have h1 : wr.heap.size ≤ b := fa b o h; omega
            · rw [HY.out]
              exact fun b o h => by have h1 : wr.heap.size ≤ b := fa b o h; omega
        · rw [List.map_append, HB0.out, take_snoc HX.out, List.map_append, HY.out]
          rfl
      case measure => simp [intOf]; omega
    · have hke : k = PS.length := by omega
      have HB : Hid (E.map PtV.bare = PS.map PtV.bare) := by show E.map PtV.bare = _; rw [HB0.out, hke, List.take_length]
      have HEq : Hid (E.length = PS.length) := by show E.length = _; rw [HEl.out]; exact hke
      have bW := hbr
      have bW0 : Below w.heap.size w wr := bw0.trans (hbr.mono (by omega))
      obtain ⟨wz, hwz⟩ : ∃ wz, wz = wr := ⟨_, rfl⟩
      go_wp2
      rw [← hwz] at HE hglt hth bW bW0 ⊢
      clear hwz hc86 hbr
      refine wp_region_Hw (S := fun w' => Below (w.heap.size + 1) W w') [(0, true), (1, true), (2, true), (3, true), (4, true), (5, true), (6, true), (7, true), (8, true), (9, true), (10, true), (11, true), (12, true), (13, true), (14, true), (15, true), (17, true), (18, true), (19, true), (20, true), (22, true), (23, true), (24, true), (25, true), (26, true), (27, true), (28, true), (29, true), (30, true), (31, true), (32, true), (16, false), (21, false), (33, true), (34, false)] (by kernel_rfl) (by kernel_rfl) rfl (by kernel_rfl) (fun _ _ _ _ h => h) (bW.mono (by omega)).drew (fun hHeld => ?_)
      simp only [pick, List.map_cons, List.map_nil, Array.getD_eq_getD_getElem?, List.getElem?_toArray, List.getElem?_cons_zero, List.getElem?_cons_succ, Option.getD_some]
      refine hw_ex rfl ?_; apply Exists.intro; refine ⟨fun w hSw => ?_, ?_⟩; (go_simp; first | done | (with_reducible rfl))
      simp only [Act.put, Act.eval, List.setIfInBounds_toArray, List.set_cons_zero, List.set_cons_succ, Array.getD_eq_getD_getElem?, List.getElem?_toArray, List.getElem?_cons_zero, List.getElem?_cons_succ, Option.getD_some]
      refine hw_load1 5 _ rfl rfl w.heap.size 0 rfl (.int .u8 H.kd) _ (fun w' h' => box_cell hW h' m0) Try.underlying5 rfl ?_
      simp only [Act.put, Act.eval, List.setIfInBounds_toArray, List.set_cons_zero, List.set_cons_succ, Array.getD_eq_getD_getElem?, List.getElem?_toArray, List.getElem?_cons_zero, List.getElem?_cons_succ, Option.getD_some]
      refine hw_ex rfl ?_; apply Exists.intro; refine ⟨fun w hSw => ?_, ?_⟩; (go_simp; first | done | (with_reducible rfl))
      simp only [Act.put, Act.eval, List.setIfInBounds_toArray, List.set_cons_zero, List.set_cons_succ, Array.getD_eq_getD_getElem?, List.getElem?_toArray, List.getElem?_cons_zero, List.getElem?_cons_succ, Option.getD_some]
      refine hw_load 22 _ rfl rfl w.heap.size 1 rfl H.key _ (fun w' h' => range_below h' (by omega) rkey) Try.underlying22 rfl ikey ?_
      simp only [Act.put, Act.eval, List.setIfInBounds_toArray, List.set_cons_zero, List.set_cons_succ, Array.getD_eq_getD_getElem?, List.getElem?_toArray, List.getElem?_cons_zero, List.getElem?_cons_succ, Option.getD_some]
      refine hw_ex rfl ?_; apply Exists.intro; refine ⟨fun w hSw => ?_, ?_⟩; (go_simp; first | done | (with_reducible rfl))
      simp only [Act.put, Act.eval, List.setIfInBounds_toArray, List.set_cons_zero, List.set_cons_succ, Array.getD_eq_getD_getElem?, List.getElem?_toArray, List.getElem?_cons_zero, List.getElem?_cons_succ, Option.getD_some]
      refine hw_load 22 _ rfl rfl w.heap.size 21 rfl H.src _ (fun w' h' => range_below h' (by omega) rsrc) Try.underlying22 rfl isrc ?_
      simp only [Act.put, Act.eval, List.setIfInBounds_toArray, List.set_cons_zero, List.set_cons_succ, Array.getD_eq_getD_getElem?, List.getElem?_toArray, List.getElem?_cons_zero, List.getElem?_cons_succ, Option.getD_some]
      refine hw_ex rfl ?_; apply Exists.intro; refine ⟨fun w hSw => ?_, ?_⟩; (go_simp; first | done | (with_reducible rfl))
      simp only [Act.put, Act.eval, List.setIfInBounds_toArray, List.set_cons_zero, List.set_cons_succ, Array.getD_eq_getD_getElem?, List.getElem?_toArray, List.getElem?_cons_zero, List.getElem?_cons_succ, Option.getD_some]
      refine hw_load1 23 _ rfl rfl w.heap.size 41 rfl (.int .u64 H.nonce) _ (fun w' h' => box_cell hW h' m41) Try.underlying23 rfl ?_
      simp only [Act.put, Act.eval, List.setIfInBounds_toArray, List.set_cons_zero, List.set_cons_succ, Array.getD_eq_getD_getElem?, List.getElem?_toArray, List.getElem?_cons_zero, List.getElem?_cons_succ, Option.getD_some]
      refine hw_ex rfl ?_; apply Exists.intro; refine ⟨fun w hSw => ?_, ?_⟩; (go_simp; first | done | (with_reducible rfl))
      simp only [Act.put, Act.eval, List.setIfInBounds_toArray, List.set_cons_zero, List.set_cons_succ, Array.getD_eq_getD_getElem?, List.getElem?_toArray, List.getElem?_cons_zero, List.getElem?_cons_succ, Option.getD_some]
      refine hw_load 22 _ rfl rfl w.heap.size 42 rfl H.frm _ (fun w' h' => range_below h' (by omega) rfrm) Try.underlying22 rfl ifrm ?_
      simp only [Act.put, Act.eval, List.setIfInBounds_toArray, List.set_cons_zero, List.set_cons_succ, Array.getD_eq_getD_getElem?, List.getElem?_toArray, List.getElem?_cons_zero, List.getElem?_cons_succ, Option.getD_some]
      refine hw_ex rfl ?_; apply Exists.intro; refine ⟨fun w hSw => ?_, ?_⟩; (go_simp; first | done | (with_reducible rfl))
      simp only [Act.put, Act.eval, List.setIfInBounds_toArray, List.set_cons_zero, List.set_cons_succ, Array.getD_eq_getD_getElem?, List.getElem?_toArray, List.getElem?_cons_zero, List.getElem?_cons_succ, Option.getD_some]
      refine hw_load1 3 _ rfl rfl w.heap.size 62 rfl (.int .i64 H.hops) _ (fun w' h' => box_cell hW h' m62) Try.underlying3 rfl ?_
      simp only [Act.put, Act.eval, List.setIfInBounds_toArray, List.set_cons_zero, List.set_cons_succ, Array.getD_eq_getD_getElem?, List.getElem?_toArray, List.getElem?_cons_zero, List.getElem?_cons_succ, Option.getD_some]
      refine hw_ex rfl ?_; apply Exists.intro; refine ⟨fun w hSw => ?_, ?_⟩; (go_simp; first | done | (with_reducible rfl))
      simp only [Act.put, Act.eval, List.setIfInBounds_toArray, List.set_cons_zero, List.set_cons_succ, Array.getD_eq_getD_getElem?, List.getElem?_toArray, List.getElem?_cons_zero, List.getElem?_cons_succ, Option.getD_some]
      refine hw_load 22 _ rfl rfl w.heap.size 63 rfl H.stop _ (fun w' h' => range_below h' (by omega) rstop) Try.underlying22 rfl istop ?_
      simp only [Act.put, Act.eval, List.setIfInBounds_toArray, List.set_cons_zero, List.set_cons_succ, Array.getD_eq_getD_getElem?, List.getElem?_toArray, List.getElem?_cons_zero, List.getElem?_cons_succ, Option.getD_some]
      refine hw_ex rfl ?_; apply Exists.intro; refine ⟨fun w hSw => ?_, ?_⟩; (go_simp; first | done | (with_reducible rfl))
      simp only [Act.put, Act.eval, List.setIfInBounds_toArray, List.set_cons_zero, List.set_cons_succ, Array.getD_eq_getD_getElem?, List.getElem?_toArray, List.getElem?_cons_zero, List.getElem?_cons_succ, Option.getD_some]
      refine hw_load1 24 _ rfl rfl w.heap.size 83 rfl (.slice ah HL.length ch) _ (fun w' h' => box_cell hW h' m83) Try.underlying24 rfl ?_
      simp only [Act.put, Act.eval, List.setIfInBounds_toArray, List.set_cons_zero, List.set_cons_succ, Array.getD_eq_getD_getElem?, List.getElem?_toArray, List.getElem?_cons_zero, List.getElem?_cons_succ, Option.getD_some]
      refine hw_ex rfl ?_; apply Exists.intro; refine ⟨fun w hSw => ?_, ?_⟩; (go_simp; first | done | (with_reducible rfl))
      simp only [Act.put, Act.eval, List.setIfInBounds_toArray, List.set_cons_zero, List.set_cons_succ, Array.getD_eq_getD_getElem?, List.getElem?_toArray, List.getElem?_cons_zero, List.getElem?_cons_succ, Option.getD_some]
      refine hw_load1 4 _ rfl rfl w.heap.size 84 rfl (.bool H.last) _ (fun w' h' => box_cell hW h' m84) Try.underlying4 rfl ?_
      simp only [Act.put, Act.eval, List.setIfInBounds_toArray, List.set_cons_zero, List.set_cons_succ, Array.getD_eq_getD_getElem?, List.getElem?_toArray, List.getElem?_cons_zero, List.getElem?_cons_succ, Option.getD_some]
      refine hw_ex rfl ?_; apply Exists.intro; refine ⟨fun w hSw => ?_, ?_⟩; (go_simp; first | done | (with_reducible rfl))
      simp only [Act.put, Act.eval, List.setIfInBounds_toArray, List.set_cons_zero, List.set_cons_succ, Array.getD_eq_getD_getElem?, List.getElem?_toArray, List.getElem?_cons_zero, List.getElem?_cons_succ, Option.getD_some]
      refine hw_load1 24 _ rfl rfl w.heap.size 85 rfl (.slice ap PL.length cp) _ (fun w' h' => box_cell hW h' m85) Try.underlying24 rfl ?_
      simp only [Act.put, Act.eval, List.setIfInBounds_toArray, List.set_cons_zero, List.set_cons_succ, Array.getD_eq_getD_getElem?, List.getElem?_toArray, List.getElem?_cons_zero, List.getElem?_cons_succ, Option.getD_some]
      refine hw_move _ rfl rfl ?_
      simp only [Act.put, Act.eval, List.setIfInBounds_toArray, List.set_cons_zero, List.set_cons_succ, Array.getD_eq_getD_getElem?, List.getElem?_toArray, List.getElem?_cons_zero, List.getElem?_cons_succ, Option.getD_some]
      refine hw_ex rfl ?_; apply Exists.intro; refine ⟨fun w hSw => ?_, ?_⟩; (go_simp; first | done | (with_reducible rfl))
      simp only [Act.put, Act.eval, List.setIfInBounds_toArray, List.set_cons_zero, List.set_cons_succ, Array.getD_eq_getD_getElem?, List.getElem?_toArray, List.getElem?_cons_zero, List.getElem?_cons_succ, Option.getD_some]
      refine hw_load1 3 _ rfl rfl w.heap.size 87 rfl (.int .i64 pt) _ (fun w' h' => box_cell hW h' m87) Try.underlying3 rfl ?_
      simp only [Act.put, Act.eval, List.setIfInBounds_toArray, List.set_cons_zero, List.set_cons_succ, Array.getD_eq_getD_getElem?, List.getElem?_toArray, List.getElem?_cons_zero, List.getElem?_cons_succ, Option.getD_some]
      refine hw_ex rfl ?_; apply Exists.intro; refine ⟨fun w hSw => ?_, ?_⟩; (go_simp; first | done | (with_reducible rfl))
      simp only [Act.put, Act.eval, List.setIfInBounds_toArray, List.set_cons_zero, List.set_cons_succ, Array.getD_eq_getD_getElem?, List.getElem?_toArray, List.getElem?_cons_zero, List.getElem?_cons_succ, Option.getD_some]
      refine hw_load1 3 _ rfl rfl w.heap.size 88 rfl (.int .i64 H.lvl) _ (fun w' h' => box_cell hW h' m88) Try.underlying3 rfl ?_
      simp only [Act.put, Act.eval, List.setIfInBounds_toArray, List.set_cons_zero, List.set_cons_succ, Array.getD_eq_getD_getElem?, List.getElem?_toArray, List.getElem?_cons_zero, List.getElem?_cons_succ, Option.getD_some]
      refine hw_ex rfl ?_; apply Exists.intro; refine ⟨fun w hSw => ?_, ?_⟩; (go_simp; first | done | (with_reducible rfl))
      simp only [Act.put, Act.eval, List.setIfInBounds_toArray, List.set_cons_zero, List.set_cons_succ, Array.getD_eq_getD_getElem?, List.getElem?_toArray, List.getElem?_cons_zero, List.getElem?_cons_succ, Option.getD_some]
      refine hw_load1 23 _ rfl rfl w.heap.size 89 rfl (.int .u64 H.bcn) _ (fun w' h' => box_cell hW h' m89) Try.underlying23 rfl ?_
      simp only [Act.put, Act.eval, List.setIfInBounds_toArray, List.set_cons_zero, List.set_cons_succ, Array.getD_eq_getD_getElem?, List.getElem?_toArray, List.getElem?_cons_zero, List.getElem?_cons_succ, Option.getD_some]
      refine hw_ex rfl ?_; apply Exists.intro; refine ⟨fun w hSw => ?_, ?_⟩; (go_simp; first | done | (with_reducible rfl))
      simp only [Act.put, Act.eval, List.setIfInBounds_toArray, List.set_cons_zero, List.set_cons_succ, Array.getD_eq_getD_getElem?, List.getElem?_toArray, List.getElem?_cons_zero, List.getElem?_cons_succ, Option.getD_some]
      refine hw_load1 23 _ rfl rfl w.heap.size 90 rfl (.int .u64 H.ack) _ (fun w' h' => box_cell hW h' m90) Try.underlying23 rfl ?_
      simp only [Act.put, Act.eval, List.setIfInBounds_toArray, List.set_cons_zero, List.set_cons_succ, Array.getD_eq_getD_getElem?, List.getElem?_toArray, List.getElem?_cons_zero, List.getElem?_cons_succ, Option.getD_some]
      refine hw_ex rfl ?_; apply Exists.intro; refine ⟨fun w hSw => ?_, ?_⟩; (go_simp; first | done | (with_reducible rfl))
      simp only [Act.put, Act.eval, List.setIfInBounds_toArray, List.set_cons_zero, List.set_cons_succ, Array.getD_eq_getD_getElem?, List.getElem?_toArray, List.getElem?_cons_zero, List.getElem?_cons_succ, Option.getD_some]
      refine hw_load1 4 _ rfl rfl w.heap.size 91 rfl (.bool H.det) _ (fun w' h' => box_cell hW h' m91) Try.underlying4 rfl ?_
      simp only [Act.put, Act.eval, List.setIfInBounds_toArray, List.set_cons_zero, List.set_cons_succ, Array.getD_eq_getD_getElem?, List.getElem?_toArray, List.getElem?_cons_zero, List.getElem?_cons_succ, Option.getD_some]
      refine hw_do rfl (fun K hK => ?_)
      go_wp2_with (go_at_call 21; refine (ids_any ah ch HL _ (hH.below hHc ?_) hHc lH).mono ?_; (exact bW0.drew); rintro e wa ⟨ah', ch', rfl, ba, ia, fa, _⟩)
      have bWa : Below (w.heap.size + 2) W wa := bW.drew.trans (ba.mono (by show w.heap.size + 2 ≤ wz.heap.size; have := bW.size; omega))
      refine hK.out _ _ (bWa.mono (by omega)) (fun hHeld => ?_)
      clear hK K
      refine hw_do rfl (fun K hK => ?_)
      go_wp2_with (go_at_call 21; refine (ids_any ap cp PL _ (hP.below hPc ?_) hPc lP).mono ?_; (exact bw0.trans (bWa.mono (by omega))); rintro e wb ⟨ap', cp', rfl, bb, ib, fb, _⟩)
      have bWb : Below (w.heap.size + 2) W wb := bWa.trans (bb.mono (by have := bWa.size; omega))
      refine hK.out _ _ (bWb.mono (by omega)) (fun hHeld => ?_)
      clear hK K
      refine hw_build 37 _ _ _ rfl rfl (fun wx => run_build37 wx H c ah' ap' (some ⟨w.heap.size + 1 + 1, 0, none⟩) HL.length ch' PL.length cp' PS.length PS.length pt) (by simp [Act.eval]) ?_
      simp only [Act.put, Act.eval, List.setIfInBounds_toArray, List.set_cons_zero, List.set_cons_succ, Array.getD_eq_getD_getElem?, List.getElem?_toArray, List.getElem?_cons_zero, List.getElem?_cons_succ, Option.getD_some]
      refine hw_do rfl (fun K hK => ?_)
      have hth : wb.there (w.heap.size + 1) 0 (mc H (.slice ah' HL.length ch') (.slice ap' PL.length cp') (.slice (some ⟨w.heap.size + 1 + 1, 0, none⟩) PS.length PS.length) pt).toArray.size := by rw [mc_size c]; exact there_below bWb (by omega) thW
      refine wp_store_mid 37 _ _ rfl (w.heap.size + 1) 0 (mc H (.slice ah' HL.length ch') (.slice ap' PL.length cp') (.slice (some ⟨w.heap.size + 1 + 1, 0, none⟩) PS.length PS.length) pt).toArray rfl rfl hth (by rw [mc_size c]; exact Try.info37s) (all_oneCell_toArray (mc_one c pt rfl rfl rfl)) ?_
      have bF : Below (w.heap.size + 1) W (wb.setCells (w.heap.size + 1) 0 (mc H (.slice ah' HL.length ch') (.slice ap' PL.length cp') (.slice (some ⟨w.heap.size + 1 + 1, 0, none⟩) PS.length PS.length) pt).toArray.toList) := below_setCells (Nat.le_refl _) _ _ _ (bWb.mono (by omega))
      refine hK.out _ _ bF (fun hHeld => ?_)
      clear hK K
      refine hw_nil ?_
      go_wp2_with fail
      have rF : (wb.setCells (w.heap.size + 1) 0 (mc H (.slice ah' HL.length ch') (.slice ap' PL.length cp') (.slice (some ⟨w.heap.size + 1 + 1, 0, none⟩) PS.length PS.length) pt).toArray.toList).rangeAt (w.heap.size + 1) 0 (mc H (.slice ah' HL.length ch') (.slice ap' PL.length cp') (.slice (some ⟨w.heap.size + 1 + 1, 0, none⟩) PS.length PS.length) pt) := World.rangeAt_setCells_same _ _ _ _ (by rw [mc_size c] at hth; rw [mc_len c]; exact hth)
      refine bodyPost_ret (v := .agg (mc H (.slice ah' HL.length ch') (.slice ap' PL.length cp') (.slice (some ⟨w.heap.size + 1 + 1, 0, none⟩) PS.length PS.length) pt).toArray) (results_cell_mid Try.results10 _ _ (w.heap.size + 1) 0 (mc H (.slice ah' HL.length ch') (.slice ap' PL.length cp') (.slice (some ⟨w.heap.size + 1 + 1, 0, none⟩) PS.length PS.length) pt) _ rfl rF Try.underlying37 rfl (by rw [mc_len c]; exact Try.info37s)) rfl ?_
      refine ⟨ah', ch', ap', cp', (some ⟨w.heap.size + 1 + 1, 0, none⟩), PS.length, E, (by rw [HEq.out]), bw0.trans (bF.mono (by omega)), ?_, ?_, ?_, ?_, ?_⟩
      · exact ids_set (ia.below hHc bb) (fun b o h => by have h1 : wz.heap.size ≤ b := fa b o h; have := bW.size; omega) _ _
      · exact ids_set ib (fun b o h => by have := fb b o h; have := bWa.size; omega) _ _
      · exact row_set (fun j y hj => ⟨_, _, rfl, range_below (((Below.refl _ wz).drew).trans (ba.trans (bb.mono ba.size))) hglt (HE.out j y hj).1⟩) (fun b o h => by simp at h; omega) _ _
      · intro y hyE
        obtain ⟨j, hj, hjy⟩ := List.mem_iff_getElem.1 hyE
        have hjy' : E[j]? = some y := by rw [List.getElem?_eq_getElem hj, hjy]
        obtain ⟨e1, e2, e3, e4, e5, e6⟩ := HE.out j y hjy'
        exact ⟨e2, ids_set (e3.below e2.hs (((Below.refl _ wz).drew).trans (ba.trans (bb.mono ba.size)))) (fun b o h => e5 b o h) _ _, e6⟩
      · exact HB.out

/-- zzToMessage: the same message over new memory. -/
theorem toMsg_any (H : Hd) (c : HdC H) (ah ap aq : Option Addr) (ch cp cq : Nat) (HL PL : List (List Value)) (PS : List PtV) (pt : Int) (w : World)
    (hH : IdsAt w ah HL) (hHc : ∀ cs ∈ HL, IdC cs) (lH : (HL.length : Int) ≤ 65536) (hP : IdsAt w ap PL) (hPc : ∀ cs ∈ PL, IdC cs) (lP : (PL.length : Int) ≤ 65536)
    (hrow : RowAt w aq PS) (hps : ∀ x ∈ PS, PtC x ∧ IdsAt w x.a x.hs ∧ (x.hs.length : Int) ≤ 65536) (lQ : (PS.length : Int) ≤ 65536) :
    Calls Try.prog 10 #[.agg (mc H (.slice ah HL.length ch) (.slice ap PL.length cp) (.slice aq PS.length cq) pt).toArray] w fun e w' => ∃ ah' ch' ap' cp' aq' cq' E, e = .returned (.agg (mc H (.slice ah' HL.length ch') (.slice ap' PL.length cp') (.slice aq' E.length cq') pt).toArray) ∧ Below w.heap.size w w' ∧
      IdsAt w' ah' HL ∧ IdsAt w' ap' PL ∧ RowAt w' aq' E ∧ (∀ y ∈ E, PtC y ∧ IdsAt w' y.a y.hs ∧ y.hs.length ≤ y.cap) ∧ E.map PtV.bare = PS.map PtV.bare := by
  cases aq with
  | none => exact toMsg_nil H c ah ap none ch cp cq HL PL PS pt w hH hHc lH hP hPc lP hrow hps lQ rfl
  | some x0 => exact toMsg_some H c ah ap (some x0) ch cp cq HL PL PS pt w hH hHc lH hP hPc lP hrow hps lQ x0 rfl
end Go.Proofs.Qxb6603900a
