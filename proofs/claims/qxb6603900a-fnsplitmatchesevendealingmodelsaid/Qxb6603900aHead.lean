import Derived.Test.Qxb6603900aPtrAt
namespace Go.Proofs.Qxb6603900a
open Go.ChangeShapes Go.WideShapes Go.ChangeAt Go.RowKit
set_option linter.unusedSimpArgs false
set_option linter.unusedVariables false

theorem wpList_eql {ops : Array Oper} {Q : Exit → Act → World → Prop} {rest : List Oper} {o : Oper} {a : Act} {w : World} (x y : Operand) (ty : TypeId) (ho : o.op = .binOp .eql 33 x y ty) (hw : Region.wanted o (yielded ops a.tmps) = true)
    (cs : List Value) (h : IdC cs) (hx : a.eval x = .agg cs.toArray) (hy : a.eval y = .agg cs.toArray) (hc : wpList Try.prog ops Q rest (a.put o.dst (.bool true)) w) : wpList Try.prog ops Q (o :: rest) a w :=
  wpList_step fun K hK => by
    rw [if_pos hw]
    unfold Oper.wp execOp
    simp only [ho, hx, hy, Sem.run_bind, run_eqGuard_agg w _ 33 x y _ _ Try.guard33, run_eql_same w cs h, Result.andThen_ok, Sem.run_pure]
    exact hK _ _ hc

theorem two_boxes (w : World) (A B : List Value) (T1 T2 : TypeId) : ∃ W : World, (w.alloc (.cells A.toArray T1)).alloc (.cells B.toArray T2) = W ∧ Below w.heap.size w W ∧ W.heap.size = w.heap.size + 2 ∧ W.rangeAt w.heap.size 0 A ∧ W.rangeAt (w.heap.size + 1) 0 B :=
  ⟨_, rfl, ((Below.refl _ _).alloc (Nat.le_refl _) _).alloc (by simp) _, by simp, World.rangeAt_alloc (range_new w A T1) _, range_new' _ _ _ _ (by simp)⟩

set_option maxRecDepth 100000 in
set_option maxHeartbeats 4000000 in
/-- zzSameHead. -/
theorem same_head (H : Hd) (c : HdC H) (ah bh : Option Addr) (ca cb : Nat) (HL : List (List Value)) (p1 p2 q1 q2 : Value) (t1 t2 : Int) (w : World) (hA : IdsAt w ah HL) (hB : IdsAt w bh HL) (hc : ∀ cs ∈ HL, IdC cs) (hl : (HL.length : Int) ≤ 65536) :
    Calls Try.prog 14 #[.agg (mc H (.slice ah HL.length ca) p1 q1 t1).toArray, .agg (mc H (.slice bh HL.length cb) p2 q2 t2).toArray] w fun e w' => e = .returned (.bool true) ∧ Below w.heap.size w w' := by
  obtain ⟨W, hWe, bW, hsz, hW1, hW2⟩ := two_boxes w (mc H (.slice ah HL.length ca) p1 q1 t1) (mc H (.slice bh HL.length cb) p2 q2 t2) 37 27
  have x0 := mc_0 H (.slice ah HL.length ca) p1 q1 t1
  have y0 := mc_0 H (.slice bh HL.length cb) p2 q2 t2
  have x41 := mc_41 c (.slice ah HL.length ca) p1 q1 t1
  have y41 := mc_41 c (.slice bh HL.length cb) p2 q2 t2
  have x62 := mc_62 c (.slice ah HL.length ca) p1 q1 t1
  have y62 := mc_62 c (.slice bh HL.length cb) p2 q2 t2
  have x83 := mc_83 c (.slice ah HL.length ca) p1 q1 t1
  have y83 := mc_83 c (.slice bh HL.length cb) p2 q2 t2
  have x84 := mc_84 c (.slice ah HL.length ca) p1 q1 t1
  have y84 := mc_84 c (.slice bh HL.length cb) p2 q2 t2
  have x88 := mc_88 c (.slice ah HL.length ca) p1 q1 t1
  have y88 := mc_88 c (.slice bh HL.length cb) p2 q2 t2
  have x89 := mc_89 c (.slice ah HL.length ca) p1 q1 t1
  have y89 := mc_89 c (.slice bh HL.length cb) p2 q2 t2
  have x90 := mc_90 c (.slice ah HL.length ca) p1 q1 t1
  have y90 := mc_90 c (.slice bh HL.length cb) p2 q2 t2
  have x91 := mc_91 c (.slice ah HL.length ca) p1 q1 t1
  have y91 := mc_91 c (.slice bh HL.length cb) p2 q2 t2
  have ikey1 : (Try.prog.info? 33).map (·.size) = some H.key.length := by rw [c.key.len]; exact Try.info33s
  have ikey2 : (Try.prog.info? 22).map (·.size) = some H.key.length := by rw [c.key.len]; exact Try.info22s
  have rkey1 := mc_key hW1
  have rkey2 := mc_key hW2
  rw [Nat.zero_add] at rkey1 rkey2
  have isrc1 : (Try.prog.info? 33).map (·.size) = some H.src.length := by rw [c.src.len]; exact Try.info33s
  have isrc2 : (Try.prog.info? 22).map (·.size) = some H.src.length := by rw [c.src.len]; exact Try.info22s
  have rsrc1 := mc_src c hW1
  have rsrc2 := mc_src c hW2
  rw [Nat.zero_add] at rsrc1 rsrc2
  have ifrm1 : (Try.prog.info? 33).map (·.size) = some H.frm.length := by rw [c.frm.len]; exact Try.info33s
  have ifrm2 : (Try.prog.info? 22).map (·.size) = some H.frm.length := by rw [c.frm.len]; exact Try.info22s
  have rfrm1 := mc_frm c hW1
  have rfrm2 := mc_frm c hW2
  rw [Nat.zero_add] at rfrm1 rfrm2
  have istop1 : (Try.prog.info? 33).map (·.size) = some H.stop.length := by rw [c.stop.len]; exact Try.info33s
  have istop2 : (Try.prog.info? 22).map (·.size) = some H.stop.length := by rw [c.stop.len]; exact Try.info22s
  have rstop1 := mc_stop c hW1
  have rstop2 := mc_stop c hW2
  rw [Nat.zero_add] at rstop1 rstop2
  have cx0 := range_cell hW1 0 x0
  have cy0 := range_cell hW2 0 y0
  rw [Nat.zero_add] at cx0 cy0
  have cx41 := range_cell hW1 41 x41
  have cy41 := range_cell hW2 41 y41
  rw [Nat.zero_add] at cx41 cy41
  have cx62 := range_cell hW1 62 x62
  have cy62 := range_cell hW2 62 y62
  rw [Nat.zero_add] at cx62 cy62
  have cx83 := range_cell hW1 83 x83
  have cy83 := range_cell hW2 83 y83
  rw [Nat.zero_add] at cx83 cy83
  have cx84 := range_cell hW1 84 x84
  have cy84 := range_cell hW2 84 y84
  rw [Nat.zero_add] at cx84 cy84
  have cx88 := range_cell hW1 88 x88
  have cy88 := range_cell hW2 88 y88
  rw [Nat.zero_add] at cx88 cy88
  have cx89 := range_cell hW1 89 x89
  have cy89 := range_cell hW2 89 y89
  rw [Nat.zero_add] at cx89 cy89
  have cx90 := range_cell hW1 90 x90
  have cy90 := range_cell hW2 90 y90
  rw [Nat.zero_add] at cx90 cy90
  have cx91 := range_cell hW1 91 x91
  have cy91 := range_cell hW2 91 y91
  rw [Nat.zero_add] at cx91 cy91
  clear x0 y0 x41 y41 x62 y62 x83 y83 x84 y84 x88 y88 x89 y89 x90 y90 x91 y91
  generalize (mc H (.slice ah HL.length ca) p1 q1 t1) = m1 at *
  generalize (mc H (.slice bh HL.length cb) p2 q2 t2) = m2 at *
  have HWe : Hid ((w.alloc (.cells m1.toArray 37)).alloc (.cells m2.toArray 27) = W) := hWe
  have hIA := hA.below hc bW
  have hIB := hB.below hc bW
  have HIA : Hid (IdsAt W ah HL) := hIA
  have HIB : Hid (IdsAt W bh HL) := hIB
  have HCC : Hid (∀ cs ∈ HL, IdC cs) := hc
  clear hWe hA hB hc hIA hIB hW1 hW2
  go_enter Try.func14, Try.ntmps14
  go_upto_region 1 with fail
  rw [HWe.out]
  simp only [List.append]
  generalize hB0 : w.heap.size = B at *
  generalize hB1 : B + 1 = B1 at *
  go_wp2_with (first
    | (refine wpList_load_g 33 (.tmp 11) rfl rfl B 1 rfl H.key _ rkey1 Try.underlying33 rfl ikey1 ?_; simp only [Act.put, List.setIfInBounds_toArray, List.set_cons_zero, List.set_cons_succ, World.size_alloc])
    | (refine wpList_load_g 22 (.tmp 13) rfl rfl B1 1 rfl H.key _ rkey2 Try.underlying22 rfl ikey2 ?_; simp only [Act.put, List.setIfInBounds_toArray, List.set_cons_zero, List.set_cons_succ, World.size_alloc])
    | (refine wpList_eql (.tmp 12) (.tmp 14) 33 rfl rfl H.key c.key rfl rfl ?_; simp only [Act.put, List.setIfInBounds_toArray, List.set_cons_zero, List.set_cons_succ, World.size_alloc])
    | (refine wpList_load_g 33 (.tmp 18) rfl rfl B 21 rfl H.src _ rsrc1 Try.underlying33 rfl isrc1 ?_; simp only [Act.put, List.setIfInBounds_toArray, List.set_cons_zero, List.set_cons_succ, World.size_alloc])
    | (refine wpList_load_g 22 (.tmp 20) rfl rfl B1 21 rfl H.src _ rsrc2 Try.underlying22 rfl isrc2 ?_; simp only [Act.put, List.setIfInBounds_toArray, List.set_cons_zero, List.set_cons_succ, World.size_alloc])
    | (refine wpList_eql (.tmp 19) (.tmp 21) 33 rfl rfl H.src c.src rfl rfl ?_; simp only [Act.put, List.setIfInBounds_toArray, List.set_cons_zero, List.set_cons_succ, World.size_alloc])
    | (refine wpList_load_g 33 (.tmp 32) rfl rfl B 42 rfl H.frm _ rfrm1 Try.underlying33 rfl ifrm1 ?_; simp only [Act.put, List.setIfInBounds_toArray, List.set_cons_zero, List.set_cons_succ, World.size_alloc])
    | (refine wpList_load_g 22 (.tmp 34) rfl rfl B1 42 rfl H.frm _ rfrm2 Try.underlying22 rfl ifrm2 ?_; simp only [Act.put, List.setIfInBounds_toArray, List.set_cons_zero, List.set_cons_succ, World.size_alloc])
    | (refine wpList_eql (.tmp 33) (.tmp 35) 33 rfl rfl H.frm c.frm rfl rfl ?_; simp only [Act.put, List.setIfInBounds_toArray, List.set_cons_zero, List.set_cons_succ, World.size_alloc])
    | (refine wpList_load_g 33 (.tmp 46) rfl rfl B 63 rfl H.stop _ rstop1 Try.underlying33 rfl istop1 ?_; simp only [Act.put, List.setIfInBounds_toArray, List.set_cons_zero, List.set_cons_succ, World.size_alloc])
    | (refine wpList_load_g 22 (.tmp 48) rfl rfl B1 63 rfl H.stop _ rstop2 Try.underlying22 rfl istop2 ?_; simp only [Act.put, List.setIfInBounds_toArray, List.set_cons_zero, List.set_cons_succ, World.size_alloc])
    | (refine wpList_eql (.tmp 47) (.tmp 49) 33 rfl rfl H.stop c.stop rfl rfl ?_; simp only [Act.put, List.setIfInBounds_toArray, List.set_cons_zero, List.set_cons_succ, World.size_alloc])
    | (go_at_call 15; refine (same_ids ah bh ca cb HL _ HIA.out HIB.out HCC.out hl).mono ?_; rintro e wa ⟨rfl, ba⟩))
  go_ret
  exact ⟨rfl, by rw [hB0]; exact bW.trans (ba.mono (by omega))⟩

set_option maxRecDepth 100000 in
set_option maxHeartbeats 4000000 in
/-- zzSameWhole. -/
theorem same_whole (H : Hd) (c : HdC H) (ah bh ap bp aq bq : Option Addr) (ca cb cp dp cq dq : Nat) (HL PL : List (List Value)) (E PS : List PtV) (pt : Int) (w : World) (hA : IdsAt w ah HL) (hB : IdsAt w bh HL) (hc : ∀ cs ∈ HL, IdC cs) (hl : (HL.length : Int) ≤ 65536)
    (hAp : IdsAt w ap PL) (hBp : IdsAt w bp PL) (hcp : ∀ cs ∈ PL, IdC cs) (hlp : (PL.length : Int) ≤ 65536)
    (hE : RowAt w aq E) (hP : RowAt w bq PS) (hEc : ∀ y ∈ E, PtC y ∧ IdsAt w y.a y.hs) (hPc : ∀ y ∈ PS, PtC y ∧ IdsAt w y.a y.hs) (he : E.map PtV.bare = PS.map PtV.bare) (hlq : (PS.length : Int) ≤ 65536) (hx : ∀ y ∈ PS, (y.hs.length : Int) ≤ 65536) :
    Calls Try.prog 13 #[.agg (mc H (.slice ah HL.length ca) (.slice ap PL.length cp) (.slice aq E.length cq) pt).toArray, .agg (mc H (.slice bh HL.length cb) (.slice bp PL.length dp) (.slice bq PS.length dq) pt).toArray] w fun e w' => e = .returned (.bool true) ∧ Below w.heap.size w w' := by
  obtain ⟨W, hWe, bW, hsz, hW1, hW2⟩ := two_boxes w (mc H (.slice ah HL.length ca) (.slice ap PL.length cp) (.slice aq E.length cq) pt) (mc H (.slice bh HL.length cb) (.slice bp PL.length dp) (.slice bq PS.length dq) pt) 37 27
  have SH := same_head H c ah bh ca cb HL (.slice ap PL.length cp) (.slice bp PL.length dp) (.slice aq E.length cq) (.slice bq PS.length dq) pt pt W (hA.below hc bW) (hB.below hc bW) hc hl
  have x85 := range_cell hW1 85 (mc_85 c _ _ _ _)
  have x86 := range_cell hW1 86 (mc_86 c _ _ _ _)
  have x87 := range_cell hW1 87 (mc_87 c _ _ _ _)
  have y85 := range_cell hW2 85 (mc_85 c _ _ _ _)
  have y86 := range_cell hW2 86 (mc_86 c _ _ _ _)
  have y87 := range_cell hW2 87 (mc_87 c _ _ _ _)
  rw [Nat.zero_add] at x85 x86 x87 y85 y86 y87
  have i37 : (Try.prog.info? 37).map (·.size) = some (mc H (.slice ah HL.length ca) (.slice ap PL.length cp) (.slice aq E.length cq) pt).length := by rw [mc_len c]; exact Try.info37s
  have i27 : (Try.prog.info? 27).map (·.size) = some (mc H (.slice bh HL.length cb) (.slice bp PL.length dp) (.slice bq PS.length dq) pt).length := by rw [mc_len c]; exact Try.info27s
  generalize (mc H (.slice ah HL.length ca) (.slice ap PL.length cp) (.slice aq E.length cq) pt) = m1 at *
  generalize (mc H (.slice bh HL.length cb) (.slice bp PL.length dp) (.slice bq PS.length dq) pt) = m2 at *
  have HWe : Hid ((w.alloc (.cells m1.toArray 37)).alloc (.cells m2.toArray 27) = W) := hWe
  have H1 : Hid (IdsAt w ap PL) := hAp
  have H2 : Hid (IdsAt w bp PL) := hBp
  have H3 : Hid (∀ cs ∈ PL, IdC cs) := hcp
  have H4 : Hid (RowAt w aq E) := hE
  have H5 : Hid (RowAt w bq PS) := hP
  have H6 : Hid (∀ y ∈ E, PtC y ∧ IdsAt w y.a y.hs) := hEc
  have H7 : Hid (∀ y ∈ PS, PtC y ∧ IdsAt w y.a y.hs) := hPc
  have H8 : Hid (E.map PtV.bare = PS.map PtV.bare) := he
  have H9 : Hid (∀ y ∈ PS, (y.hs.length : Int) ≤ 65536) := hx
  clear hWe hA hB hc hAp hBp hcp hE hP hEc hPc he hx
  go_enter Try.func13, Try.ntmps13
  go_upto_region 1 with fail
  rw [HWe.out]
  generalize hB0 : w.heap.size = B at *
  generalize hB1 : B + 1 = B1 at *
  go_wp2_with (first
    | (refine wpList_load_g 37 (.tmp 2) rfl rfl B 0 rfl m1 _ hW1 Try.underlying37 rfl i37 ?_; simp only [Act.put, List.setIfInBounds_toArray, List.set_cons_zero, List.set_cons_succ, World.size_alloc])
    | (refine wpList_load_g 27 (.tmp 3) rfl rfl B1 0 rfl m2 _ hW2 Try.underlying27 rfl i27 ?_; simp only [Act.put, List.setIfInBounds_toArray, List.set_cons_zero, List.set_cons_succ, World.size_alloc])
    | (go_at_call 14; refine SH.mono ?_; rintro e wa ⟨rfl, ba⟩; have bA : Below B w wa := bW.trans (ba.mono (by omega)); have bA2 : Below (B + 2) W wa := ba.mono (by omega); have z85 := (bA2.cell (p := ⟨B, 85, none⟩) (by show B < _; omega)).trans x85; have z86 := (bA2.cell (p := ⟨B, 86, none⟩) (by show B < _; omega)).trans x86; have z87 := (bA2.cell (p := ⟨B, 87, none⟩) (by show B < _; omega)).trans x87; have v85 := (bA2.cell (p := ⟨B1, 85, none⟩) (by show B1 < _; omega)).trans y85; have v86 := (bA2.cell (p := ⟨B1, 86, none⟩) (by show B1 < _; omega)).trans y86; have v87 := (bA2.cell (p := ⟨B1, 87, none⟩) (by show B1 < _; omega)).trans y87; clear x85 x86 x87 y85 y86 y87; have sA : B + 2 ≤ wa.heap.size := by (have := ba.size; omega))
    | (go_at_call 15; refine (same_ids ap bp cp dp PL _ (H1.out.below H3.out (by rw [hB0]; exact bA)) (H2.out.below H3.out (by rw [hB0]; exact bA)) H3.out hlp).mono ?_; rintro e wb ⟨rfl, bb⟩; have bB : Below B w wb := bA.trans (bb.mono (by omega)); have u86 := (bb.cell (p := ⟨B, 86, none⟩) (by show B < _; omega)).trans z86; have s86 := (bb.cell (p := ⟨B1, 86, none⟩) (by show B1 < _; omega)).trans v86; clear z85 z86 z87 v85 v86 v87)
    | (go_at_call 22; refine (same_ptrs aq bq cq dq E PS _ (H4.out.below (fun y hy => (H6.out y hy).1) (by rw [hB0]; exact bB)) (H5.out.below (fun y hy => (H7.out y hy).1) (by rw [hB0]; exact bB)) (fun y hy => ⟨(H6.out y hy).1, (H6.out y hy).2.below (H6.out y hy).1.hs (by rw [hB0]; exact bB)⟩) (fun y hy => ⟨(H7.out y hy).1, (H7.out y hy).2.below (H7.out y hy).1.hs (by rw [hB0]; exact bB)⟩) H8.out hlq H9.out).mono ?_; rintro e wd ⟨rfl, bd⟩))
  go_ret
  exact ⟨rfl, by rw [hB0]; exact bB.trans (bd.mono (by have := bb.size; omega))⟩
end Go.Proofs.Qxb6603900a
