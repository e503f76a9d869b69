import Derived.Test.Qxb6603900aModel4
namespace Go.Proofs.Qxb6603900a
open Go.ChangeShapes Go.WideShapes Go.ChangeAt Go.RowKit
set_option linter.unusedSimpArgs false
set_option linter.unusedVariables false

theorem Try.info3z : (Try.prog.info? 3).map (fun i => (i.zero, i.size, i.bytes)) = some (some (.int .i64 0), 1, 8) := by kernel_rfl

set_option maxRecDepth 100000 in
set_option maxHeartbeats 8000000 in
theorem dealing_walk (H : Hd) (ah ap aq : Option Addr) (ch cp cq : Nat) (HL PL : List (List Value)) (PS : List PtV) (pt n : Int) (w : World) (M : MsgIn w H ah ap aq HL PL PS) (hn1 : -9223372036854775808 ≤ n) (hn2 : n ≤ 9223372036854775807) :
    Calls Try.prog 3 #[.agg (mc H (.slice ah HL.length ch) (.slice ap PL.length cp) (.slice aq PS.length cq) pt).toArray, .int .i64 n] w fun e w' => e = .returned (.bool true) ∧ Below w.heap.size w w' := by
  have c := M.hd
  have m0 := mc_0 H (.slice ah HL.length ch) (.slice ap PL.length cp) (.slice aq PS.length cq) pt
  have m83 := mc_83 c (.slice ah HL.length ch) (.slice ap PL.length cp) (.slice aq PS.length cq) pt
  have m85 := mc_85 c (.slice ah HL.length ch) (.slice ap PL.length cp) (.slice aq PS.length cq) pt
  have m86 := mc_86 c (.slice ah HL.length ch) (.slice ap PL.length cp) (.slice aq PS.length cq) pt
  have d27 := Try.underlying27
  have ims : (Try.prog.info? 27).map (·.size) = some (mc H (.slice ah HL.length ch) (.slice ap PL.length cp) (.slice aq PS.length cq) pt).length := by rw [mc_len c]; exact Try.info27s
  have hW := range_new w (mc H (.slice ah HL.length ch) (.slice ap PL.length cp) (.slice aq PS.length cq) pt) 27
  have bW : Below w.heap.size w (w.alloc (.cells (mc H (.slice ah HL.length ch) (.slice ap PL.length cp) (.slice aq PS.length cq) pt).toArray 27)) := (Below.refl _ _).alloc (Nat.le_refl _) _
  have MW := M.below bW
  have hsz : (w.alloc (.cells (mc H (.slice ah HL.length ch) (.slice ap PL.length cp) (.slice aq PS.length cq) pt).toArray 27)).heap.size = w.heap.size + 1 := by simp
  generalize hms : mc H (.slice ah HL.length ch) (.slice ap PL.length cp) (.slice aq PS.length cq) pt = ms at *
  have HMS : Hid (mc H (.slice ah HL.length ch) (.slice ap PL.length cp) (.slice aq PS.length cq) pt = ms) := hms
  clear hms
  go_enter Try.func3, Try.ntmps3
  go_upto_if 24 with (first
    | (refine wpList_load_g 27 (.tmp 2) rfl rfl w.heap.size 0 rfl ms _ hW d27 rfl ims ?_; simp only [Act.put, List.setIfInBounds_toArray, List.set_cons_zero, List.set_cons_succ, World.size_alloc])
    | (go_at_call 8; refine (bytes8_any ms ah ap aq HL.length ch PL.length cp cq PS n _ m83 m85 m86 M.mH M.mP M.mQ MW.hQ (fun x hx => ⟨(MW.cQ x hx).1, (MW.cQ x hx).2.2⟩)).mono ?_; rintro e wb ⟨⟨bb, rfl⟩, b1⟩))
  rw [hsz] at b1
  generalize w.alloc (.cells ms.toArray 27) = W at *
  have hWb : wb.rangeAt w.heap.size 0 ms := range_below b1 (by omega) hW
  have bB : Below w.heap.size w wb := bW.trans (b1.mono (by omega))
  have MB := M.below bB
  have sB : w.heap.size + 1 ≤ wb.heap.size := by have := b1.size; omega
  cases bb
  · go_wp2
    go_ret
    exact ⟨rfl, bB⟩
  go_upto_if 31 with (first
    | (refine wpList_load_g 27 (.tmp 2) rfl rfl w.heap.size 0 rfl ms _ hWb d27 rfl ims ?_; simp only [Act.put, List.setIfInBounds_toArray, List.set_cons_zero, List.set_cons_succ, World.size_alloc])
    | (go_at_call 9; refine (size_any ms ah ap aq HL.length ch PL.length cp cq PS _ m83 m85 m86 M.mH M.mP M.mQ MB.hQ (fun x hx => ⟨(MB.cQ x hx).1, (MB.cQ x hx).2.2⟩)).mono ?_; rintro e wS ⟨hso, b2⟩; obtain ⟨t, ok, rfl, hok⟩ := hso.two))
  have b2' : Below (w.heap.size + 1) wb wS := b2.mono sB
  have hWc : wS.rangeAt w.heap.size 0 ms := range_below b2' (by omega) hWb
  have bC : Below w.heap.size w wS := bB.trans (b2'.mono (by omega))
  have MC := M.below bC
  have sC : w.heap.size + 1 ≤ wS.heap.size := Nat.le_trans sB b2.size
  cases ok
  · go_wp2
    go_ret
    exact ⟨rfl, bC⟩
  obtain ⟨rfl, kh, kp, kq, kx, kt⟩ := hok rfl
  have TM := toMsg_any H c ah ap aq ch cp cq HL PL PS pt wS MC.hH MC.cH (by omega) MC.hP MC.cP (by omega) MC.hQ (fun x hx => ⟨(MC.cQ x hx).1, (MC.cQ x hx).2.1, by obtain ⟨j, hj, rfl⟩ := List.mem_iff_getElem.1 hx; have := kx j _ (List.getElem?_eq_getElem hj); omega⟩) (by omega)
  rw [HMS.out] at TM
  obtain ⟨T, hT⟩ : ∃ T, T = totTo PS PS.length := ⟨_, rfl⟩
  have HT : Hid (T = cnt (PS.map PtV.bare)) := by show T = _; rw [hT, totTo_all]
  rw [← hT] at kt ⊢
  clear hT b2 b2' b1 kx
  go_upto_if 39 with (first
    | (refine wpList_load_g 27 (.tmp 2) rfl rfl w.heap.size 0 rfl ms _ hWc d27 rfl ims ?_; simp only [Act.put, List.setIfInBounds_toArray, List.set_cons_zero, List.set_cons_succ, World.size_alloc])
    | (go_at_call 10; refine TM.mono ?_; rintro e wd ⟨ah', ch', ap', cp', aq', cq', E, rfl, b3, i1, i2, rE, cE, hEb⟩)
    | (go_at_call 11; refine (split_any H c (.slice ah' HL.length ch') (.slice ap' PL.length cp') rfl rfl aq' cq' E pt n _ rE cE (by have := congrArg List.length hEb; simp at this; omega) (by rw [hEb, ← HT.out]; omega) hn1 hn2).mono ?_; rintro e we ⟨g, N, QL, rfl, b4, hQl, hcase, hparts⟩))
  rw [hEb] at hcase
  have bE : Below (w.heap.size + 1) wS we := (b3.trans (b4.mono b3.size)).mono sC
  have bEE : Below w.heap.size w we := bC.trans (bE.mono (by omega))
  have cK : we.cell? ⟨w.heap.size, 0, none⟩ = some (.int .u8 H.kd) := by
    have := range_cell (range_below bE (by omega) hWc) 0 m0
    exact this
  have HP : Hid (∀ j l, QL[j]? = some l → PMem we H (.slice ah' HL.length ch') (if j = 0 then .slice ap' PL.length cp' else .slice none 0 0) (if 2 ≤ N ∧ H.kd = 9 then (N : Int) else pt) l g j) := hparts
  have HC : Hid (SplitCase H.kd n (PS.map PtV.bare) N QL) := hcase
  have MSB : MsgIn we H ah ap aq HL PL PS := M.below bEE
  have HMB : Hid (MsgIn we H ah ap aq HL PL PS) := MSB
  have hWe : we.rangeAt w.heap.size 0 ms := range_below bE (by omega) hWc
  have HI1 : Hid (IdsAt we ah' HL) := i1.below M.cH b4
  have HI2 : Hid (IdsAt we ap' PL) := i2.below M.cP b4
  have HXP : Hid (∀ y ∈ PS, (y.hs.length : Int) ≤ 65536) := fun y hy => by
    have h1 : y.bare ∈ PS.map PtV.bare := List.mem_map_of_mem hy
    obtain ⟨k, hk, hk2⟩ := List.mem_iff_getElem.1 h1
    have h2 := cnt_mem (L := PS.map PtV.bare) (p := k) (x := y.bare) (by rw [List.getElem?_eq_getElem hk, hk2])
    rw [← HT.out] at h2
    have h3 : y.bare.2.length = y.hs.length := rfl
    omega
  have kt' : (T : Int) ≤ 32768 := by omega
  have kH : (HL.length : Int) ≤ 65536 := by omega
  have kP : (PL.length : Int) ≤ 65536 := by omega
  have kQ : (PS.length : Int) ≤ 65536 := by omega
  have sE : w.heap.size + 1 ≤ we.heap.size := Nat.le_trans sC bE.size
  clear hparts hcase TM MSB MW MB MC hWb hWc i1 i2 rE cE hEb b3 b4 bE bB bC hW bW hok kh kp kq
  go_cut [8] from 21 (fun lv wx => lv = .int .i64 (min n (T : Int)) ∧ wx = we)
  case first =>
    go_wp2
    all_goals
      go_meet
      exact ⟨congrArg (Value.int .i64) (by omega), rfl⟩
  case rest =>
    obtain ⟨rfl, rfl⟩ := hcut
    obtain ⟨wB, rfl⟩ : ∃ wB : World, wB = wc := ⟨_, rfl⟩
    rcases HC.out with ⟨hc1, rfl, rfl⟩ | ⟨hk, hN, hN2, rfl⟩
    · as_aux_lemma =>
      rw [← HT.out] at hc1
      obtain ⟨A, C, F, hr, hrow, hF, hbare⟩ := HP.out 0 _ rfl
      rw [if_pos rfl, if_neg (by omega), Nat.zero_mul] at hr
      have hM := HMB.out
      have SW := same_whole H c ah' ah ap' ap A aq ch' ch cp' cp C cq HL PL F PS pt wB.drew HI1.out hM.hH hM.cH kH HI2.out hM.hP hM.cP kP hrow hM.hQ hF (fun y hy => ⟨(hM.cQ y hy).1, (hM.cQ y hy).2.1⟩) hbare kQ HXP.out
      have i37 : (Try.prog.info? 37).map (·.size) = some (mc H (.slice ah' HL.length ch') (.slice ap' PL.length cp') (.slice A F.length C) pt).length := by rw [mc_len c]; exact Try.info37s
      have hgl := range_lt hr (by rw [mc_len c]; omega)
      rw [HMS.out] at SW
      generalize (mc H (.slice ah' HL.length ch') (.slice ap' PL.length cp') (.slice A F.length C) pt) = m1 at *
      clear hrow hF hbare hM
      have done1 : wB.rangeAt g 0 m1 := hr
      by_cases hk : H.kd = 9 ∨ H.kd = 10 ∨ H.kd = 11
      · have hlt : min n (T : Int) < 2 := by rcases hc1 with h | h; exact absurd hk h; exact h
        have HK : Hid (H.kd = 9 ∨ H.kd = 10 ∨ H.kd = 11) := hk
        clear hk hc1
        generalize min n (T : Int) = lim at *
        generalize H.kd = kd at *
        go_upto_region 11 with (go_at_call 12; refine (div_yes _ HK.out _).mono ?_; rintro e wz ⟨rfl, hwz⟩; rw [hwz]; clear hwz)
        refine wp_region_Hw (S := fun w' => Below wB.heap.size wB w') [(0, true), (1, true), (2, true), (3, true), (4, true), (5, true), (6, true), (7, true), (8, false), (9, true), (10, true)] (by kernel_rfl) (by kernel_rfl) rfl (by kernel_rfl) (fun _ _ _ _ h => h) (Below.refl _ _).drew (fun hHeld => ?_)
        simp only [pick, List.map_cons, List.map_nil, Array.getD_eq_getD_getElem?, List.getElem?_toArray, List.getElem?_cons_zero, List.getElem?_cons_succ, Option.getD_some]
        refine hw_move _ rfl rfl ?_
        simp only [Act.put, Act.eval, List.setIfInBounds_toArray, List.set_cons_zero, List.set_cons_succ, Array.getD_eq_getD_getElem?, List.getElem?_toArray, List.getElem?_cons_zero, List.getElem?_cons_succ, Option.getD_some]
        refine hw_ex rfl ?_; apply Exists.intro; refine ⟨fun w hSw => ?_, ?_⟩; (go_simp; first | done | (with_reducible rfl))
        simp only [Act.put, Act.eval, List.setIfInBounds_toArray, List.set_cons_zero, List.set_cons_succ, Array.getD_eq_getD_getElem?, List.getElem?_toArray, List.getElem?_cons_zero, List.getElem?_cons_succ, Option.getD_some]
        refine hw_ex rfl ?_; apply Exists.intro; refine ⟨fun w hSw => ?_, ?_⟩; (go_simp; first | done | (with_reducible rfl))
        simp only [Act.put, Act.eval, List.setIfInBounds_toArray, List.set_cons_zero, List.set_cons_succ, Array.getD_eq_getD_getElem?, List.getElem?_toArray, List.getElem?_cons_zero, List.getElem?_cons_succ, Option.getD_some]
        refine hw_move _ rfl rfl ?_
        simp only [Act.put, Act.eval, List.setIfInBounds_toArray, List.set_cons_zero, List.set_cons_succ, Array.getD_eq_getD_getElem?, List.getElem?_toArray, List.getElem?_cons_zero, List.getElem?_cons_succ, Option.getD_some]
        refine hw_move _ rfl rfl ?_
        simp only [Act.put, Act.eval, List.setIfInBounds_toArray, List.set_cons_zero, List.set_cons_succ, Array.getD_eq_getD_getElem?, List.getElem?_toArray, List.getElem?_cons_zero, List.getElem?_cons_succ, Option.getD_some]
        refine hw_ex rfl ?_; apply Exists.intro; refine ⟨fun w hSw => ?_, ?_⟩; (go_simp; first | done | (with_reducible rfl))
        simp only [Act.put, Act.eval, List.setIfInBounds_toArray, List.set_cons_zero, List.set_cons_succ, Array.getD_eq_getD_getElem?, List.getElem?_toArray, List.getElem?_cons_zero, List.getElem?_cons_succ, Option.getD_some]
        refine hw_load 37 _ rfl rfl g 0 rfl m1 _ (fun w' h' => range_below h' hgl hr) Try.underlying37 rfl i37 ?_
        simp only [Act.put, Act.eval, List.setIfInBounds_toArray, List.set_cons_zero, List.set_cons_succ, Array.getD_eq_getD_getElem?, List.getElem?_toArray, List.getElem?_cons_zero, List.getElem?_cons_succ, Option.getD_some]
        refine hw_load 27 _ rfl rfl w.heap.size 0 rfl ms _ (fun w' h' => range_below h' sE hWe) Try.underlying27 rfl ims ?_
        simp only [Act.put, Act.eval, List.setIfInBounds_toArray, List.set_cons_zero, List.set_cons_succ, Array.getD_eq_getD_getElem?, List.getElem?_toArray, List.getElem?_cons_zero, List.getElem?_cons_succ, Option.getD_some]
        refine hw_do rfl (fun K hK => ?_)
        go_wp2_with (go_at_call 13; refine SW.mono ?_; rintro e wa ⟨rfl, ba⟩)
        have bWa : Below wB.heap.size wB wa := ((Below.refl _ wB).drew).trans ba
        refine hK.out _ _ bWa (fun hHeld => ?_)
        clear hK K
        refine hw_ex rfl ?_; apply Exists.intro; refine ⟨fun w hSw => ?_, ?_⟩; (go_simp; first | done | (with_reducible rfl))
        simp only [Act.put, Act.eval, List.setIfInBounds_toArray, List.set_cons_zero, List.set_cons_succ, Array.getD_eq_getD_getElem?, List.getElem?_toArray, List.getElem?_cons_zero, List.getElem?_cons_succ, Option.getD_some]
        refine hw_ex rfl ?_; apply Exists.intro; refine ⟨fun w hSw => ?_, ?_⟩; (go_simp; first | done | (with_reducible rfl))
        simp only [Act.put, Act.eval, List.setIfInBounds_toArray, List.set_cons_zero, List.set_cons_succ, Array.getD_eq_getD_getElem?, List.getElem?_toArray, List.getElem?_cons_zero, List.getElem?_cons_succ, Option.getD_some]
        refine hw_nil ?_
        go_wp2
        go_ret
        exact ⟨rfl, bEE.trans (bWa.mono (by omega))⟩
      · have k9 : H.kd ≠ 9 := fun h => hk (Or.inl h)
        have k10 : H.kd ≠ 10 := fun h => hk (Or.inr (Or.inl h))
        have k11 : H.kd ≠ 11 := fun h => hk (Or.inr (Or.inr h))
        clear hk hc1
        generalize min n (T : Int) = lim at *
        generalize H.kd = kd at *
        go_upto_region 11 with (go_at_call 12; refine (div_no _ k9 k10 k11 _).mono ?_; rintro e wz ⟨rfl, hwz⟩; rw [hwz]; clear hwz)
        refine wp_region_Hw (S := fun w' => Below wB.heap.size wB w') [(0, true), (1, true), (2, true), (3, true), (4, true), (5, true), (6, true), (7, true), (8, false), (9, true), (10, true)] (by kernel_rfl) (by kernel_rfl) rfl (by kernel_rfl) (fun _ _ _ _ h => h) (Below.refl _ _).drew (fun hHeld => ?_)
        simp only [pick, List.map_cons, List.map_nil, Array.getD_eq_getD_getElem?, List.getElem?_toArray, List.getElem?_cons_zero, List.getElem?_cons_succ, Option.getD_some]
        refine hw_move _ rfl rfl ?_
        simp only [Act.put, Act.eval, List.setIfInBounds_toArray, List.set_cons_zero, List.set_cons_succ, Array.getD_eq_getD_getElem?, List.getElem?_toArray, List.getElem?_cons_zero, List.getElem?_cons_succ, Option.getD_some]
        refine hw_ex rfl ?_; apply Exists.intro; refine ⟨fun w hSw => ?_, ?_⟩; (go_simp; first | done | (with_reducible rfl))
        simp only [Act.put, Act.eval, List.setIfInBounds_toArray, List.set_cons_zero, List.set_cons_succ, Array.getD_eq_getD_getElem?, List.getElem?_toArray, List.getElem?_cons_zero, List.getElem?_cons_succ, Option.getD_some]
        refine hw_ex rfl ?_; apply Exists.intro; refine ⟨fun w hSw => ?_, ?_⟩; (go_simp; first | done | (with_reducible rfl))
        simp only [Act.put, Act.eval, List.setIfInBounds_toArray, List.set_cons_zero, List.set_cons_succ, Array.getD_eq_getD_getElem?, List.getElem?_toArray, List.getElem?_cons_zero, List.getElem?_cons_succ, Option.getD_some]
        refine hw_move _ rfl rfl ?_
        simp only [Act.put, Act.eval, List.setIfInBounds_toArray, List.set_cons_zero, List.set_cons_succ, Array.getD_eq_getD_getElem?, List.getElem?_toArray, List.getElem?_cons_zero, List.getElem?_cons_succ, Option.getD_some]
        refine hw_move _ rfl rfl ?_
        simp only [Act.put, Act.eval, List.setIfInBounds_toArray, List.set_cons_zero, List.set_cons_succ, Array.getD_eq_getD_getElem?, List.getElem?_toArray, List.getElem?_cons_zero, List.getElem?_cons_succ, Option.getD_some]
        refine hw_ex rfl ?_; apply Exists.intro; refine ⟨fun w hSw => ?_, ?_⟩; (go_simp; first | done | (with_reducible rfl))
        simp only [Act.put, Act.eval, List.setIfInBounds_toArray, List.set_cons_zero, List.set_cons_succ, Array.getD_eq_getD_getElem?, List.getElem?_toArray, List.getElem?_cons_zero, List.getElem?_cons_succ, Option.getD_some]
        refine hw_load 37 _ rfl rfl g 0 rfl m1 _ (fun w' h' => range_below h' hgl hr) Try.underlying37 rfl i37 ?_
        simp only [Act.put, Act.eval, List.setIfInBounds_toArray, List.set_cons_zero, List.set_cons_succ, Array.getD_eq_getD_getElem?, List.getElem?_toArray, List.getElem?_cons_zero, List.getElem?_cons_succ, Option.getD_some]
        refine hw_load 27 _ rfl rfl w.heap.size 0 rfl ms _ (fun w' h' => range_below h' sE hWe) Try.underlying27 rfl ims ?_
        simp only [Act.put, Act.eval, List.setIfInBounds_toArray, List.set_cons_zero, List.set_cons_succ, Array.getD_eq_getD_getElem?, List.getElem?_toArray, List.getElem?_cons_zero, List.getElem?_cons_succ, Option.getD_some]
        refine hw_do rfl (fun K hK => ?_)
        go_wp2_with (go_at_call 13; refine SW.mono ?_; rintro e wa ⟨rfl, ba⟩)
        have bWa : Below wB.heap.size wB wa := ((Below.refl _ wB).drew).trans ba
        refine hK.out _ _ bWa (fun hHeld => ?_)
        clear hK K
        refine hw_ex rfl ?_; apply Exists.intro; refine ⟨fun w hSw => ?_, ?_⟩; (go_simp; first | done | (with_reducible rfl))
        simp only [Act.put, Act.eval, List.setIfInBounds_toArray, List.set_cons_zero, List.set_cons_succ, Array.getD_eq_getD_getElem?, List.getElem?_toArray, List.getElem?_cons_zero, List.getElem?_cons_succ, Option.getD_some]
        refine hw_ex rfl ?_; apply Exists.intro; refine ⟨fun w hSw => ?_, ?_⟩; (go_simp; first | done | (with_reducible rfl))
        simp only [Act.put, Act.eval, List.setIfInBounds_toArray, List.set_cons_zero, List.set_cons_succ, Array.getD_eq_getD_getElem?, List.getElem?_toArray, List.getElem?_cons_zero, List.getElem?_cons_succ, Option.getD_some]
        refine hw_nil ?_
        go_wp2
        go_ret
        exact ⟨rfl, bEE.trans (bWa.mono (by omega))⟩
    · rw [← HT.out] at hN
      rw [← hN]
      have HK : Hid (H.kd = 9 ∨ H.kd = 10 ∨ H.kd = 11) := hk
      have hNT : N ≤ T := by omega
      have hN2' : (2 : Int) ≤ (N : Int) := by omega
      have hNl : (N : Int) ≤ 32768 := by omega
      obtain ⟨ptM, hptM⟩ : ∃ ptM : Int, ptM = if 2 ≤ N ∧ H.kd = 9 then (N : Int) else pt := ⟨_, rfl⟩
      have HPJ : Hid (∀ j, j < N → PMem wB H (.slice ah' HL.length ch') (if j = 0 then .slice ap' PL.length cp' else .slice none 0 0) ptM (part (PS.map PtV.bare) T N j) g j) := fun j hj => by
        rw [hptM]
        refine HP.out j _ ?_
        rw [List.getElem?_map, List.getElem?_range hj, HT.out]; rfl
      have HPM : Hid (ptM = if 2 ≤ N ∧ H.kd = 9 then (N : Int) else pt) := hptM
      have m87 : ms[87]? = some (.int .i64 pt) := by rw [← HMS.out]; exact mc_87 c _ _ _ _
      have cP87 := range_cell hWe 87 m87
      have cP86 := range_cell hWe 86 m86
      have cP85 := range_cell hWe 85 m85
      rw [Nat.zero_add] at cP87 cP86 cP85
      clear hk hN hQl HP HC hptM
      go_upto_if 67 with (go_at_call 12; refine (div_yes _ HK.out _).mono ?_; rintro e wz ⟨rfl, hwz⟩; rw [hwz]; clear hwz)
      go_cut [9] from 21 (fun v wx => v = .int .i64 ptM ∧ wx = wB)
      case first =>
        by_cases k9 : H.kd = 9
        · have hpv : ptM = N := by rw [HPM.out, if_pos ⟨hN2, k9⟩]
          rw [k9] at cK
          go_wp2
          go_meet
          exact ⟨by rw [hpv], rfl⟩
        · have hpv : ptM = pt := by rw [HPM.out, if_neg (by simp [k9])]
          have k9' : (H.kd == 9) = false := by simp [k9]
          go_wp2
          go_meet
          exact ⟨by rw [hpv], rfl⟩
      case rest =>
        obtain ⟨rfl, hwx⟩ := hcut
        subst hwx
        obtain ⟨wB, rfl⟩ : ∃ wB : World, wB = wc := ⟨_, rfl⟩
        go_wp2
        go_loopw [10] (fun iv wr => ∃ i : Nat, i ≤ N ∧ iv = .int .i64 i ∧ Below wB.heap.size wB wr) (fun iv _ => N - (intOf iv).toNat)
        case atStart => exact ⟨0, Nat.zero_le _, rfl, Below.refl _ _⟩
        case round =>
          obtain ⟨i, hi, rfl, b1⟩ := hrel
          by_cases li : i < N
          · as_aux_lemma =>
            obtain ⟨A, C, F, hr, hrow, hF, hbare⟩ := (HPJ.out i li).below c b1
            obtain ⟨Pi, hPi⟩ : ∃ Pi : Value, Pi = if i = 0 then Value.slice ap' PL.length cp' else .slice none 0 0 := ⟨_, rfl⟩
            rw [← hPi] at hr
            have HPI : Hid (Pi = if i = 0 then Value.slice ap' PL.length cp' else .slice none 0 0) := hPi
            have oPi : Pi.oneCell' = true := by rw [hPi]; split <;> rfl
            have hn2r := range_new wr (mc H (.slice ah' HL.length ch') Pi (.slice A F.length C) ptM) 37
            have bN : Below wr.heap.size wr (wr.alloc (.cells (mc H (.slice ah' HL.length ch') Pi (.slice A F.length C) ptM).toArray 37)) := (Below.refl _ _).alloc (Nat.le_refl _) _
            have hszN : (wr.alloc (.cells (mc H (.slice ah' HL.length ch') Pi (.slice A F.length C) ptM).toArray 37)).heap.size = wr.heap.size + 1 := by simp
            have bBN : Below wB.heap.size wB (wr.alloc (.cells (mc H (.slice ah' HL.length ch') Pi (.slice A F.length C) ptM).toArray 37)) := b1.trans (bN.mono b1.size)
            have hM := HMB.out.below bBN
            have SH := same_head H c ah' ah ch' ch HL Pi (.slice ap PL.length cp) (.slice A F.length C) (.slice aq PS.length cq) ptM pt (wr.alloc (.cells (mc H (.slice ah' HL.length ch') Pi (.slice A F.length C) ptM).toArray 37)) (HI1.out.below hM.cH bBN) hM.hH hM.cH kH
            rw [HMS.out] at SH
            have c85 := range_cell hn2r 85 (mc_85 c _ _ _ _)
            have c87 := range_cell hn2r 87 (mc_87 c _ _ _ _)
            rw [Nat.zero_add] at c85 c87
            have i37 : (Try.prog.info? 37).map (·.size) = some (mc H (.slice ah' HL.length ch') Pi (.slice A F.length C) ptM).length := by rw [mc_len c]; exact Try.info37s
            have iz : (Try.prog.info? 37).map (fun i => (i.zero, i.size, i.bytes)) = some (some (.agg zero37.toArray), (mc H (.slice ah' HL.length ch') Pi (.slice A F.length C) ptM).length, 232) := by rw [mc_len c]; exact Try.info37z
            have hZ : zero37.toArray.size = (mc H (.slice ah' HL.length ch') Pi (.slice A F.length C) ptM).length := by rw [mc_len c]; exact zero37_size
            have hone := mc_one c (h := .slice ah' HL.length ch') (p := Pi) (q := .slice A F.length C) ptM rfl oPi rfl
            have li' : (i : Int) < (N : Int) := by omega
            have hWN := range_below bBN sE hWe
            clear hrow hF hbare hM hPi
            generalize hmi : mc H (.slice ah' HL.length ch') Pi (.slice A F.length C) ptM = mi at *
            clear hmi
            go_upto_if 87 with (first
              | (refine wpList_load_g 37 (.tmp 76) rfl rfl g (i * 92) rfl mi _ hr Try.underlying37 rfl i37 ?_; simp only [Act.put, List.setIfInBounds_toArray, List.set_cons_zero, List.set_cons_succ, World.size_alloc])
              | (refine wpList_new_var rfl rfl 37 11 (.tmp 77) rfl rfl rfl rfl 230 rfl (by decide) mi zero37.toArray 232 rfl iz hZ hone ?_; simp only [Act.put, List.setIfInBounds_toArray, List.set_cons_zero, List.set_cons_succ, World.size_alloc])
              | (refine wpList_load_g 37 (.tmp 11) rfl rfl wr.heap.size 0 rfl mi _ hn2r Try.underlying37 rfl i37 ?_; simp only [Act.put, List.setIfInBounds_toArray, List.set_cons_zero, List.set_cons_succ, World.size_alloc])
              | (refine wpList_load_g 27 (.tmp 2) rfl rfl w.heap.size 0 rfl ms _ hWN Try.underlying27 rfl ims ?_; simp only [Act.put, List.setIfInBounds_toArray, List.set_cons_zero, List.set_cons_succ, World.size_alloc])
              | (go_at_call 14; refine SH.mono ?_; rintro e wa ⟨rfl, ba⟩; have c85a := (ba.cell (p := ⟨wr.heap.size, 85, none⟩) (by show wr.heap.size < _; omega)).trans c85; have c87a := (ba.cell (p := ⟨wr.heap.size, 87, none⟩) (by show wr.heap.size < _; omega)).trans c87))
            have bBa : Below wB.heap.size wB wa := bBN.trans (ba.mono (by rw [hszN]; have := b1.size; omega))
            have cP85a : wa.cell? ⟨w.heap.size, 85, none⟩ = some (.slice ap PL.length cp) := (bBa.cell (p := ⟨w.heap.size, 85, none⟩) sE).trans cP85
            have hMa := HMB.out.below bBa
            have HMa : Hid (MsgIn wa H ah ap aq HL PL PS) := hMa
            have HIa : Hid (IdsAt wa ap' PL) := HI2.out.below hMa.cP bBa
            have hnq := fun w => run_neq_slice_nil_any (P := Try.prog) w 34 33 none 0 0 0 0 Try.underlying34
            clear hMa SH hr hn2r iz hZ hone i37 hWN c85 c87
            by_cases i0 : i = 0
            · have hPv : Pi = .slice ap' PL.length cp' := by rw [HPI.out, if_pos i0]
              rw [hPv] at c85a
              subst i0
              clear hnq
              go_wp2_with (go_at_call 15; refine (same_ids ap' ap cp' cp PL _ HIa.out HMa.out.hP HMa.out.cP kP).mono ?_; rintro e wd ⟨rfl, bd⟩)
              go_roundw
              case rel => exact ⟨1, by omega, rfl, bBa.trans (bd.mono bBa.size)⟩
              case measure => simp [intOf]; omega
            · have hPv : Pi = .slice none 0 0 := by rw [HPI.out, if_neg i0]
              rw [hPv] at c85a
              have i0' : ¬ (i : Int) = 0 := by omega
              clear i0
              go_wp2
              go_roundw
              case rel => exact ⟨i + 1, by omega, by go_num, bBa⟩
              case measure => simp [intOf]; omega
          · have hie : i = N := by omega
            obtain ⟨w0, rfl⟩ : ∃ w0 : World, w0 = wr := ⟨_, rfl⟩
            obtain ⟨i3, hi3, hz3, hs3, hy3⟩ := info_parts Try.info3z
            go_wp2_with (at_make; refine wpList_make_full _ rfl (.tmp 99) (.tmp 99) 43 rfl w0.heap.size 3 i3 (.int .i64 0) 1 Try.underlying43 hi3 hz3 hs3 .i64 .i64 _ _ N rfl rfl rfl rfl ?_ ?_ ?_ ?_)
            · rw [hy3]; omega
            · unfold maxLen; omega
            · exact Nat.le_refl _
            intro w1 hown hgrow
            rw [toList_madeCells_one] at hown
            have hth0 := (owns_there hown).1
            rw [Nat.mul_one] at hth0
            have hcel : ∀ j, j < N → w1.cell? ⟨w0.heap.size, j, none⟩ = some (.int .i64 0) := fun j hj => by rw [hown.cellAt j (by omega)]; simp [hj]
            have bG : Below w0.heap.size w0 w1 := (Below.refl _ _).grown hgrow (Nat.le_refl _) (fun k h => by cases h)
            have hlt1 : w0.heap.size < w1.heap.size := owns_lt hown
            have sG : wB.heap.size ≤ w0.heap.size := b1.size
            generalize hgu : w0.heap.size = gu at *
            obtain ⟨L, hL⟩ : ∃ L : List Bare, L = PS.map PtV.bare := ⟨_, rfl⟩
            have HLb : Hid (L = PS.map PtV.bare) := hL
            have HCN : Hid (cnt L = T) := by show _ = _; rw [HT.out, hL]
            have hLl : L.length = PS.length := by rw [hL]; simp
            have HLL : Hid (L.length = PS.length) := hLl
            have HPJ2 : Hid (∀ j, j < N → PMem wB H (.slice ah' HL.length ch') (if j = 0 then .slice ap' PL.length cp' else .slice none 0 0) ptM (part L T N j) g j) := by rw [hL]; exact HPJ.out
            have HU0 : Hid (∀ j, j < N → w1.cell? ⟨gu, j, none⟩ = some (.int .i64 (usedN L T N 0 0 j : Nat))) := fun j hj => by
              have : usedN L T N 0 0 j = 0 := by unfold usedN; split <;> first | omega | (split <;> rfl)
              rw [this]; exact hcel j hj
            have HST0 : Hid (St L T N 0 0 0 0 []) := by
              have := St.start (L := L) (N := N) (by rw [HCN.out]; omega) (by rw [hLl]; omega) (by omega)
              rwa [HCN.out] at this
            have HTH0 : Hid (w1.there gu 0 N) := hth0
            clear hL hLl hcel hown hgrow hi3 hz3 hs3 hy3 HPJ hth0 hi hie
            go_wp2
            go_loopw [13, 14, 15] (fun iv av pv wr => ∃ (i d p : Nat) (F : List PtV), i < N ∧ p ≤ PS.length ∧ iv = .int .i64 i ∧ av = .int .i64 d ∧ pv = .int .i64 p ∧ Below gu w0 wr ∧ gu < wr.heap.size ∧ wr.there gu 0 N ∧ (∀ j, j < N → wr.cell? ⟨gu, j, none⟩ = some (.int .i64 (usedN L T N i F.length j : Nat))) ∧ (St L T N i p 0 d F ∨ (d = T ∧ i + 1 = N ∧ F.length = (part L T N i).length ∧ cnt (L.drop p) = 0))) (fun _ _ pv _ => PS.length - (intOf pv).toNat)
            case atStart => exact ⟨0, 0, 0, [], by omega, Nat.zero_le _, rfl, rfl, rfl, bG, hlt1, HTH0.out, HU0.out, Or.inl HST0.out⟩
            case round =>
              obtain ⟨i2, d, p, F, hi2, hp, rfl, rfl, rfl, b2, hgl2, hth2, hus, hst⟩ := hrel
              obtain ⟨wo, rfl⟩ : ∃ wo : World, wo = wr := ⟨_, rfl⟩
              have HTH2 : Hid (wo.there gu 0 N) := hth2
              have HUS : Hid (∀ j, j < N → wo.cell? ⟨gu, j, none⟩ = some (.int .i64 (usedN L T N i2 F.length j : Nat))) := hus
              have HSTA : Hid (St L T N i2 p 0 d F ∨ (d = T ∧ i2 + 1 = N ∧ F.length = (part L T N i2).length ∧ cnt (L.drop p) = 0)) := hst
              have hdT : d ≤ T := by
                rcases hst with h | h
                · exact Nat.le_trans h.dle (ends_le (by omega) hi2)
                · omega
              clear hth2 hus hst bG hlt1
              have b1o : Below wB.heap.size wB wo := b1.trans (b2.mono sG)
              have cO86 : wo.cell? ⟨w.heap.size, 86, none⟩ = some (.slice aq PS.length cq) := (b1o.cell (p := ⟨w.heap.size, 86, none⟩) sE).trans cP86
              by_cases lp : p < PS.length
              · obtain ⟨z, hz⟩ : ∃ z, PS[p]? = some z := ⟨_, List.getElem?_eq_getElem lp⟩
                have hzL : L[p]? = some z.bare := by rw [HLb.out, List.getElem?_map, hz]; rfl
                have hzq := HMB.out.cQ z (List.mem_of_getElem? hz)
                obtain ⟨bz, oz, rfl, rZ⟩ := HMB.out.hQ p z hz
                have hzc := hzq.1
                have hbz : bz < wB.heap.size := range_lt rZ (by rw [PtV.cells_len hzc]; omega)
                have cZ : wB.cell? ⟨bz, oz + p * 21 + 20, none⟩ = some (.slice z.a z.hs.length z.cap) := range_cell rZ 20 (PtV.cells_hs hzc)
                have cZo : wo.cell? ⟨bz, oz + p * 21 + 20, none⟩ = some (.slice z.a z.hs.length z.cap) := (b1o.cell (p := ⟨bz, oz + p * 21 + 20, none⟩) hbz).trans cZ
                have rZk : wB.rangeAt bz (oz + p * 21) z.key := range_take rZ
                have hzT : z.hs.length ≤ T := by rw [← HCN.out]; exact cnt_mem hzL
                have hzl : (z.hs.length : Int) ≤ 32768 := by omega
                have lp' : (p : Int) < (PS.length : Int) := by omega
                have hcd := cnt_drop hzL
                have hcd' : cnt (L.drop p) = z.hs.length + cnt (L.drop (p + 1)) := hcd
                have HCD : Hid (cnt (L.drop p) = z.hs.length + cnt (L.drop (p + 1))) := hcd'
                have HZL : Hid (L[p]? = some z.bare) := hzL
                have HZC : Hid (PtC z) := hzc
                have HZI : Hid (IdsAt wB z.a z.hs) := hzq.2.1
                have ik2 : (Try.prog.info? 22).map (·.size) = some z.key.length := by rw [hzc.key.len]; exact Try.info22s
                clear hz hzL hzq hzc hcd hcd' rZ
                by_cases hz0 : z.hs.length = 0
                · by_cases dT : d < T
                  · as_aux_lemma =>
                    have hst0 : St L T N i2 p 0 d F := by
                      rcases HSTA.out with h | h
                      · exact h
                      · omega
                    have HST : Hid (St L T N i2 p 0 d F) := hst0
                    have dT' : (d : Int) < (T : Int) := by omega
                    rw [hz0] at cZo
                    clear hst0
                    go_wp2
                    go_loop [13] (fun iv => ∃ (i : Nat) (F1 : List PtV), i < N ∧ iv = .int .i64 i ∧ (∀ j, usedN L T N i2 F.length j = usedN L T N i F1.length j) ∧ St L T N i p 0 d F1) (fun iv => N - (intOf iv).toNat)
                    case atStart => exact ⟨i2, F, hi2, rfl, fun _ => rfl, HST.out⟩
                    case round =>
                      obtain ⟨i, F1, hi, rfl, hue, hst⟩ := hrel
                      have hm0 : (0 : Int) ≤ ((i : Int) + 1) * (T : Int) := Int.mul_nonneg (by omega) (by omega)
                      have hm1 : ((i : Int) + 1) * (T : Int) ≤ 1073741824 := mul_small (by omega) (by omega)
                      obtain ⟨e, he⟩ : ∃ e, e = ends T N (i + 1) := ⟨_, rfl⟩
                      have hq : Int.tdiv (((i : Int) + 1) * (T : Int)) (N : Int) = (e : Int) := by rw [he]; exact ends_tdiv T N i
                      have HEE : Hid (e = ends T N (i + 1)) := he
                      have heT : e ≤ T := by rw [he]; exact ends_le (by omega) hi
                      have hue1 : ∀ j, j < N → wo.cell? ⟨gu, j, none⟩ = some (.int .i64 (usedN L T N i F1.length j : Nat)) := fun j hj => by rw [← hue j]; exact HUS.out j hj
                      have HUS1 : Hid (∀ j, j < N → wo.cell? ⟨gu, j, none⟩ = some (.int .i64 (usedN L T N i F1.length j : Nat))) := hue1
                      have HST1 : Hid (St L T N i p 0 d F1) := hst
                      have HUE : Hid (∀ j, usedN L T N i2 F.length j = usedN L T N i F1.length j) := hue
                      clear he hue hst hue1
                      by_cases le : e ≤ d
                      · have hi1 : i + 1 < N := by
                          rcases Nat.lt_or_ge (i + 1) N with h | h
                          · exact h
                          · have h2 : i + 1 = N := by omega
                            have h3 := HEE.out
                            rw [h2, ends_last (by omega)] at h3
                            omega
                        have hle : (e : Int) ≤ (d : Int) := by omega
                        go_wp2
                        go_round
                        case rel =>
                          obtain ⟨hn, hl⟩ := HST1.out.next (by omega) (by rw [HLL.out]; omega) hi1 (by rw [← HEE.out]; exact le)
                          exact ⟨i + 1, [], hi1, by go_num, fun j => (HUE.out j).trans (usedN_next hl j), hn⟩
                        case measure => simp [intOf]; omega
                      · have hle : ¬ (e : Int) ≤ (d : Int) := by omega
                        obtain ⟨y, hpc, hst2⟩ := HST1.out.none HZL.out hz0 (by rw [← HEE.out]; omega)
                        obtain ⟨A, m, C, cA, hgA, PC⟩ := piece_call c ((HPJ2.out i hi).below c b1o) (HZI.out.below HZC.out.hs b1o) HZC.out 0 0 hpc (Nat.le_refl _) (Nat.zero_le _) (by rw [HLL.out]; omega) (by omega) 0 0 rfl rfl
                        have HST2 : Hid (St L T N i (p + 1) 0 d (F1 ++ [y])) := hst2
                        rw [hz0] at PC
                        have cU : wo.cell? ⟨gu, i, none⟩ = some (.int .i64 (F1.length : Nat)) := by rw [HUS1.out i hi, usedN_self]
                        have hBw : w.heap.size < wo.heap.size := by have := b1o.size; omega
                        have hbz2 : bz < wo.heap.size := by have := b1o.size; omega
                        have rZo : wo.rangeAt bz (oz + p * 21) z.key := range_below b1o hbz rZk
                        have li' : (i : Int) < (N : Int) := by omega
                        clear hpc hst2
                        go_upto_region 40 with fail
                        refine wp_region_Hw (S := fun w' => Below wo.heap.size wo w') [(0, true), (1, true), (2, true), (3, true), (4, true), (5, true), (6, true), (7, true), (8, true), (9, true), (10, true), (11, true), (12, true), (13, true), (14, true), (15, true), (16, false), (17, true)] (by kernel_rfl) (by kernel_rfl) rfl (by kernel_rfl) (fun _ _ _ _ h => h) (Below.refl _ _).drew (fun hHeld => ?_)
                        simp only [pick, List.map_cons, List.map_nil, Array.getD_eq_getD_getElem?, List.getElem?_toArray, List.getElem?_cons_zero, List.getElem?_cons_succ, Option.getD_some]
                        refine hw_move _ rfl rfl ?_
                        simp only [Act.put, Act.eval, List.setIfInBounds_toArray, List.set_cons_zero, List.set_cons_succ, Array.getD_eq_getD_getElem?, List.getElem?_toArray, List.getElem?_cons_zero, List.getElem?_cons_succ, Option.getD_some]
                        refine hw_move _ rfl rfl ?_
                        simp only [Act.put, Act.eval, List.setIfInBounds_toArray, List.set_cons_zero, List.set_cons_succ, Array.getD_eq_getD_getElem?, List.getElem?_toArray, List.getElem?_cons_zero, List.getElem?_cons_succ, Option.getD_some]
                        refine hw_ex rfl ?_; apply Exists.intro; refine ⟨fun w hSw => ?_, ?_⟩; (go_simp; first | done | (with_reducible rfl))
                        simp only [Act.put, Act.eval, List.setIfInBounds_toArray, List.set_cons_zero, List.set_cons_succ, Array.getD_eq_getD_getElem?, List.getElem?_toArray, List.getElem?_cons_zero, List.getElem?_cons_succ, Option.getD_some]
                        refine hw_ex rfl ?_; apply Exists.intro; refine ⟨fun w hSw => ?_, ?_⟩; (go_simp; first | done | (with_reducible rfl))
                        simp only [Act.put, Act.eval, List.setIfInBounds_toArray, List.set_cons_zero, List.set_cons_succ, Array.getD_eq_getD_getElem?, List.getElem?_toArray, List.getElem?_cons_zero, List.getElem?_cons_succ, Option.getD_some]
                        refine hw_load1 35 _ rfl rfl g (i * 92 + 86) rfl (.slice A m C) _ (fun w' h' => (h'.cell (p := ⟨g, i * 92 + 86, none⟩) hgA).trans cA) Try.underlying35 rfl ?_
                        simp only [Act.put, Act.eval, List.setIfInBounds_toArray, List.set_cons_zero, List.set_cons_succ, Array.getD_eq_getD_getElem?, List.getElem?_toArray, List.getElem?_cons_zero, List.getElem?_cons_succ, Option.getD_some]
                        refine hw_move _ rfl rfl ?_
                        simp only [Act.put, Act.eval, List.setIfInBounds_toArray, List.set_cons_zero, List.set_cons_succ, Array.getD_eq_getD_getElem?, List.getElem?_toArray, List.getElem?_cons_zero, List.getElem?_cons_succ, Option.getD_some]
                        refine hw_move _ rfl rfl ?_
                        simp only [Act.put, Act.eval, List.setIfInBounds_toArray, List.set_cons_zero, List.set_cons_succ, Array.getD_eq_getD_getElem?, List.getElem?_toArray, List.getElem?_cons_zero, List.getElem?_cons_succ, Option.getD_some]
                        refine hw_ex rfl ?_; apply Exists.intro; refine ⟨fun w hSw => ?_, ?_⟩; (go_simp; first | done | (with_reducible rfl))
                        simp only [Act.put, Act.eval, List.setIfInBounds_toArray, List.set_cons_zero, List.set_cons_succ, Array.getD_eq_getD_getElem?, List.getElem?_toArray, List.getElem?_cons_zero, List.getElem?_cons_succ, Option.getD_some]
                        refine hw_load1 3 _ rfl rfl gu i rfl (.int .i64 (F1.length : Nat)) _ (fun w' h' => (h'.cell (p := ⟨gu, i, none⟩) hgl2).trans cU) Try.underlying3 rfl ?_
                        simp only [Act.put, Act.eval, List.setIfInBounds_toArray, List.set_cons_zero, List.set_cons_succ, Array.getD_eq_getD_getElem?, List.getElem?_toArray, List.getElem?_cons_zero, List.getElem?_cons_succ, Option.getD_some]
                        refine hw_ex rfl ?_; apply Exists.intro; refine ⟨fun w hSw => ?_, ?_⟩; (go_simp; first | done | (with_reducible rfl))
                        simp only [Act.put, Act.eval, List.setIfInBounds_toArray, List.set_cons_zero, List.set_cons_succ, Array.getD_eq_getD_getElem?, List.getElem?_toArray, List.getElem?_cons_zero, List.getElem?_cons_succ, Option.getD_some]
                        refine hw_load1 25 _ rfl rfl w.heap.size 86 rfl (.slice (some ⟨bz, oz, none⟩) PS.length cq) _ (fun w' h' => (h'.cell (p := ⟨w.heap.size, 86, none⟩) hBw).trans cO86) Try.underlying25 rfl ?_
                        simp only [Act.put, Act.eval, List.setIfInBounds_toArray, List.set_cons_zero, List.set_cons_succ, Array.getD_eq_getD_getElem?, List.getElem?_toArray, List.getElem?_cons_zero, List.getElem?_cons_succ, Option.getD_some]
                        refine hw_move _ rfl rfl ?_
                        simp only [Act.put, Act.eval, List.setIfInBounds_toArray, List.set_cons_zero, List.set_cons_succ, Array.getD_eq_getD_getElem?, List.getElem?_toArray, List.getElem?_cons_zero, List.getElem?_cons_succ, Option.getD_some]
                        refine hw_ex rfl ?_; apply Exists.intro; refine ⟨fun w hSw => ?_, ?_⟩; (go_simp; first | done | (with_reducible rfl))
                        simp only [Act.put, Act.eval, List.setIfInBounds_toArray, List.set_cons_zero, List.set_cons_succ, Array.getD_eq_getD_getElem?, List.getElem?_toArray, List.getElem?_cons_zero, List.getElem?_cons_succ, Option.getD_some]
                        refine hw_ex rfl ?_; apply Exists.intro; refine ⟨fun w hSw => ?_, ?_⟩; (go_simp; first | done | (with_reducible rfl))
                        simp only [Act.put, Act.eval, List.setIfInBounds_toArray, List.set_cons_zero, List.set_cons_succ, Array.getD_eq_getD_getElem?, List.getElem?_toArray, List.getElem?_cons_zero, List.getElem?_cons_succ, Option.getD_some]
                        refine hw_load 22 _ rfl rfl bz (oz + p * 21) rfl z.key _ (fun w' h' => range_below h' hbz2 rZo) Try.underlying22 rfl ik2 ?_
                        simp only [Act.put, Act.eval, List.setIfInBounds_toArray, List.set_cons_zero, List.set_cons_succ, Array.getD_eq_getD_getElem?, List.getElem?_toArray, List.getElem?_cons_zero, List.getElem?_cons_succ, Option.getD_some]
                        refine hw_move _ rfl rfl ?_
                        simp only [Act.put, Act.eval, List.setIfInBounds_toArray, List.set_cons_zero, List.set_cons_succ, Array.getD_eq_getD_getElem?, List.getElem?_toArray, List.getElem?_cons_zero, List.getElem?_cons_succ, Option.getD_some]
                        refine hw_do rfl (fun K hK => ?_)
                        go_wp2_with (go_at_call 16; refine (PC wo.drew (Below.refl _ wo).drew).mono ?_; rintro e' wa ⟨rfl, ba⟩)
                        have bWa : Below wo.heap.size wo wa := ((Below.refl _ wo).drew).trans ba
                        refine hK.out _ _ bWa (fun hHeld => ?_)
                        clear hK K
                        refine hw_ex rfl ?_; apply Exists.intro; refine ⟨fun w hSw => ?_, ?_⟩; (go_simp; first | done | (with_reducible rfl))
                        simp only [Act.put, Act.eval, List.setIfInBounds_toArray, List.set_cons_zero, List.set_cons_succ, Array.getD_eq_getD_getElem?, List.getElem?_toArray, List.getElem?_cons_zero, List.getElem?_cons_succ, Option.getD_some]
                        refine hw_nil ?_
                        have hF1l : F1.length ≤ 98304 := by have := HST1.out.few; omega
                        have cUa : wa.cell? ⟨gu, i, none⟩ = some (.int .i64 (F1.length : Nat)) := (bWa.cell (p := ⟨gu, i, none⟩) hgl2).trans cU
                        have htha : wa.there gu 0 N := there_below bWa hgl2 HTH2.out
                        have hfz : wa.frozen? ⟨gu, i, none⟩ = false := by have := (htha i hi).2; rwa [Nat.zero_add] at this
                        have HUSa : Hid (∀ j, j < N → wa.cell? ⟨gu, j, none⟩ = some (.int .i64 (usedN L T N i F1.length j : Nat))) := fun j hj => (bWa.cell (p := ⟨gu, j, none⟩) hgl2).trans (HUS1.out j hj)
                        have HTHa : Hid (wa.there gu 0 N) := htha
                        have b3 : Below gu w0 wa := b2.trans (bWa.mono (Nat.le_of_lt hgl2))
                        have hgl3 : gu < wa.heap.size := Nat.lt_of_lt_of_le hgl2 bWa.size
                        clear htha PC cA hgA cU rZo
                        go_wp2
                        go_roundw
                        case rel => exact ⟨i, d, p + 1, F1 ++ [y], hi, by omega, rfl, by go_num, by go_num, b3.setCell (Nat.le_refl _) _, by simpa using hgl3, there_set1 HTHa.out _ _ _, by rw [List.length_append]; exact used_set HTHa.out HUSa.out hi (by go_num), Or.inl HST2.out⟩
                        case measure => simp [intOf]; omega
                  · have hfin : d = T ∧ i2 + 1 = N ∧ F.length = (part L T N i2).length ∧ cnt (L.drop (p + 1)) = 0 := by
                      rcases HSTA.out with h | ⟨h1, h2, h3, h4⟩
                      · obtain ⟨e1, e2, e3⟩ := h.over (by omega) hNT hi2 (by omega)
                        have e4 := h.sum
                        rw [remPH_zero, HCD.out] at e4
                        exact ⟨e3, e1, e2, by omega⟩
                      · have := HCD.out
                        exact ⟨h1, h2, h3, by omega⟩
                    have HFN : Hid (d = T ∧ i2 + 1 = N ∧ F.length = (part L T N i2).length ∧ cnt (L.drop (p + 1)) = 0) := hfin
                    have dT' : ¬ (d : Int) < (T : Int) := by omega
                    rw [hz0] at cZo cZ
                    clear hfin
                    go_wp2
                    go_roundw
                    case rel => exact ⟨i2, d, p + 1, F, hi2, by omega, rfl, by go_num, by go_num, b2, hgl2, HTH2.out, HUS.out, Or.inr HFN.out⟩
                    case measure => simp [intOf]; omega
                · as_aux_lemma =>
                  obtain ⟨en, hen⟩ : ∃ en, en = d + z.hs.length := ⟨_, rfl⟩
                  have hst0 : St L T N i2 p 0 d F := by
                    rcases HSTA.out with h | ⟨_, _, _, h⟩
                    · exact h
                    · have := HCD.out; omega
                  have henT : en ≤ T := by
                    have h1 := hst0.sum
                    rw [remPH_zero, HCD.out] at h1
                    omega
                  have HST : Hid (St L T N i2 p 0 d F) := hst0
                  have HEN : Hid (en = d + z.hs.length) := hen
                  have hz0' : ¬ (z.hs.length : Int) = 0 := by omega
                  have hz0b : ((z.hs.length : Int) == 0) = false := beq_eq_false_iff_ne.2 hz0'
                  have henI : (d : Int) + (z.hs.length : Int) = (en : Int) := by omega
                  have hdn : d < en := by omega
                  have HUF : Hid (Aft L T N i2 p d en d F) := by
                    show Aft L T N i2 p d en d F
                    unfold Aft
                    rw [if_pos hdn, Nat.sub_self]
                    exact hst0
                  clear hst0 hen
                  go_wp2
                  try simp only [hz0b]
                  clear hz0b
                  go_loopw [13, 18] (fun iv lv wr => ∃ (i lo : Nat) (F : List PtV), i < N ∧ d ≤ lo ∧ lo ≤ en ∧ iv = .int .i64 i ∧ lv = .int .i64 lo ∧ Below gu w0 wr ∧ gu < wr.heap.size ∧ wr.there gu 0 N ∧ (∀ j, j < N → wr.cell? ⟨gu, j, none⟩ = some (.int .i64 (usedN L T N i F.length j : Nat))) ∧ Aft L T N i p d en lo F) (fun _ lv _ => en - (intOf lv).toNat)
                  case atStart => exact ⟨i2, d, F, hi2, Nat.le_refl _, Nat.le_of_lt hdn, rfl, rfl, b2, hgl2, HTH2.out, HUS.out, HUF.out⟩
                  case round =>
                    clear b2 hgl2 HTH2 HUS HUF HST HSTA b1o cO86 cZo hi2
                    obtain ⟨i2, lo, F, hi2, hdl, hlo, rfl, rfl, b2, hgl2, hth2, hus, haft⟩ := hrel
                    obtain ⟨wo, rfl⟩ : ∃ wo : World, wo = wr := ⟨_, rfl⟩
                    have HTH2 : Hid (wo.there gu 0 N) := hth2
                    have HUS : Hid (∀ j, j < N → wo.cell? ⟨gu, j, none⟩ = some (.int .i64 (usedN L T N i2 F.length j : Nat))) := hus
                    have HAF : Hid (Aft L T N i2 p d en lo F) := haft
                    have b1o : Below wB.heap.size wB wo := b1.trans (b2.mono sG)
                    have cO86 : wo.cell? ⟨w.heap.size, 86, none⟩ = some (.slice (some ⟨bz, oz, none⟩) PS.length cq) := (b1o.cell (p := ⟨w.heap.size, 86, none⟩) sE).trans cP86
                    clear hth2 hus haft
                    by_cases ll : lo < en
                    · have hst0 : St L T N i2 p (lo - d) lo F := by have := HAF.out; unfold Aft at this; rwa [if_pos ll] at this
                      have HST : Hid (St L T N i2 p (lo - d) lo F) := hst0
                      have ll' : (lo : Int) < (en : Int) := by omega
                      clear hst0 HAF
                      go_wp2
                      go_loop [13] (fun iv => ∃ (i : Nat) (F1 : List PtV), i < N ∧ iv = .int .i64 i ∧ (∀ j, usedN L T N i2 F.length j = usedN L T N i F1.length j) ∧ St L T N i p (lo - d) lo F1) (fun iv => N - (intOf iv).toNat)
                      case atStart => exact ⟨i2, F, hi2, rfl, fun _ => rfl, HST.out⟩
                      case round =>
                        obtain ⟨i, F1, hi, rfl, hue, hst⟩ := hrel
                        have hm0 : (0 : Int) ≤ ((i : Int) + 1) * (T : Int) := Int.mul_nonneg (by omega) (by omega)
                        have hm1 : ((i : Int) + 1) * (T : Int) ≤ 1073741824 := mul_small (by omega) (by omega)
                        obtain ⟨e, he⟩ : ∃ e, e = ends T N (i + 1) := ⟨_, rfl⟩
                        have hq : Int.tdiv (((i : Int) + 1) * (T : Int)) (N : Int) = (e : Int) := by rw [he]; exact ends_tdiv T N i
                        have HEE : Hid (e = ends T N (i + 1)) := he
                        have heT : e ≤ T := by rw [he]; exact ends_le (by omega) hi
                        have hue1 : ∀ j, j < N → wo.cell? ⟨gu, j, none⟩ = some (.int .i64 (usedN L T N i F1.length j : Nat)) := fun j hj => by rw [← hue j]; exact HUS.out j hj
                        have HUS1 : Hid (∀ j, j < N → wo.cell? ⟨gu, j, none⟩ = some (.int .i64 (usedN L T N i F1.length j : Nat))) := hue1
                        have HST1 : Hid (St L T N i p (lo - d) lo F1) := hst
                        have HUE : Hid (∀ j, usedN L T N i2 F.length j = usedN L T N i F1.length j) := hue
                        clear he hue hst hue1
                        by_cases le : e ≤ lo
                        · have hi1 : i + 1 < N := by
                            rcases Nat.lt_or_ge (i + 1) N with h | h
                            · exact h
                            · have h2 : i + 1 = N := by omega
                              have h3 := HEE.out
                              rw [h2, ends_last (by omega)] at h3
                              omega
                          have hle : (e : Int) ≤ (lo : Int) := by omega
                          go_wp2
                          go_round
                          case rel =>
                            obtain ⟨hn, hl⟩ := HST1.out.next (by omega) (by rw [HLL.out]; omega) hi1 (by rw [← HEE.out]; exact le)
                            exact ⟨i + 1, [], hi1, by go_num, fun j => (HUE.out j).trans (usedN_next hl j), hn⟩
                          case measure => simp [intOf]; omega
                        · have hle : ¬ (e : Int) ≤ (lo : Int) := by omega
                          obtain ⟨hi', hhi⟩ : ∃ hi', hi' = min en e := ⟨_, rfl⟩
                          have HHI : Hid (hi' = min en e) := hhi
                          have hl1 : lo < hi' := by omega
                          have hl2 : hi' ≤ en := by omega
                          have hl3 : hi' ≤ T := by omega
                          clear hhi
                          go_upto_if 180 with fail
                          go_cut [19] from 159 to 212 (fun v wx => v = .int .i64 (hi' : Int) ∧ wx = wo)
                          case first =>
                            go_wp2
                            all_goals
                              go_meet
                              exact ⟨congrArg (Value.int .i64) (by have := HHI.out; omega), rfl⟩
                          case rest =>
                            obtain ⟨rfl, hwx⟩ := hcut
                            subst hwx
                            obtain ⟨wo, rfl⟩ : ∃ wo : World, wo = wc := ⟨_, rfl⟩
                            obtain ⟨y, hpc, hst2⟩ := HST1.out.deals (hi := hi') HZL.out HEN.out hdl ll (by rw [← HEE.out]; omega) (by rw [← HEE.out]; exact HHI.out)
                            obtain ⟨A, m, C, cA, hgA, PC⟩ := piece_call c ((HPJ2.out i hi).below c b1o) (HZI.out.below HZC.out.hs b1o) HZC.out (lo - d) (hi' - d) hpc (by omega) (by have := HEN.out; omega) (by rw [HLL.out]; omega) (by omega) ((lo : Int) - (d : Int)) ((hi' : Int) - (d : Int)) (by omega) (by omega)
                            have HST2 : Hid (Aft L T N i p d en hi' (F1 ++ [y])) := hst2
                            have hs1 : IntKind.i64.wrap ((lo : Int) - (d : Int)) = (lo : Int) - (d : Int) := by rw [IntKind.wrap_i64]; omega
                            have hs2 : IntKind.i64.wrap ((hi' : Int) - (d : Int)) = (hi' : Int) - (d : Int) := by rw [IntKind.wrap_i64]; omega
                            have cU : wo.cell? ⟨gu, i, none⟩ = some (.int .i64 (F1.length : Nat)) := by rw [HUS1.out i hi, usedN_self]
                            have hBw : w.heap.size < wo.heap.size := by have := b1o.size; omega
                            have hbz2 : bz < wo.heap.size := by have := b1o.size; omega
                            have rZo : wo.rangeAt bz (oz + p * 21) z.key := range_below b1o hbz rZk
                            have li' : (i : Int) < (N : Int) := by omega
                            clear hpc hst2
                            go_upto_region 50 with fail
                            refine wp_region_Hw (S := fun w' => Below wo.heap.size wo w') [(0, true), (1, true), (2, true), (3, true), (4, true), (5, true), (6, true), (7, true), (8, true), (9, true), (10, true), (11, true), (12, true), (13, true), (14, true), (15, true), (16, true), (17, true), (18, true), (19, true), (20, true), (21, true), (22, false), (23, true)] (by kernel_rfl) (by kernel_rfl) rfl (by kernel_rfl) (fun _ _ _ _ h => h) (Below.refl _ _).drew (fun hHeld => ?_)
                            simp only [pick, List.map_cons, List.map_nil, Array.getD_eq_getD_getElem?, List.getElem?_toArray, List.getElem?_cons_zero, List.getElem?_cons_succ, Option.getD_some]
                            refine hw_move _ rfl rfl ?_
                            simp only [Act.put, Act.eval, List.setIfInBounds_toArray, List.set_cons_zero, List.set_cons_succ, Array.getD_eq_getD_getElem?, List.getElem?_toArray, List.getElem?_cons_zero, List.getElem?_cons_succ, Option.getD_some, hs1, hs2]
                            refine hw_move _ rfl rfl ?_
                            simp only [Act.put, Act.eval, List.setIfInBounds_toArray, List.set_cons_zero, List.set_cons_succ, Array.getD_eq_getD_getElem?, List.getElem?_toArray, List.getElem?_cons_zero, List.getElem?_cons_succ, Option.getD_some, hs1, hs2]
                            refine hw_ex rfl ?_; apply Exists.intro; refine ⟨fun w hSw => ?_, ?_⟩; (go_simp; first | done | (with_reducible rfl))
                            simp only [Act.put, Act.eval, List.setIfInBounds_toArray, List.set_cons_zero, List.set_cons_succ, Array.getD_eq_getD_getElem?, List.getElem?_toArray, List.getElem?_cons_zero, List.getElem?_cons_succ, Option.getD_some, hs1, hs2]
                            refine hw_ex rfl ?_; apply Exists.intro; refine ⟨fun w hSw => ?_, ?_⟩; (go_simp; first | done | (with_reducible rfl))
                            simp only [Act.put, Act.eval, List.setIfInBounds_toArray, List.set_cons_zero, List.set_cons_succ, Array.getD_eq_getD_getElem?, List.getElem?_toArray, List.getElem?_cons_zero, List.getElem?_cons_succ, Option.getD_some, hs1, hs2]
                            refine hw_load1 35 _ rfl rfl g (i * 92 + 86) rfl (.slice A m C) _ (fun w' h' => (h'.cell (p := ⟨g, i * 92 + 86, none⟩) hgA).trans cA) Try.underlying35 rfl ?_
                            simp only [Act.put, Act.eval, List.setIfInBounds_toArray, List.set_cons_zero, List.set_cons_succ, Array.getD_eq_getD_getElem?, List.getElem?_toArray, List.getElem?_cons_zero, List.getElem?_cons_succ, Option.getD_some, hs1, hs2]
                            refine hw_move _ rfl rfl ?_
                            simp only [Act.put, Act.eval, List.setIfInBounds_toArray, List.set_cons_zero, List.set_cons_succ, Array.getD_eq_getD_getElem?, List.getElem?_toArray, List.getElem?_cons_zero, List.getElem?_cons_succ, Option.getD_some, hs1, hs2]
                            refine hw_move _ rfl rfl ?_
                            simp only [Act.put, Act.eval, List.setIfInBounds_toArray, List.set_cons_zero, List.set_cons_succ, Array.getD_eq_getD_getElem?, List.getElem?_toArray, List.getElem?_cons_zero, List.getElem?_cons_succ, Option.getD_some, hs1, hs2]
                            refine hw_ex rfl ?_; apply Exists.intro; refine ⟨fun w hSw => ?_, ?_⟩; (go_simp; first | done | (with_reducible rfl))
                            simp only [Act.put, Act.eval, List.setIfInBounds_toArray, List.set_cons_zero, List.set_cons_succ, Array.getD_eq_getD_getElem?, List.getElem?_toArray, List.getElem?_cons_zero, List.getElem?_cons_succ, Option.getD_some, hs1, hs2]
                            refine hw_load1 3 _ rfl rfl gu i rfl (.int .i64 (F1.length : Nat)) _ (fun w' h' => (h'.cell (p := ⟨gu, i, none⟩) hgl2).trans cU) Try.underlying3 rfl ?_
                            simp only [Act.put, Act.eval, List.setIfInBounds_toArray, List.set_cons_zero, List.set_cons_succ, Array.getD_eq_getD_getElem?, List.getElem?_toArray, List.getElem?_cons_zero, List.getElem?_cons_succ, Option.getD_some, hs1, hs2]
                            refine hw_ex rfl ?_; apply Exists.intro; refine ⟨fun w hSw => ?_, ?_⟩; (go_simp; first | done | (with_reducible rfl))
                            simp only [Act.put, Act.eval, List.setIfInBounds_toArray, List.set_cons_zero, List.set_cons_succ, Array.getD_eq_getD_getElem?, List.getElem?_toArray, List.getElem?_cons_zero, List.getElem?_cons_succ, Option.getD_some, hs1, hs2]
                            refine hw_load1 25 _ rfl rfl w.heap.size 86 rfl (.slice (some ⟨bz, oz, none⟩) PS.length cq) _ (fun w' h' => (h'.cell (p := ⟨w.heap.size, 86, none⟩) hBw).trans cO86) Try.underlying25 rfl ?_
                            simp only [Act.put, Act.eval, List.setIfInBounds_toArray, List.set_cons_zero, List.set_cons_succ, Array.getD_eq_getD_getElem?, List.getElem?_toArray, List.getElem?_cons_zero, List.getElem?_cons_succ, Option.getD_some, hs1, hs2]
                            refine hw_move _ rfl rfl ?_
                            simp only [Act.put, Act.eval, List.setIfInBounds_toArray, List.set_cons_zero, List.set_cons_succ, Array.getD_eq_getD_getElem?, List.getElem?_toArray, List.getElem?_cons_zero, List.getElem?_cons_succ, Option.getD_some, hs1, hs2]
                            refine hw_ex rfl ?_; apply Exists.intro; refine ⟨fun w hSw => ?_, ?_⟩; (go_simp; first | done | (with_reducible rfl))
                            simp only [Act.put, Act.eval, List.setIfInBounds_toArray, List.set_cons_zero, List.set_cons_succ, Array.getD_eq_getD_getElem?, List.getElem?_toArray, List.getElem?_cons_zero, List.getElem?_cons_succ, Option.getD_some, hs1, hs2]
                            refine hw_ex rfl ?_; apply Exists.intro; refine ⟨fun w hSw => ?_, ?_⟩; (go_simp; first | done | (with_reducible rfl))
                            simp only [Act.put, Act.eval, List.setIfInBounds_toArray, List.set_cons_zero, List.set_cons_succ, Array.getD_eq_getD_getElem?, List.getElem?_toArray, List.getElem?_cons_zero, List.getElem?_cons_succ, Option.getD_some, hs1, hs2]
                            refine hw_load 22 _ rfl rfl bz (oz + p * 21) rfl z.key _ (fun w' h' => range_below h' hbz2 rZo) Try.underlying22 rfl ik2 ?_
                            simp only [Act.put, Act.eval, List.setIfInBounds_toArray, List.set_cons_zero, List.set_cons_succ, Array.getD_eq_getD_getElem?, List.getElem?_toArray, List.getElem?_cons_zero, List.getElem?_cons_succ, Option.getD_some, hs1, hs2]
                            refine hw_move _ rfl rfl ?_
                            simp only [Act.put, Act.eval, List.setIfInBounds_toArray, List.set_cons_zero, List.set_cons_succ, Array.getD_eq_getD_getElem?, List.getElem?_toArray, List.getElem?_cons_zero, List.getElem?_cons_succ, Option.getD_some, hs1, hs2]
                            refine hw_move _ rfl rfl ?_
                            simp only [Act.put, Act.eval, List.setIfInBounds_toArray, List.set_cons_zero, List.set_cons_succ, Array.getD_eq_getD_getElem?, List.getElem?_toArray, List.getElem?_cons_zero, List.getElem?_cons_succ, Option.getD_some, hs1, hs2]
                            refine hw_move _ rfl rfl ?_
                            simp only [Act.put, Act.eval, List.setIfInBounds_toArray, List.set_cons_zero, List.set_cons_succ, Array.getD_eq_getD_getElem?, List.getElem?_toArray, List.getElem?_cons_zero, List.getElem?_cons_succ, Option.getD_some, hs1, hs2]
                            refine hw_ex rfl ?_; apply Exists.intro; refine ⟨fun w hSw => ?_, ?_⟩; (go_simp; first | done | (with_reducible rfl))
                            simp only [Act.put, Act.eval, List.setIfInBounds_toArray, List.set_cons_zero, List.set_cons_succ, Array.getD_eq_getD_getElem?, List.getElem?_toArray, List.getElem?_cons_zero, List.getElem?_cons_succ, Option.getD_some, hs1, hs2]
                            refine hw_move _ rfl rfl ?_
                            simp only [Act.put, Act.eval, List.setIfInBounds_toArray, List.set_cons_zero, List.set_cons_succ, Array.getD_eq_getD_getElem?, List.getElem?_toArray, List.getElem?_cons_zero, List.getElem?_cons_succ, Option.getD_some, hs1, hs2]
                            refine hw_move _ rfl rfl ?_
                            simp only [Act.put, Act.eval, List.setIfInBounds_toArray, List.set_cons_zero, List.set_cons_succ, Array.getD_eq_getD_getElem?, List.getElem?_toArray, List.getElem?_cons_zero, List.getElem?_cons_succ, Option.getD_some, hs1, hs2]
                            refine hw_ex rfl ?_; apply Exists.intro; refine ⟨fun w hSw => ?_, ?_⟩; (go_simp; first | done | (with_reducible rfl))
                            simp only [Act.put, Act.eval, List.setIfInBounds_toArray, List.set_cons_zero, List.set_cons_succ, Array.getD_eq_getD_getElem?, List.getElem?_toArray, List.getElem?_cons_zero, List.getElem?_cons_succ, Option.getD_some, hs1, hs2]
                            refine hw_do rfl (fun K hK => ?_)
                            go_wp2_with (go_at_call 16; refine (PC wo.drew (Below.refl _ wo).drew).mono ?_; rintro e' wa ⟨rfl, ba⟩)
                            have bWa : Below wo.heap.size wo wa := ((Below.refl _ wo).drew).trans ba
                            refine hK.out _ _ bWa (fun hHeld => ?_)
                            clear hK K
                            refine hw_ex rfl ?_; apply Exists.intro; refine ⟨fun w hSw => ?_, ?_⟩; (go_simp; first | done | (with_reducible rfl))
                            simp only [Act.put, Act.eval, List.setIfInBounds_toArray, List.set_cons_zero, List.set_cons_succ, Array.getD_eq_getD_getElem?, List.getElem?_toArray, List.getElem?_cons_zero, List.getElem?_cons_succ, Option.getD_some, hs1, hs2]
                            refine hw_nil ?_
                            have hF1l : F1.length ≤ 98304 := by have := HST1.out.few; omega
                            have cUa : wa.cell? ⟨gu, i, none⟩ = some (.int .i64 (F1.length : Nat)) := (bWa.cell (p := ⟨gu, i, none⟩) hgl2).trans cU
                            have htha : wa.there gu 0 N := there_below bWa hgl2 HTH2.out
                            have hfz : wa.frozen? ⟨gu, i, none⟩ = false := by have := (htha i hi).2; rwa [Nat.zero_add] at this
                            have HUSa : Hid (∀ j, j < N → wa.cell? ⟨gu, j, none⟩ = some (.int .i64 (usedN L T N i F1.length j : Nat))) := fun j hj => (bWa.cell (p := ⟨gu, j, none⟩) hgl2).trans (HUS1.out j hj)
                            have HTHa : Hid (wa.there gu 0 N) := htha
                            have b3 : Below gu w0 wa := b2.trans (bWa.mono (Nat.le_of_lt hgl2))
                            have hgl3 : gu < wa.heap.size := Nat.lt_of_lt_of_le hgl2 bWa.size
                            clear htha PC cA hgA cU rZo
                            go_wp2
                            go_roundw
                            case rel => exact ⟨i, hi', F1 ++ [y], hi, by omega, hl2, rfl, by go_num, b3.setCell (Nat.le_refl _) _, by simpa using hgl3, there_set1 HTHa.out _ _ _, by rw [List.length_append]; exact used_set HTHa.out HUSa.out hi (by go_num), HST2.out⟩
                            case measure => simp [intOf]; omega
                    · have hle : lo = en := by omega
                      subst hle
                      have hst0 : St L T N i2 (p + 1) 0 lo F := by have := HAF.out; unfold Aft at this; rwa [if_neg (Nat.lt_irrefl _)] at this
                      have HST : Hid (St L T N i2 (p + 1) 0 lo F) := hst0
                      clear hst0 HAF
                      go_wp2
                      go_roundw
                      case rel => exact ⟨i2, lo, p + 1, F, hi2, by omega, rfl, by go_num, by go_num, b2, hgl2, HTH2.out, HUS.out, Or.inl HST.out⟩
                      case measure => simp [intOf]; omega
              · as_aux_lemma =>
                have hpe : PS.length ≤ p := by omega
                have hall := used_all (by omega) hNT hi2 (by rw [HLL.out]; exact hpe) HSTA.out
                have HALL : Hid (∀ j, j < N → wo.cell? ⟨gu, j, none⟩ = some (.int .i64 ((part L T N j).length : Nat))) := fun j hj => by rw [← hall j hj]; exact HUS.out j hj
                have lp' : ¬ (p : Int) < (PS.length : Int) := by omega
                clear hall HUS HSTA
                go_wp2
                go_loopw [20] (fun jv wr => ∃ j : Nat, j ≤ N ∧ jv = .int .i64 j ∧ Below wo.heap.size wo wr) (fun jv _ => N - (intOf jv).toNat)
                case atStart => exact ⟨0, Nat.zero_le _, rfl, Below.refl _ _⟩
                case round =>
                  obtain ⟨j, hj, rfl, b4⟩ := hrel
                  by_cases lj : j < N
                  · obtain ⟨A, C, F', hr, hrow, hF, hb⟩ := (HPJ2.out j lj).below c b1o
                    obtain ⟨q, hq⟩ : ∃ q, q = (part L T N j).length := ⟨_, rfl⟩
                    have hqF : F'.length = q := by rw [hq, ← hb]; simp
                    have hql : q ≤ 65536 := by
                      have h3 := part_len (L := L) (T := T) (N := N) (i := j)
                      rw [HLL.out] at h3
                      omega
                    have cU : wo.cell? ⟨gu, j, none⟩ = some (.int .i64 (q : Nat)) := by rw [hq]; exact HALL.out j lj
                    have cA : wo.cell? ⟨g, j * 92 + 86, none⟩ = some (.slice A q C) := by rw [← hqF]; exact range_cell hr 86 (mc_86 c _ _ _ _)
                    have hgA : g < wo.heap.size := range_lt hr (by rw [mc_len c]; omega)
                    have lj' : (j : Int) < (N : Int) := by omega
                    clear hr hrow hF hb hq hqF
                    go_upto_region 58 with fail
                    refine wp_region_Hw (S := fun w' => Below wo.heap.size wo w') [(0, true), (1, true), (2, true), (3, true), (4, true), (5, true), (6, true), (7, true), (8, true), (9, true), (10, true)] (by kernel_rfl) (by kernel_rfl) rfl (by kernel_rfl) (fun _ _ _ _ h => h) b4.drew (fun hHeld => ?_)
                    simp only [pick, List.map_cons, List.map_nil, Array.getD_eq_getD_getElem?, List.getElem?_toArray, List.getElem?_cons_zero, List.getElem?_cons_succ, Option.getD_some]
                    refine hw_move _ rfl rfl ?_
                    simp only [Act.put, Act.eval, List.setIfInBounds_toArray, List.set_cons_zero, List.set_cons_succ, Array.getD_eq_getD_getElem?, List.getElem?_toArray, List.getElem?_cons_zero, List.getElem?_cons_succ, Option.getD_some, bne_self_eq_false]
                    refine hw_move _ rfl rfl ?_
                    simp only [Act.put, Act.eval, List.setIfInBounds_toArray, List.set_cons_zero, List.set_cons_succ, Array.getD_eq_getD_getElem?, List.getElem?_toArray, List.getElem?_cons_zero, List.getElem?_cons_succ, Option.getD_some, bne_self_eq_false]
                    refine hw_ex rfl ?_; apply Exists.intro; refine ⟨fun w hSw => ?_, ?_⟩; (go_simp; first | done | (with_reducible rfl))
                    simp only [Act.put, Act.eval, List.setIfInBounds_toArray, List.set_cons_zero, List.set_cons_succ, Array.getD_eq_getD_getElem?, List.getElem?_toArray, List.getElem?_cons_zero, List.getElem?_cons_succ, Option.getD_some, bne_self_eq_false]
                    refine hw_load1 3 _ rfl rfl gu j rfl (.int .i64 (q : Nat)) _ (fun w' h' => (h'.cell (p := ⟨gu, j, none⟩) hgl2).trans cU) Try.underlying3 rfl ?_
                    simp only [Act.put, Act.eval, List.setIfInBounds_toArray, List.set_cons_zero, List.set_cons_succ, Array.getD_eq_getD_getElem?, List.getElem?_toArray, List.getElem?_cons_zero, List.getElem?_cons_succ, Option.getD_some, bne_self_eq_false]
                    refine hw_move _ rfl rfl ?_
                    simp only [Act.put, Act.eval, List.setIfInBounds_toArray, List.set_cons_zero, List.set_cons_succ, Array.getD_eq_getD_getElem?, List.getElem?_toArray, List.getElem?_cons_zero, List.getElem?_cons_succ, Option.getD_some, bne_self_eq_false]
                    refine hw_move _ rfl rfl ?_
                    simp only [Act.put, Act.eval, List.setIfInBounds_toArray, List.set_cons_zero, List.set_cons_succ, Array.getD_eq_getD_getElem?, List.getElem?_toArray, List.getElem?_cons_zero, List.getElem?_cons_succ, Option.getD_some, bne_self_eq_false]
                    refine hw_ex rfl ?_; apply Exists.intro; refine ⟨fun w hSw => ?_, ?_⟩; (go_simp; first | done | (with_reducible rfl))
                    simp only [Act.put, Act.eval, List.setIfInBounds_toArray, List.set_cons_zero, List.set_cons_succ, Array.getD_eq_getD_getElem?, List.getElem?_toArray, List.getElem?_cons_zero, List.getElem?_cons_succ, Option.getD_some, bne_self_eq_false]
                    refine hw_ex rfl ?_; apply Exists.intro; refine ⟨fun w hSw => ?_, ?_⟩; (go_simp; first | done | (with_reducible rfl))
                    simp only [Act.put, Act.eval, List.setIfInBounds_toArray, List.set_cons_zero, List.set_cons_succ, Array.getD_eq_getD_getElem?, List.getElem?_toArray, List.getElem?_cons_zero, List.getElem?_cons_succ, Option.getD_some, bne_self_eq_false]
                    refine hw_load1 35 _ rfl rfl g (j * 92 + 86) rfl (.slice A q C) _ (fun w' h' => (h'.cell (p := ⟨g, j * 92 + 86, none⟩) hgA).trans cA) Try.underlying35 rfl ?_
                    simp only [Act.put, Act.eval, List.setIfInBounds_toArray, List.set_cons_zero, List.set_cons_succ, Array.getD_eq_getD_getElem?, List.getElem?_toArray, List.getElem?_cons_zero, List.getElem?_cons_succ, Option.getD_some, bne_self_eq_false]
                    refine hw_ex rfl ?_; apply Exists.intro; refine ⟨fun w hSw => ?_, ?_⟩; (go_simp; first | done | (with_reducible rfl))
                    simp only [Act.put, Act.eval, List.setIfInBounds_toArray, List.set_cons_zero, List.set_cons_succ, Array.getD_eq_getD_getElem?, List.getElem?_toArray, List.getElem?_cons_zero, List.getElem?_cons_succ, Option.getD_some, bne_self_eq_false]
                    refine hw_ex rfl ?_; apply Exists.intro; refine ⟨fun w hSw => ?_, ?_⟩; (go_simp; first | done | (with_reducible rfl))
                    simp only [Act.put, Act.eval, List.setIfInBounds_toArray, List.set_cons_zero, List.set_cons_succ, Array.getD_eq_getD_getElem?, List.getElem?_toArray, List.getElem?_cons_zero, List.getElem?_cons_succ, Option.getD_some, bne_self_eq_false]
                    refine hw_nil ?_
                    have b5 : Below wo.heap.size wo wr.drew := b4.drew
                    go_wp2
                    go_roundw
                    case rel => exact ⟨j + 1, by omega, by go_num, b5⟩
                    case measure => simp [intOf]; omega
                  · have lj' : ¬ (j : Int) < (N : Int) := by omega
                    go_wp2
                    go_ret
                    have bX : Below wB.heap.size wB wr := b1o.trans (b4.mono b1o.size)
                    exact ⟨rfl, bEE.trans (bX.mono (by omega))⟩
end Go.Proofs.Qxb6603900a
