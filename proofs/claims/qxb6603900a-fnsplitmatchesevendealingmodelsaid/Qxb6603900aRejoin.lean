import Derived.Test.Qxb6603900aRuns
import Derived.Test.Qxb6603900aFlat
import Derived.Test.Qxb6603900aEqIDs
namespace Go.Proofs.Qxb6603900a
open Go.ChangeShapes Go.WideShapes Go.ChangeAt Go.RowKit
set_option linter.unusedSimpArgs false
set_option linter.unusedVariables false

theorem Cur.le {α β : Type} {L : List (α × List β)} {p h c : Nat} (k : Cur L p h c) : c ≤ cnt L := by
  have h0 : ∀ q, cnt (L.take q) ≤ cnt L := fun q => by
    have := cnt_append (L.take q) (L.drop q)
    rw [List.take_append_drop] at this
    omega
  rw [← k.sum]
  rcases Nat.lt_or_ge p L.length with h1 | h1
  · have hx : L[p]? = some L[p] := List.getElem?_eq_getElem h1
    have h2 := cnt_take_succ hx
    have h3 := k.hle _ hx
    have h4 := h0 (p + 1)
    omega
  · rw [k.hz (by have := k.ple; omega)]
    exact h0 p

theorem SplitCase.flat {kd n : Int} {L : List Bare} {M : Nat} {PL : List (List Bare)} (h : SplitCase kd n L M PL) : Go.Proofs.Qxb6603900a.flat PL.flatten = Go.Proofs.Qxb6603900a.flat L := by
  rcases h with ⟨_, _, rfl⟩ | ⟨_, _, h2, rfl⟩
  · simp
  · exact flat_parts L (by omega)
theorem SplitCase.size {kd n : Int} {L : List Bare} {M : Nat} {PL : List (List Bare)} (h : SplitCase kd n L M PL) (hl : (L.length : Int) ≤ 65536) (hc : (cnt L : Int) ≤ 32768) : (M : Int) ≤ 32768 ∧ 1 ≤ M ∧ (M = 1 ∨ (1 < M ∧ (M : Int) ≤ n)) ∧ ∀ l ∈ PL, (l.length : Int) ≤ 65536 := by
  rcases h with ⟨_, rfl, rfl⟩ | ⟨_, h1, h2, rfl⟩
  · exact ⟨by omega, by omega, Or.inl rfl, fun l hl' => by rw [List.mem_singleton.1 hl']; exact hl⟩
  · refine ⟨by omega, by omega, Or.inr ⟨by omega, by omega⟩, fun l hl' => ?_⟩
    obtain ⟨i, _, rfl⟩ := List.mem_map.1 hl'
    have := part_len (L := L) (T := cnt L) (N := M) (i := i)
    omega

set_option maxRecDepth 100000 in
set_option maxHeartbeats 4000000 in
theorem rejoin_walk (H : Hd) (ah ap aq : Option Addr) (ch cp cq : Nat) (HL PL : List (List Value)) (PS : List PtV) (pt n : Int) (w : World) (M : MsgIn w H ah ap aq HL PL PS) (hn1 : -9223372036854775808 ≤ n) (hn2 : n ≤ 9223372036854775807) :
    Calls Try.prog 4 #[.agg (mc H (.slice ah HL.length ch) (.slice ap PL.length cp) (.slice aq PS.length cq) pt).toArray, .int .i64 n] w fun e w' => e = .returned (.bool true) ∧ Below w.heap.size w w' := by
  have c := M.hd
  have m0 := mc_0 H (.slice ah HL.length ch) (.slice ap PL.length cp) (.slice aq PS.length cq) pt
  have m83 := mc_83 c (.slice ah HL.length ch) (.slice ap PL.length cp) (.slice aq PS.length cq) pt
  have m85 := mc_85 c (.slice ah HL.length ch) (.slice ap PL.length cp) (.slice aq PS.length cq) pt
  have m86 := mc_86 c (.slice ah HL.length ch) (.slice ap PL.length cp) (.slice aq PS.length cq) pt
  have d27 := Try.underlying27
  have ims : (Try.prog.info? 27).map (·.size) = some (mc H (.slice ah HL.length ch) (.slice ap PL.length cp) (.slice aq PS.length cq) pt).length := by rw [mc_len c]; exact Try.info27s
  have hW := range_new w (mc H (.slice ah HL.length ch) (.slice ap PL.length cp) (.slice aq PS.length cq) pt) 27
  have bW : Below w.heap.size w (w.alloc (.cells (mc H (.slice ah HL.length ch) (.slice ap PL.length cp) (.slice aq PS.length cq) pt).toArray 27)) := (Below.refl _ _).alloc (Nat.le_refl _) _
  have MW := M.below bW
  have hsz : (w.alloc (.cells (mc H (.slice ah HL.length ch) (.slice ap PL.length cp) (.slice aq PS.length cq) pt).toArray 27)).heap.size = w.heap.size + 1 := by simp
  generalize hms : mc H (.slice ah HL.length ch) (.slice ap PL.length cp) (.slice aq PS.length cq) pt = ms at *
  have HMS : Hid (mc H (.slice ah HL.length ch) (.slice ap PL.length cp) (.slice aq PS.length cq) pt = ms) := hms
  clear hms
  go_enter Try.func4, Try.ntmps4
  go_upto_if 18 with (first
    | (refine wpList_load_g 27 (.tmp 2) rfl rfl w.heap.size 0 rfl ms _ hW d27 rfl ims ?_; simp only [Act.put, List.setIfInBounds_toArray, List.set_cons_zero, List.set_cons_succ, World.size_alloc])
    | (go_at_call 17; refine (bytes17_any ms ah ap aq HL.length ch PL.length cp cq PS n _ m83 m85 m86 M.mH M.mP M.mQ MW.hQ (fun x hx => ⟨(MW.cQ x hx).1, (MW.cQ x hx).2.2⟩)).mono ?_; rintro e wb ⟨⟨bb, rfl⟩, b1⟩))
  rw [hsz] at b1
  generalize w.alloc (.cells ms.toArray 27) = W at *
  have hWb : wb.rangeAt w.heap.size 0 ms := range_below b1 (by omega) hW
  have bB : Below w.heap.size w wb := bW.trans (b1.mono (by omega))
  have MB := M.below bB
  have sB : w.heap.size + 1 ≤ wb.heap.size := by have := b1.size; omega
  cases bb
  · go_wp2
    go_ret
    exact ⟨rfl, bB⟩
  go_upto_if 25 with (first
    | (refine wpList_load_g 27 (.tmp 2) rfl rfl w.heap.size 0 rfl ms _ hWb d27 rfl ims ?_; simp only [Act.put, List.setIfInBounds_toArray, List.set_cons_zero, List.set_cons_succ, World.size_alloc])
    | (go_at_call 9; refine (size_any ms ah ap aq HL.length ch PL.length cp cq PS _ m83 m85 m86 M.mH M.mP M.mQ MB.hQ (fun x hx => ⟨(MB.cQ x hx).1, (MB.cQ x hx).2.2⟩)).mono ?_; rintro e wS ⟨hso, b2⟩; obtain ⟨t, ok, rfl, hok⟩ := hso.two))
  have b2' : Below (w.heap.size + 1) wb wS := b2.mono sB
  have hWc : wS.rangeAt w.heap.size 0 ms := range_below b2' (by omega) hWb
  have bC : Below w.heap.size w wS := bB.trans (b2'.mono (by omega))
  have MC := M.below bC
  have sC : w.heap.size + 1 ≤ wS.heap.size := Nat.le_trans sB b2.size
  cases ok
  · go_wp2
    go_ret
    exact ⟨rfl, bC⟩
  obtain ⟨rfl, kh, kp, kq, kx, kt⟩ := hok rfl
  have TM := toMsg_any H c ah ap aq ch cp cq HL PL PS pt wS MC.hH MC.cH (by omega) MC.hP MC.cP (by omega) MC.hQ (fun x hx => ⟨(MC.cQ x hx).1, (MC.cQ x hx).2.1, by obtain ⟨j, hj, rfl⟩ := List.mem_iff_getElem.1 hx; have := kx j _ (List.getElem?_eq_getElem hj); omega⟩) (by omega)
  rw [HMS.out] at TM
  obtain ⟨T, hT⟩ : ∃ T, T = totTo PS PS.length := ⟨_, rfl⟩
  have HT : Hid (T = cnt (PS.map PtV.bare)) := by show T = _; rw [hT, totTo_all]
  rw [← hT] at kt ⊢
  clear hT b2 b2' b1 kx
  go_upto_region 7 with (first
    | (refine wpList_load_g 27 (.tmp 2) rfl rfl w.heap.size 0 rfl ms _ hWc d27 rfl ims ?_; simp only [Act.put, List.setIfInBounds_toArray, List.set_cons_zero, List.set_cons_succ, World.size_alloc])
    | (go_at_call 10; refine TM.mono ?_; rintro e wd ⟨ah', ch', ap', cp', aq', cq', E, rfl, b3, i1, i2, rE, cE, hEb⟩)
    | (go_at_call 11; refine (split_any H c (.slice ah' HL.length ch') (.slice ap' PL.length cp') rfl rfl aq' cq' E pt n _ rE cE (by have := congrArg List.length hEb; simp at this; omega) (by rw [hEb, ← HT.out]; omega) hn1 hn2).mono ?_; rintro e we ⟨g, N, QL, rfl, b4, hQl, hcase, hparts⟩))
  rw [hEb] at hcase
  have bE : Below (w.heap.size + 1) wS we := (b3.trans (b4.mono b3.size)).mono sC
  have bEE : Below w.heap.size w we := bC.trans (bE.mono (by omega))
  have cK : we.cell? ⟨w.heap.size, 0, none⟩ = some (.int .u8 H.kd) := by
    have := range_cell (range_below bE (by omega) hWc) 0 m0
    exact this
  have HP : Hid (∀ j l, QL[j]? = some l → PMem we H (.slice ah' HL.length ch') (if j = 0 then .slice ap' PL.length cp' else .slice none 0 0) (if 2 ≤ N ∧ H.kd = 9 then (N : Int) else pt) l g j) := hparts
  have HC : Hid (SplitCase H.kd n (PS.map PtV.bare) N QL) := hcase
  clear hparts hcase TM
  obtain ⟨sz1, sz2, sz3, sz4⟩ := HC.out.size (by simp; omega) (by rw [← HT.out]; omega)
  have HSZ : Hid (N = 1 ∨ (1 < N ∧ (N : Int) ≤ n)) := sz3
  have HSL : Hid (∀ l ∈ QL, (l.length : Int) ≤ 65536) := sz4
  clear sz3 sz4
  go_cut [43] from 15 (fun v wx => v = .bool false ∧ wx = we)
  case first =>
    rcases HSZ.out with h1 | ⟨h1, h2⟩
    · subst h1
      go_wp2
      go_meet
      exact ⟨rfl, rfl⟩
    · have h1' : (1 : Int) < (N : Int) := by omega
      have h3 : ¬ (N : Int) < 1 := by omega
      have h4 : ¬ n < (N : Int) := by omega
      clear h1 h2
      go_wp2
      go_meet
      exact ⟨rfl, rfl⟩
  case rest =>
    obtain ⟨rfl, rfl⟩ := hcut
    obtain ⟨wB, rfl⟩ : ∃ wB : World, wB = wc := ⟨_, rfl⟩
    obtain ⟨L, hL⟩ : ∃ L : List Bare, L = PS.map PtV.bare := ⟨_, rfl⟩
    have HLb : Hid (L = PS.map PtV.bare) := hL
    have HFL : Hid (flat QL.flatten = flat L) := by show _ = _; rw [hL]; exact HC.out.flat
    have HCN : Hid (cnt L = T) := by show _ = _; rw [HT.out, hL]
    have MW2 := M.below bEE
    have HM : Hid (MsgIn wB H ah ap aq HL PL PS) := MW2
    have HQL : Hid (QL.length = N) := hQl
    have hP86 : wB.cell? ⟨w.heap.size, 86, none⟩ = some (.slice aq PS.length cq) := by
      have := range_cell (range_below bE (by omega) hWc) 86 m86
      rwa [Nat.zero_add] at this
    have sE : w.heap.size + 1 ≤ wB.heap.size := Nat.le_trans sC bE.size
    have kT : (T : Int) ≤ 32768 := by omega
    have kQ : (PS.length : Int) ≤ 65536 := by omega
    clear hL MW2 hQl hWc hWb MB MC MW M bB bC i1 i2 rE cE hEb b3 b4 bE hok kh kp kq hn1 hn2 HC
    go_wp2
    go_loopw [8, 9, 10, 11] (fun pv hv cv jv wr => ∃ p h c j : Nat, j ≤ N ∧ pv = .int .i64 p ∧ hv = .int .i64 h ∧ cv = .int .i64 c ∧ jv = .int .i64 j ∧ Below wB.heap.size wB wr ∧ Cur L p h c ∧ (flat L).drop c = flat (QL.drop j).flatten) (fun _ _ _ jv _ => N - (intOf jv).toNat)
    case atStart => exact ⟨0, 0, 0, 0, Nat.zero_le _, rfl, rfl, rfl, rfl, Below.refl _ _, Cur.start _, by rw [List.drop_zero, List.drop_zero, HFL.out]⟩
    case round =>
      obtain ⟨p, h, c', j, hj, rfl, rfl, rfl, rfl, b5, hcur, hdrop⟩ := hrel
      obtain ⟨wo, rfl⟩ : ∃ wo : World, wo = wr := ⟨_, rfl⟩
      have HCUR : Hid (Cur L p h c') := hcur
      have HDR : Hid ((flat L).drop c' = flat (QL.drop j).flatten) := hdrop
      clear hcur hdrop
      by_cases lj : j < N
      · obtain ⟨l, hl⟩ : ∃ l, QL[j]? = some l := ⟨_, List.getElem?_eq_getElem (by rw [HQL.out]; exact lj)⟩
        obtain ⟨A, C, F, hr, hrow, hF, hbare⟩ := (HP.out j l hl).below c b5
        have hlen := HSL.out l (List.mem_of_getElem? hl)
        have lj' : (j : Int) < (N : Int) := by omega
        have cJ86 : wo.cell? ⟨g, j * 92 + 86, none⟩ = some (.slice A F.length C) := range_cell hr 86 (mc_86 c _ _ _ _)
        have cJ87 : wo.cell? ⟨g, j * 92 + 87, none⟩ = some (.int .i64 (if 2 ≤ N ∧ H.kd = 9 then (N : Int) else pt)) := range_cell hr 87 (mc_87 c _ _ _ _)
        have cK2 : wo.cell? ⟨w.heap.size, 0, none⟩ = some (.int .u8 H.kd) := (b5.cell (p := ⟨w.heap.size, 0, none⟩) (by show w.heap.size < _; omega)).trans cK
        have HROW : Hid (RowAt wo A F) := hrow
        have HF : Hid (∀ y ∈ F, PtC y ∧ IdsAt wo y.a y.hs) := hF
        have HB : Hid (F.map PtV.bare = l) := hbare
        have hFl : (F.length : Int) ≤ 65536 := by have := congrArg List.length hbare; simp at this; omega
        have HL2 : Hid (QL[j]? = some l) := hl
        have gA := range_lt hr (by rw [mc_len c]; omega)
        clear hr hrow hF hbare hl hlen
        go_upto_region 15 with fail
        go_cut [67] from 44 to 145 (fun v wx => v = .bool false ∧ wx = wo)
        case first =>
          by_cases h2 : 2 ≤ N
          · by_cases k9 : H.kd = 9
            · rw [if_pos ⟨h2, k9⟩] at cJ87
              have h2' : (1 : Int) < (N : Int) := by omega
              go_wp2
              go_meet
              exact ⟨rfl, rfl⟩
            · have h2' : (1 : Int) < (N : Int) := by omega
              have k9' : (H.kd == 9) = false := by simp [k9]
              go_wp2
              go_meet
              exact ⟨rfl, rfl⟩
          · have h2' : ¬ (1 : Int) < (N : Int) := by omega
            go_wp2
            go_meet
            exact ⟨rfl, rfl⟩
        case rest =>
          obtain ⟨rfl, hwx⟩ := hcut
          subst hwx
          obtain ⟨wo, rfl⟩ : ∃ wo : World, wo = wc := ⟨_, rfl⟩
          obtain ⟨R, hR⟩ : ∃ R, R = flat (QL.drop (j + 1)).flatten := ⟨_, rfl⟩
          have HRR : Hid (R = flat (QL.drop (j + 1)).flatten) := hR
          have HD0 : Hid ((flat L).drop c' = flat (F.map PtV.bare) ++ R) := by
            show _ = _
            have hj2 := (List.getElem?_eq_some_iff.1 HL2.out).1
            have hj3 : QL[j] = l := by simpa [List.getElem?_eq_getElem hj2] using HL2.out
            rw [HDR.out, List.drop_eq_getElem_cons hj2, hj3, List.flatten_cons, flat_append, hR, HB.out]
          clear hR cJ87 cK2
          go_wp2
          go_loopw [8, 9, 10, 12] (fun pv hv cv kv wr => ∃ p h c k : Nat, k ≤ F.length ∧ pv = .int .i64 p ∧ hv = .int .i64 h ∧ cv = .int .i64 c ∧ kv = .int .i64 k ∧ Below wo.heap.size wo wr ∧ Cur L p h c ∧ (flat L).drop c = flat ((F.map PtV.bare).drop k) ++ R) (fun _ _ _ kv _ => F.length - (intOf kv).toNat)
          case atStart => exact ⟨p, h, c', 0, Nat.zero_le _, rfl, rfl, rfl, rfl, Below.refl _ _, HCUR.out, by rw [List.drop_zero]; exact HD0.out⟩
          case round =>
            obtain ⟨p2, h2, c2, k, hk, rfl, rfl, rfl, rfl, b6, hcur2, hdrop2⟩ := hrel
            obtain ⟨wp, rfl⟩ : ∃ wp : World, wp = wr := ⟨_, rfl⟩
            have HCUR2 : Hid (Cur L p2 h2 c2) := hcur2
            have HDR2 : Hid ((flat L).drop c2 = flat ((F.map PtV.bare).drop k) ++ R) := hdrop2
            clear hcur2 hdrop2
            have c86p : wp.cell? ⟨g, j * 92 + 86, none⟩ = some (.slice A F.length C) := (b6.cell (p := ⟨g, j * 92 + 86, none⟩) gA).trans cJ86
            by_cases lk : k < F.length
            · obtain ⟨x, hx⟩ : ∃ x, F[k]? = some x := ⟨_, List.getElem?_eq_getElem lk⟩
              have hxc := (HF.out x (List.mem_of_getElem? hx)).1
              have hxi := (HF.out x (List.mem_of_getElem? hx)).2
              obtain ⟨bq, oq, rfl, rX0⟩ := HROW.out k x hx
              have hcl := PtV.cells_len hxc
              have rX : wp.rangeAt bq (oq + k * 21) x.cells := range_below b6 (range_lt rX0 (by omega)) rX0
              have ix : (Try.prog.info? 48).map (·.size) = some x.cells.length := by rw [hcl]; exact Try.info48s
              have iz : (Try.prog.info? 48).map (fun i => (i.zero, i.size, i.bytes)) = some (some (.agg zero48.toArray), x.cells.length, 48) := by rw [hcl]; exact Try.info48z
              have hZ : zero48.toArray.size = x.cells.length := by rw [hcl]; decide
              have hone := PtV.cells_one hxc
              have HD3 : Hid ((flat L).drop c2 = (x.hs.map fun y => (x.key, y)) ++ (flat ((F.map PtV.bare).drop (k + 1)) ++ R)) := by
                show _ = _
                have hk2 : k < (F.map PtV.bare).length := by simpa using lk
                have hk3 : (F.map PtV.bare)[k] = x.bare := by
                  have := congrArg (Option.map PtV.bare) hx
                  rw [← List.getElem?_map, List.getElem?_eq_getElem hk2] at this
                  simpa using this
                rw [HDR2.out, List.drop_eq_getElem_cons hk2, hk3, flat_cons, List.append_assoc]
                rfl
              have lk' : (k : Int) < (F.length : Int) := by omega
              have HXC : Hid (PtC x) := hxc
              have HXI : Hid (IdsAt wo x.a x.hs) := hxi
              have hnc : Below wp.heap.size wp (wp.alloc (.cells x.cells.toArray 48)) := (Below.refl _ _).alloc (Nat.le_refl _) _
              have hnr := range_new wp x.cells 48
              have hsz3 : (wp.alloc (.cells x.cells.toArray 48)).heap.size = wp.heap.size + 1 := by simp
              clear hx rX0 hcl hxc hxi
              generalize hxx : x.cells = xc at *
              have HXX : Hid (x.cells = xc) := hxx
              clear hxx
              go_wp2_with (first
                | (refine wpList_load_g 48 (.tmp 84) rfl rfl bq (oq + k * 21) rfl xc _ rX Try.underlying48 rfl ix ?_; simp only [Act.put, List.setIfInBounds_toArray, List.set_cons_zero, List.set_cons_succ, World.size_alloc])
                | (refine wpList_new_var rfl rfl 48 13 (.tmp 85) rfl rfl rfl rfl 149 rfl (by decide) xc zero48.toArray 48 rfl iz hZ hone ?_; simp only [Act.put, List.setIfInBounds_toArray, List.set_cons_zero, List.set_cons_succ, World.size_alloc]))
              generalize (wp.alloc (.cells xc.toArray 48)) = w3 at *
              generalize hpb : wp.heap.size = pb at *
              have bB3 : Below wB.heap.size wB w3 := b5.trans ((b6.mono b5.size).trans (hnc.mono (by rw [← hpb]; exact Nat.le_trans b5.size b6.size)))
              have bO3 : Below wo.heap.size wo w3 := b6.trans (hnc.mono (by rw [← hpb]; exact b6.size))
              have sO : wo.heap.size ≤ pb + 1 := by have := b6.size; omega
              have sB3 : wB.heap.size ≤ pb + 1 := Nat.le_trans b5.size sO
              have rXk : w3.rangeAt pb 0 x.key := by rw [← HXX.out] at hnr; exact range_take hnr
              have cX3 : w3.cell? ⟨pb, 20, none⟩ = some (.slice x.a x.hs.length x.cap) := by
                rw [← HXX.out] at hnr
                have := range_cell hnr 20 (PtV.cells_hs HXC.out)
                rwa [Nat.zero_add] at this
              obtain ⟨R3, hR3⟩ : ∃ R3, R3 = flat ((F.map PtV.bare).drop (k + 1)) ++ R := ⟨_, rfl⟩
              have HD4 : Hid ((flat L).drop c2 = (x.hs.map fun y => (x.key, y)) ++ R3) := by show _ = _; rw [hR3]; exact HD3.out
              have HR3 : Hid (R3 = flat ((F.map PtV.bare).drop (k + 1)) ++ R) := hR3
              have hxl : (x.hs.length : Int) ≤ 32768 := by
                have h1 := congrArg List.length HD4.out
                have h2 := flat_len L
                rw [HCN.out] at h2
                simp at h1
                omega
              clear hR3 hnr hnc iz hZ ix rX hone
              go_loopw [8, 9, 10, 14] (fun pv hv cv tv wr => ∃ p h c t : Nat, t ≤ x.hs.length ∧ pv = .int .i64 p ∧ hv = .int .i64 h ∧ cv = .int .i64 c ∧ tv = .int .i64 t ∧ Below (pb + 1) w3 wr ∧ Cur L p h c ∧ (flat L).drop c = ((x.hs.drop t).map fun y => (x.key, y)) ++ R3) (fun _ _ _ tv _ => x.hs.length - (intOf tv).toNat)
              case atStart => exact ⟨p2, h2, c2, 0, Nat.zero_le _, rfl, rfl, rfl, rfl, Below.refl _ _, HCUR2.out, by rw [List.drop_zero]; exact HD4.out⟩
              case round =>
                obtain ⟨p3, h3, c3, t, ht, rfl, rfl, rfl, rfl, b7, hcur3, hdrop3⟩ := hrel
                have HCUR3 : Hid (Cur L p3 h3 c3) := hcur3
                have HDR3 : Hid ((flat L).drop c3 = ((x.hs.drop t).map fun y => (x.key, y)) ++ R3) := hdrop3
                clear hcur3 hdrop3
                have cX4 : wr.cell? ⟨pb, 20, none⟩ = some (.slice x.a x.hs.length x.cap) := (b7.cell (p := ⟨pb, 20, none⟩) (Nat.lt_succ_self _)).trans cX3
                have bBr : Below wB.heap.size wB wr := bB3.trans (b7.mono sB3)
                have cP4 : wr.cell? ⟨w.heap.size, 86, none⟩ = some (.slice aq PS.length cq) := (bBr.cell (p := ⟨w.heap.size, 86, none⟩) sE).trans hP86
                by_cases lt : t < x.hs.length
                · obtain ⟨y, hy⟩ : ∃ y, x.hs[t]? = some y := ⟨_, List.getElem?_eq_getElem lt⟩
                  have hd5 : (flat L).drop c3 = (x.key, y) :: (((x.hs.drop (t + 1)).map fun y => (x.key, y)) ++ R3) := by
                    have hye : x.hs[t] = y := by simpa [List.getElem?_eq_getElem lt] using hy
                    rw [HDR3.out, List.drop_eq_getElem_cons lt, hye]; rfl
                  obtain ⟨g1, g2, g3⟩ := drop_head hd5
                  have hc3 : c3 < T := by rw [flat_len, HCN.out] at g3; exact g3
                  have hyc := HXC.out.hs y (List.mem_of_getElem? hy)
                  obtain ⟨bx, ox, hxa, rY⟩ := HXI.out t y hy
                  have hbx : bx < wo.heap.size := range_lt rY (by rw [hyc.len]; omega)
                  have HG1 : Hid ((flat L)[c3]? = some (x.key, y)) := g1
                  have HG2 : Hid ((flat L).drop (c3 + 1) = ((x.hs.drop (t + 1)).map fun y => (x.key, y)) ++ R3) := g2
                  have lt' : (t : Int) < (x.hs.length : Int) := by omega
                  have hc3' : (c3 : Int) < (T : Int) := by omega
                  rw [hxa] at cX4 cX3
                  have HY : Hid (x.hs[t]? = some y) := hy
                  clear hd5 g1 g2 g3 hy
                  go_wp2
                  go_loop [8, 9] (fun pv hv => ∃ p h : Nat, pv = .int .i64 p ∧ hv = .int .i64 h ∧ Cur L p h c3) (fun pv _ => PS.length - (intOf pv).toNat)
                  case atStart => exact ⟨p3, h3, rfl, rfl, HCUR3.out⟩
                  case round =>
                    obtain ⟨p4, h4, rfl, rfl, hcur4⟩ := hrel
                    have hpl : p4 < PS.length := by have := hcur4.within (by rw [HCN.out]; exact hc3); rw [HLb.out] at this; simpa using this
                    obtain ⟨z, hz⟩ : ∃ z, PS[p4]? = some z := ⟨_, List.getElem?_eq_getElem hpl⟩
                    have hzL : L[p4]? = some z.bare := by rw [HLb.out, List.getElem?_map, hz]; rfl
                    have hhl : h4 ≤ z.hs.length := hcur4.hle _ hzL
                    have hzq := HM.out.cQ z (List.mem_of_getElem? hz)
                    obtain ⟨bz, oz, rfl, rZ⟩ := HM.out.hQ p4 z hz
                    have hzc := hzq.1
                    have hbz : bz < wB.heap.size := range_lt rZ (by rw [PtV.cells_len hzc]; omega)
                    have cZ : wB.cell? ⟨bz, oz + p4 * 21 + 20, none⟩ = some (.slice z.a z.hs.length z.cap) := range_cell rZ 20 (PtV.cells_hs hzc)
                    have cZr : wr.cell? ⟨bz, oz + p4 * 21 + 20, none⟩ = some (.slice z.a z.hs.length z.cap) := (bBr.cell (p := ⟨bz, oz + p4 * 21 + 20, none⟩) hbz).trans cZ
                    have hzT : z.hs.length ≤ T := by rw [← HCN.out]; exact cnt_mem hzL
                    have hzl : (z.hs.length : Int) ≤ 32768 := by omega
                    have hpl' : (p4 : Int) < (PS.length : Int) := by omega
                    have HC4 : Hid (Cur L p4 h4 c3) := hcur4
                    have HZL : Hid (L[p4]? = some z.bare) := hzL
                    have HZ : Hid (PS[p4]? = some z) := hz
                    have HZQ : Hid (PtC z ∧ IdsAt wB z.a z.hs ∧ z.hs.length ≤ maxLen) := hzq
                    clear hcur4 hzL hz hzq
                    by_cases he : h4 = z.hs.length
                    · have he' : (h4 : Int) = (z.hs.length : Int) := by omega
                      go_wp2
                      go_round
                      case rel => exact ⟨p4 + 1, 0, by go_num, by go_num, HC4.out.skip HZL.out he⟩
                      case measure => simp [intOf]; omega
                    · have he' : ¬ (h4 : Int) = (z.hs.length : Int) := by omega
                      have hpn : ¬ (p4 : Int) = (PS.length : Int) := by omega
                      have hlt : h4 < z.hs.length := by omega
                      obtain ⟨y2, hy2⟩ : ∃ y2, z.hs[h4]? = some y2 := ⟨_, List.getElem?_eq_getElem hlt⟩
                      have hg := HC4.out.get HZL.out hy2
                      rw [HG1.out] at hg
                      have hke : x.key = z.key ∧ y = y2 := by
                        have := Option.some.inj hg
                        exact ⟨congrArg Prod.fst this, congrArg Prod.snd this⟩
                      obtain ⟨hk1, rfl⟩ := hke
                      obtain ⟨bh, oh', hza, rYz⟩ := HZQ.out.2.1 h4 y hy2
                      have hbh : bh < wB.heap.size := range_lt rYz (by rw [hyc.len]; omega)
                      have rZk : wB.rangeAt bz (oz + p4 * 21) x.key := by rw [hk1]; exact range_take rZ
                      have ik : (Try.prog.info? 33).map (·.size) = some x.key.length := by rw [HXC.out.key.len]; exact Try.info33s
                      have ik2 : (Try.prog.info? 22).map (·.size) = some x.key.length := by rw [HXC.out.key.len]; exact Try.info22s
                      have iy : (Try.prog.info? 33).map (·.size) = some y.length := by rw [hyc.len]; exact Try.info33s
                      have iy2 : (Try.prog.info? 22).map (·.size) = some y.length := by rw [hyc.len]; exact Try.info22s
                      have HCS : Hid (Cur L p4 (h4 + 1) (c3 + 1)) := HC4.out.step HZL.out hlt
                      have hlt' : (h4 : Int) < (z.hs.length : Int) := by omega
                      rw [hza] at cZ cZr
                      clear hg hy2 hk1 he
                      go_upto_region 29 with fail
                      refine wp_region_Hw (S := fun w' => Below (pb + 1) w3 w') [(0, true), (1, true), (2, true), (3, true), (4, true), (5, true), (6, true), (7, true), (8, true), (9, true), (10, true), (11, true), (12, true), (13, true), (14, true), (15, true), (16, true), (17, true), (18, true), (19, true), (20, true), (21, true), (22, true), (23, true), (24, true), (25, true)] (by kernel_rfl) (by kernel_rfl) rfl (by kernel_rfl) (fun _ _ _ _ h => h) b7.drew (fun hHeld => ?_)
                      simp only [pick, List.map_cons, List.map_nil, Array.getD_eq_getD_getElem?, List.getElem?_toArray, List.getElem?_cons_zero, List.getElem?_cons_succ, Option.getD_some]
                      refine hw_ex rfl ?_; apply Exists.intro; refine ⟨fun w hSw => ?_, ?_⟩; (go_simp; first | done | (with_reducible rfl))
                      simp only [Act.put, Act.eval, List.setIfInBounds_toArray, List.set_cons_zero, List.set_cons_succ, Array.getD_eq_getD_getElem?, List.getElem?_toArray, List.getElem?_cons_zero, List.getElem?_cons_succ, Option.getD_some]
                      refine hw_load 33 _ rfl rfl pb 0 rfl x.key _ (fun w' h' => range_below h' (Nat.lt_succ_self _) rXk) Try.underlying33 rfl ik ?_
                      simp only [Act.put, Act.eval, List.setIfInBounds_toArray, List.set_cons_zero, List.set_cons_succ, Array.getD_eq_getD_getElem?, List.getElem?_toArray, List.getElem?_cons_zero, List.getElem?_cons_succ, Option.getD_some]
                      refine hw_ex rfl ?_; apply Exists.intro; refine ⟨fun w hSw => ?_, ?_⟩; (go_simp; first | done | (with_reducible rfl))
                      simp only [Act.put, Act.eval, List.setIfInBounds_toArray, List.set_cons_zero, List.set_cons_succ, Array.getD_eq_getD_getElem?, List.getElem?_toArray, List.getElem?_cons_zero, List.getElem?_cons_succ, Option.getD_some]
                      refine hw_load1 25 _ rfl rfl w.heap.size 86 rfl (.slice (some ⟨bz, oz, none⟩) PS.length cq) _ (fun w' h' => ((bB3.trans (h'.mono sB3)).cell (p := ⟨w.heap.size, 86, none⟩) sE).trans hP86) Try.underlying25 rfl ?_
                      simp only [Act.put, Act.eval, List.setIfInBounds_toArray, List.set_cons_zero, List.set_cons_succ, Array.getD_eq_getD_getElem?, List.getElem?_toArray, List.getElem?_cons_zero, List.getElem?_cons_succ, Option.getD_some]
                      refine hw_move _ rfl rfl ?_
                      simp only [Act.put, Act.eval, List.setIfInBounds_toArray, List.set_cons_zero, List.set_cons_succ, Array.getD_eq_getD_getElem?, List.getElem?_toArray, List.getElem?_cons_zero, List.getElem?_cons_succ, Option.getD_some]
                      refine hw_ex rfl ?_; apply Exists.intro; refine ⟨fun w hSw => ?_, ?_⟩; (go_simp; first | done | (with_reducible rfl))
                      simp only [Act.put, Act.eval, List.setIfInBounds_toArray, List.set_cons_zero, List.set_cons_succ, Array.getD_eq_getD_getElem?, List.getElem?_toArray, List.getElem?_cons_zero, List.getElem?_cons_succ, Option.getD_some]
                      refine hw_ex rfl ?_; apply Exists.intro; refine ⟨fun w hSw => ?_, ?_⟩; (go_simp; first | done | (with_reducible rfl))
                      simp only [Act.put, Act.eval, List.setIfInBounds_toArray, List.set_cons_zero, List.set_cons_succ, Array.getD_eq_getD_getElem?, List.getElem?_toArray, List.getElem?_cons_zero, List.getElem?_cons_succ, Option.getD_some]
                      refine hw_load 22 _ rfl rfl bz (oz + p4 * 21) rfl x.key _ (fun w' h' => range_below (bB3.trans (h'.mono sB3)) hbz rZk) Try.underlying22 rfl ik2 ?_
                      simp only [Act.put, Act.eval, List.setIfInBounds_toArray, List.set_cons_zero, List.set_cons_succ, Array.getD_eq_getD_getElem?, List.getElem?_toArray, List.getElem?_cons_zero, List.getElem?_cons_succ, Option.getD_some]
                      refine hw_neq _ _ _ rfl rfl x.key HXC.out.key rfl rfl ?_
                      simp only [Act.put, Act.eval, List.setIfInBounds_toArray, List.set_cons_zero, List.set_cons_succ, Array.getD_eq_getD_getElem?, List.getElem?_toArray, List.getElem?_cons_zero, List.getElem?_cons_succ, Option.getD_some]
                      refine hw_move _ rfl rfl ?_
                      simp only [Act.put, Act.eval, List.setIfInBounds_toArray, List.set_cons_zero, List.set_cons_succ, Array.getD_eq_getD_getElem?, List.getElem?_toArray, List.getElem?_cons_zero, List.getElem?_cons_succ, Option.getD_some]
                      refine hw_ex rfl ?_; apply Exists.intro; refine ⟨fun w hSw => ?_, ?_⟩; (go_simp; first | done | (with_reducible rfl))
                      simp only [Act.put, Act.eval, List.setIfInBounds_toArray, List.set_cons_zero, List.set_cons_succ, Array.getD_eq_getD_getElem?, List.getElem?_toArray, List.getElem?_cons_zero, List.getElem?_cons_succ, Option.getD_some]
                      refine hw_load1 34 _ rfl rfl pb 20 rfl (.slice (some ⟨bx, ox, none⟩) x.hs.length x.cap) _ (fun w' h' => (h'.cell (p := ⟨pb, 20, none⟩) (Nat.lt_succ_self _)).trans cX3) Try.underlying34 rfl ?_
                      simp only [Act.put, Act.eval, List.setIfInBounds_toArray, List.set_cons_zero, List.set_cons_succ, Array.getD_eq_getD_getElem?, List.getElem?_toArray, List.getElem?_cons_zero, List.getElem?_cons_succ, Option.getD_some]
                      refine hw_move _ rfl rfl ?_
                      simp only [Act.put, Act.eval, List.setIfInBounds_toArray, List.set_cons_zero, List.set_cons_succ, Array.getD_eq_getD_getElem?, List.getElem?_toArray, List.getElem?_cons_zero, List.getElem?_cons_succ, Option.getD_some]
                      refine hw_ex rfl ?_; apply Exists.intro; refine ⟨fun w hSw => ?_, ?_⟩; (go_simp; first | done | (with_reducible rfl))
                      simp only [Act.put, Act.eval, List.setIfInBounds_toArray, List.set_cons_zero, List.set_cons_succ, Array.getD_eq_getD_getElem?, List.getElem?_toArray, List.getElem?_cons_zero, List.getElem?_cons_succ, Option.getD_some]
                      refine hw_load 33 _ rfl rfl bx (ox + t * 20) rfl y _ (fun w' h' => range_below (bO3.trans (h'.mono sO)) hbx rY) Try.underlying33 rfl iy ?_
                      simp only [Act.put, Act.eval, List.setIfInBounds_toArray, List.set_cons_zero, List.set_cons_succ, Array.getD_eq_getD_getElem?, List.getElem?_toArray, List.getElem?_cons_zero, List.getElem?_cons_succ, Option.getD_some]
                      refine hw_ex rfl ?_; apply Exists.intro; refine ⟨fun w hSw => ?_, ?_⟩; (go_simp; first | done | (with_reducible rfl))
                      simp only [Act.put, Act.eval, List.setIfInBounds_toArray, List.set_cons_zero, List.set_cons_succ, Array.getD_eq_getD_getElem?, List.getElem?_toArray, List.getElem?_cons_zero, List.getElem?_cons_succ, Option.getD_some]
                      refine hw_load1 25 _ rfl rfl w.heap.size 86 rfl (.slice (some ⟨bz, oz, none⟩) PS.length cq) _ (fun w' h' => ((bB3.trans (h'.mono sB3)).cell (p := ⟨w.heap.size, 86, none⟩) sE).trans hP86) Try.underlying25 rfl ?_
                      simp only [Act.put, Act.eval, List.setIfInBounds_toArray, List.set_cons_zero, List.set_cons_succ, Array.getD_eq_getD_getElem?, List.getElem?_toArray, List.getElem?_cons_zero, List.getElem?_cons_succ, Option.getD_some]
                      refine hw_move _ rfl rfl ?_
                      simp only [Act.put, Act.eval, List.setIfInBounds_toArray, List.set_cons_zero, List.set_cons_succ, Array.getD_eq_getD_getElem?, List.getElem?_toArray, List.getElem?_cons_zero, List.getElem?_cons_succ, Option.getD_some]
                      refine hw_ex rfl ?_; apply Exists.intro; refine ⟨fun w hSw => ?_, ?_⟩; (go_simp; first | done | (with_reducible rfl))
                      simp only [Act.put, Act.eval, List.setIfInBounds_toArray, List.set_cons_zero, List.set_cons_succ, Array.getD_eq_getD_getElem?, List.getElem?_toArray, List.getElem?_cons_zero, List.getElem?_cons_succ, Option.getD_some]
                      refine hw_ex rfl ?_; apply Exists.intro; refine ⟨fun w hSw => ?_, ?_⟩; (go_simp; first | done | (with_reducible rfl))
                      simp only [Act.put, Act.eval, List.setIfInBounds_toArray, List.set_cons_zero, List.set_cons_succ, Array.getD_eq_getD_getElem?, List.getElem?_toArray, List.getElem?_cons_zero, List.getElem?_cons_succ, Option.getD_some]
                      refine hw_load1 24 _ rfl rfl bz (oz + p4 * 21 + 20) rfl (.slice (some ⟨bh, oh', none⟩) z.hs.length z.cap) _ (fun w' h' => ((bB3.trans (h'.mono sB3)).cell (p := ⟨bz, oz + p4 * 21 + 20, none⟩) hbz).trans cZ) Try.underlying24 rfl ?_
                      simp only [Act.put, Act.eval, List.setIfInBounds_toArray, List.set_cons_zero, List.set_cons_succ, Array.getD_eq_getD_getElem?, List.getElem?_toArray, List.getElem?_cons_zero, List.getElem?_cons_succ, Option.getD_some]
                      refine hw_move _ rfl rfl ?_
                      simp only [Act.put, Act.eval, List.setIfInBounds_toArray, List.set_cons_zero, List.set_cons_succ, Array.getD_eq_getD_getElem?, List.getElem?_toArray, List.getElem?_cons_zero, List.getElem?_cons_succ, Option.getD_some]
                      refine hw_ex rfl ?_; apply Exists.intro; refine ⟨fun w hSw => ?_, ?_⟩; (go_simp; first | done | (with_reducible rfl))
                      simp only [Act.put, Act.eval, List.setIfInBounds_toArray, List.set_cons_zero, List.set_cons_succ, Array.getD_eq_getD_getElem?, List.getElem?_toArray, List.getElem?_cons_zero, List.getElem?_cons_succ, Option.getD_some]
                      refine hw_load 22 _ rfl rfl bh (oh' + h4 * 20) rfl y _ (fun w' h' => range_below (bB3.trans (h'.mono sB3)) hbh rYz) Try.underlying22 rfl iy2 ?_
                      simp only [Act.put, Act.eval, List.setIfInBounds_toArray, List.set_cons_zero, List.set_cons_succ, Array.getD_eq_getD_getElem?, List.getElem?_toArray, List.getElem?_cons_zero, List.getElem?_cons_succ, Option.getD_some]
                      refine hw_neq _ _ _ rfl rfl y hyc rfl rfl ?_
                      simp only [Act.put, Act.eval, List.setIfInBounds_toArray, List.set_cons_zero, List.set_cons_succ, Array.getD_eq_getD_getElem?, List.getElem?_toArray, List.getElem?_cons_zero, List.getElem?_cons_succ, Option.getD_some]
                      refine hw_ex rfl ?_; apply Exists.intro; refine ⟨fun w hSw => ?_, ?_⟩; (go_simp; first | done | (with_reducible rfl))
                      simp only [Act.put, Act.eval, List.setIfInBounds_toArray, List.set_cons_zero, List.set_cons_succ, Array.getD_eq_getD_getElem?, List.getElem?_toArray, List.getElem?_cons_zero, List.getElem?_cons_succ, Option.getD_some]
                      refine hw_nil ?_
                      have b8 : Below (pb + 1) w3 wr.drew := b7.drew
                      go_wp2
                      go_roundw
                      case rel => exact ⟨p4, h4 + 1, c3 + 1, t + 1, by omega, by go_num, by go_num, by go_num, by go_num, b8, HCS.out, HG2.out⟩
                      case measure => simp [intOf]; omega
                · have hte : t = x.hs.length := by omega
                  have HD6 : Hid ((flat L).drop c3 = flat ((F.map PtV.bare).drop (k + 1)) ++ R) := by
                    show _ = _
                    rw [HDR3.out, hte, List.drop_length, List.map_nil, List.nil_append, HR3.out]
                  have bOr : Below wo.heap.size wo wr := bO3.trans (b7.mono sO)
                  go_wp2
                  go_roundw
                  case rel => exact ⟨p3, h3, c3, k + 1, by omega, by go_num, by go_num, by go_num, by go_num, bOr, HCUR3.out, HD6.out⟩
                  case measure => simp [intOf]; omega
            · have hke : k = F.length := by omega
              have HD7 : Hid ((flat L).drop c2 = flat (QL.drop (j + 1)).flatten) := by
                show _ = _
                rw [HDR2.out, List.drop_eq_nil_of_le (by simp; omega), flat_nil, List.nil_append, HRR.out]
              have bBp : Below wB.heap.size wB wp := b5.trans (b6.mono b5.size)
              go_wp2
              go_roundw
              case rel => exact ⟨p2, h2, c2, j + 1, by omega, by go_num, by go_num, by go_num, by go_num, bBp, HCUR2.out, HD7.out⟩
              case measure => simp [intOf]; omega
      · have hje : j = N := by omega
        have hcT : c' = T := by
          have h1 := HDR.out
          rw [hje, List.drop_eq_nil_of_le (Nat.le_of_eq HQL.out)] at h1
          have h2 := congrArg List.length h1
          have h3 := flat_len L
          have h4 := HCUR.out.le
          rw [HCN.out] at h3 h4
          simp [flat_nil] at h2
          omega
        subst hcT
        have bF : Below w.heap.size w wo := bEE.trans (b5.mono (by omega))
        go_wp2
        go_ret
        exact ⟨by first | rfl | simp, bF⟩
end Go.Proofs.Qxb6603900a
