import Derived.Test.Qxb6603900aSplitB
import Derived.Test.Qxb6603900aSt
namespace Go.Proofs.Qxb6603900a
open Go.ChangeShapes Go.WideShapes Go.ChangeAt Go.RowKit
set_option linter.unusedSimpArgs false
set_option linter.unusedVariables false

theorem zero37_size : zero37.toArray.size = 92 := by rw [List.size_toArray]; decide

theorem there_new (w : World) (cs : List Value) (t : TypeId) {n : Nat} (h : cs.length = n) : (w.alloc (.cells cs.toArray t)).there w.heap.size 0 n := fun j hj => by
  refine ⟨?_, frozen_of_row _ _ _ _ _ (heap_alloc_new w _)⟩
  rw [Nat.zero_add, cell_of_row _ _ _ _ _ _ (heap_alloc_new w _)]
  simp [h, hj]
theorem mul_small {a b : Int} (ha : 0 ≤ a ∧ a ≤ 32768) (hb : 0 ≤ b ∧ b ≤ 32768) : a * b ≤ 1073741824 :=
  Int.le_trans (Int.mul_le_mul ha.2 hb.2 hb.1 (by omega)) (by omega)
theorem ends_tdiv (T N i : Nat) : Int.tdiv (((i : Int) + 1) * (T : Int)) (N : Int) = (ends T N (i + 1) : Nat) := by
  have e1 : ((i : Int) + 1) * (T : Int) = (((i + 1) * T : Nat) : Int) := by simp
  rw [e1]
  rfl

set_option maxRecDepth 100000 in
set_option maxHeartbeats 4000000 in
theorem split_many (H : Hd) (c : HdC H) (vh vp : Value) (oh : vh.oneCell' = true) (op : vp.oneCell' = true) (aq : Option Addr) (cq : Nat) (E : List PtV) (pt n : Int) (w : World) (hk : H.kd = 9 ∨ H.kd = 10 ∨ H.kd = 11)
    (hrow : RowAt w aq E) (hE : ∀ y ∈ E, PtC y) (hEi : ∀ y ∈ E, IdsAt w y.a y.hs ∧ y.hs.length ≤ y.cap) (lE : (E.length : Int) ≤ 65536) (ht : (totTo E E.length : Int) ≤ 32768) (hn1 : -9223372036854775808 ≤ n) (hn2 : n ≤ 9223372036854775807)
    (N : Nat) (hN : min n (totTo E E.length : Int) = (N : Int)) (hN2 : (2 : Int) ≤ (N : Int)) (hT : totTo E E.length = cnt (E.map PtV.bare)) :
    Calls Try.prog 11 #[.agg (mc H vh vp (.slice aq E.length cq) pt).toArray, .int .i64 n] w fun e w' => ∃ g, e = .returned (.slice (some ⟨g, 0, none⟩) N N) ∧ Below w.heap.size w w' ∧ ∀ j, j < N → PartAt w H vh vp pt (E.map PtV.bare) (cnt (E.map PtV.bare)) N g j w' := by
  have m0 := mc_0 H vh vp (.slice aq E.length cq) pt
  have m86 := mc_86 c vh vp (.slice aq E.length cq) pt
  have m85 := mc_85 c vh vp (.slice aq E.length cq) pt
  have hlen := mc_len c vh vp (.slice aq E.length cq) pt
  have ims : (Try.prog.info? 37).map (·.size) = some (mc H vh vp (.slice aq E.length cq) pt).length := by rw [hlen]; exact Try.info37s
  have d37 := Try.underlying37
  have hW := range_new w (mc H vh vp (.slice aq E.length cq) pt) 37
  generalize hms : mc H vh vp (.slice aq E.length cq) pt = ms at *
  have HMS : Hid (mc H vh vp (.slice aq E.length cq) pt = ms) := hms
  clear hms
  have HL : Hid (ms.length = 92) := hlen
  clear hlen
  have HK : Hid (H.kd = 9 ∨ H.kd = 10 ∨ H.kd = 11) := hk
  clear hk
  go_enter Try.func11, Try.ntmps11
  go_upto_block 0 with fail
  go_cut [] from 17 (fun wc => wc = w.alloc (.cells ms.toArray 37))
  case first =>
    rcases HK.out with hk | hk | hk
    all_goals
      rw [hk] at m0
      go_wp2
      go_meet
      rfl
  case rest =>
    subst hcut
    have bW : Below w.heap.size w (w.alloc (.cells ms.toArray 37)) := (Below.refl _ _).alloc (Nat.le_refl _) _
    have hsz : (w.alloc (.cells ms.toArray 37)).heap.size = w.heap.size + 1 := by simp
    have Hc86 : (w.alloc (.cells ms.toArray 37)).cell? ⟨w.heap.size, 86, none⟩ = some (.slice aq E.length cq) := box_cell hW (Below.refl _ _) m86
    generalize (w.alloc (.cells ms.toArray 37)) = W at *
    have hc86 := Hc86
    clear Hc86
    have Z21 : zero48.toArray.size = 21 := by decide
    go_wp2
    go_loopw [5, 28] (fun tv iv wr => ∃ k : Nat, k ≤ E.length ∧ tv = .int .i64 (totTo E k : Nat) ∧ iv = .int .i64 k ∧ Below (w.heap.size + 1) W wr) (fun _ iv _ => E.length - (intOf iv).toNat)
    case atStart => exact ⟨0, Nat.zero_le _, rfl, rfl, Below.refl _ _⟩
    case round =>
      obtain ⟨k, hk, rfl, rfl, hbr⟩ := hrel
      have hmono : totTo E k ≤ totTo E E.length := totTo_mono hk
      by_cases lk : k < E.length
      · obtain ⟨x, hx⟩ : ∃ x, E[k]? = some x := ⟨_, List.getElem?_eq_getElem lk⟩
        have hxc := hE x (List.mem_of_getElem? hx)
        obtain ⟨bq, oq, rfl, rX0⟩ := hrow k x hx
        have hcl := PtV.cells_len hxc
        have hbq : bq < w.heap.size := range_lt rX0 (by omega)
        have rX : wr.rangeAt bq (oq + k * 21) x.cells := range_below hbr (by omega) (range_below bW hbq rX0)
        have ix : (Try.prog.info? 48).map (·.size) = some x.cells.length := by rw [hcl]; exact Try.info48s
        have iz : (Try.prog.info? 48).map (fun i => (i.zero, i.size, i.bytes)) = some (some (.agg zero48.toArray), x.cells.length, 48) := by rw [hcl]; exact Try.info48z
        have hZ : zero48.toArray.size = x.cells.length := by rw [hcl]; exact Z21
        have hone := PtV.cells_one hxc
        have h20 := PtV.cells_hs hxc
        have hs := totTo_succ hx
        have hmono1 : totTo E (k + 1) ≤ totTo E E.length := totTo_mono lk
        rw [hs] at hmono1
        have HS : Hid (totTo E (k + 1) = totTo E k + x.hs.length) := hs
        have hbn : Below (w.heap.size + 1) W (wr.alloc (.cells x.cells.toArray 48)) := hbr.alloc (by have := hbr.size; omega) _
        generalize totTo E k = T at *
        generalize totTo E E.length = TT at *
        generalize hxx : x.cells = xc at *
        have HR : Hid (RowAt w (some ⟨bq, oq, none⟩) E) := hrow
        have HE : Hid (∀ y ∈ E, PtC y) := hE
        have HX : Hid (E[k]? = some x) := hx
        clear hcl hxx hs hrow hE hx rX0 Z21
        go_wp2_with (first
          | (refine wpList_load_g 48 (.tmp 30) rfl rfl bq (oq + k * 21) rfl xc _ rX Try.underlying48 rfl ix ?_; simp only [Act.put, List.setIfInBounds_toArray, List.set_cons_zero, List.set_cons_succ, World.size_alloc])
          | (refine wpList_new_var rfl rfl 48 7 (.tmp 31) rfl rfl rfl rfl 124 rfl (by decide) xc zero48.toArray 48 rfl iz hZ hone ?_; simp only [Act.put, List.setIfInBounds_toArray, List.set_cons_zero, List.set_cons_succ, World.size_alloc]))
        go_roundw
        case rel => exact ⟨k + 1, by omega, by rw [HS.out]; go_num, by go_num, hbn⟩
        case measure => simp [intOf]; omega
      · have hke : k = E.length := by omega
        subst hke
        generalize totTo E E.length = T at *
        have hTi : Hid (T = cnt (E.map PtV.bare)) := hT
        clear hT
        go_upto_region 12 with fail
        go_cut [1] from 17 (fun nv wc => nv = .int .i64 (N : Int) ∧ wc = wr)
        case first =>
          go_wp2
          all_goals
            go_meet
            exact ⟨congrArg (Value.int .i64) (by omega), rfl⟩
        case rest =>
          obtain ⟨rfl, rfl⟩ := hcut
          have hNle : (N : Int) ≤ 32768 := by omega
          have hNd : decide ((N : Int) < 2) = false := by simp; omega
          have HNT : Hid (N ≤ T) := by show N ≤ T; omega
          clear hN hmono
          have hbe : Below w.heap.size w wc := bW.trans (hbr.mono (by omega))
          obtain ⟨i0, hi, hz0, hz1, hz2⟩ := info_parts Try.info37z
          go_wp2_with (first
            | (at_make; refine wpList_make_full _ rfl (.tmp 45) (.tmp 45) 31 rfl wc.heap.size 37 i0 (.agg zero37.toArray) 92 Try.underlying31 hi hz0 hz1 .i64 .i64 _ _ N rfl rfl rfl rfl ?_ ?_ ?_ ?_))
          · rw [hz2]; omega
          · unfold maxLen; omega
          · exact Nat.le_refl _
          intro w1 hown hgrow
          obtain ⟨hth1, _⟩ := owns_there hown
          have hb1 : Below (w.heap.size + 1) W w1 := hbr.grown hgrow (by have := hbr.size; omega) (fun k h => by cases h)
          have hlt1 : wc.heap.size < w1.heap.size := owns_lt hown
          have hgw : w.heap.size + 1 ≤ wc.heap.size := by have := hbr.size; omega
          generalize wc.heap.size = g at *
          clear hown hgrow hi hz0 hz1 hz2
          go_wp2
          go_loopw [9, 10, 11, 49] (fun pv hv dv iv wr => ∃ (i p h : Nat), i ≤ N ∧ pv = .int .i64 p ∧ hv = .int .i64 h ∧ dv = .int .i64 (ends T N i : Nat) ∧ iv = .int .i64 i ∧ Below (w.heap.size + 1) W wr ∧ g < wr.heap.size ∧ wr.there g 0 (N * 92) ∧
              (∀ j, j < i → PartAt w H vh vp pt (E.map PtV.bare) T N g j wr) ∧ remPH (E.map PtV.bare) p h = left (E.map PtV.bare) T N i ∧ (∀ x, (E.map PtV.bare)[p]? = some x → h ≤ x.2.length) ∧ p ≤ (E.map PtV.bare).length) (fun _ _ _ iv _ => N - (intOf iv).toNat)
          case atStart =>
            refine ⟨0, 0, 0, Nat.zero_le _, rfl, rfl, by rw [ends_zero]; rfl, rfl, hb1, hlt1, hth1, fun j hj => absurd hj (Nat.not_lt_zero _), ?_, fun _ _ => Nat.zero_le _, Nat.zero_le _⟩
            rw [remPH_zero]; rfl
          case round =>
            obtain ⟨i, p, h, hi, rfl, rfl, rfl, rfl, hb2, hglt, hth, hall, hleft, hhle, hple⟩ := hrel
            obtain ⟨wo, rfl⟩ : ∃ wo : World, wo = wr := ⟨_, rfl⟩
            have HALL : Hid (∀ j, j < i → PartAt w H vh vp pt (E.map PtV.bare) T N g j wo) := hall
            have HLEFT : Hid (remPH (E.map PtV.bare) p h = left (E.map PtV.bare) T N i) := hleft
            have HHLE : Hid (∀ x, (E.map PtV.bare)[p]? = some x → h ≤ x.2.length) := hhle
            have HPLE : Hid (p ≤ (E.map PtV.bare).length) := hple
            have HROW : Hid (RowAt w aq E) := hrow
            have HE : Hid (∀ y ∈ E, PtC y) := hE
            have HEI : Hid (∀ y ∈ E, IdsAt w y.a y.hs ∧ y.hs.length ≤ y.cap) := hEi
            have HTH : Hid (wo.there g 0 (N * 92)) := hth
            have HTH1 : Hid (w1.there g 0 (N * 92)) := hth1
            clear hall hleft hhle hple hrow hE hEi hth hth1
            have hend := ends_le (total := T) (n := N) (i := i) (by omega) hi
            by_cases li : i < N
            · have hWi : wo.rangeAt w.heap.size 0 ms := range_below hb2 (by omega) hW
              have iz : (Try.prog.info? 37).map (fun i => (i.zero, i.size, i.bytes)) = some (some (.agg zero37.toArray), ms.length, 232) := by rw [HL.out]; exact Try.info37z
              have hZ : zero37.toArray.size = ms.length := by rw [HL.out]; exact zero37_size
              have hone : ∀ v ∈ ms, v.oneCell' = true := by rw [← HMS.out]; exact mc_one c pt oh op rfl
              generalize hends : ends T N i = D at *
              have HD : Hid (ends T N i = D) := hends
              clear hends
              go_upto_if 55 with (first
                | (refine wpList_load_g 37 (.tmp 2) rfl rfl w.heap.size 0 rfl ms _ hWi d37 rfl ims ?_; simp only [Act.put, List.setIfInBounds_toArray, List.set_cons_zero, List.set_cons_succ, World.size_alloc])
                | (refine wpList_new_var rfl rfl 37 13 (.tmp 52) rfl rfl rfl rfl 124 rfl (by decide) ms zero37.toArray 232 rfl iz hZ hone ?_; simp only [Act.put, List.setIfInBounds_toArray, List.set_cons_zero, List.set_cons_succ, World.size_alloc]))
              have hset86 : Hid (ms.set 86 (.slice none 0 0) = mc H vh vp (.slice none 0 0) pt) := by show _ = _; rw [← HMS.out]; exact mc_set86 c _ _ _ _ _
              obtain ⟨P1, hP1⟩ : ∃ P1 : Value, P1 = if i = 0 then vp else .slice none 0 0 := ⟨_, rfl⟩
              have oP1 : P1.oneCell' = true := by rw [hP1]; split; exact op; rfl
              have HP1 : Hid (P1 = if i = 0 then vp else .slice none 0 0) := hP1
              clear hP1
              go_cut [] from 50 to 122 (fun wc => wc = wo.alloc (.cells (mc H vh P1 (.slice none 0 0) pt).toArray 37))
              case first =>
                by_cases i0 : i = 0
                · have hPv : P1 = vp := by rw [HP1.out, if_pos i0]
                  subst i0
                  go_wp2
                  go_meet
                  rw [hset86.out, hPv]
                · have hPv : P1 = .slice none 0 0 := by rw [HP1.out, if_neg i0]
                  have i1 : (0 : Int) < (i : Int) := by omega
                  clear i0
                  go_wp2
                  go_meet
                  rw [hset86.out, mc_set85 c, hPv]
              case rest =>
                subst hcut
                have n87 := mc_87 c vh P1 (.slice none 0 0) pt
                obtain ⟨pt1, hpt1⟩ : ∃ pt1 : Int, pt1 = if H.kd = 9 then (N : Int) else pt := ⟨_, rfl⟩
                have HPT1 : Hid (pt1 = if H.kd = 9 then (N : Int) else pt) := hpt1
                clear hpt1
                have hc0 : (wo.alloc (.cells (mc H vh P1 (.slice none 0 0) pt).toArray 37)).cell? ⟨w.heap.size, 0, none⟩ = some (.int .u8 H.kd) :=
                  box_cell hW (hb2.alloc (by omega) _) m0
                go_upto_if 59 with fail
                go_cut [] from 50 to 122 (fun wc => wc = wo.alloc (.cells (mc H vh P1 (.slice none 0 0) pt1).toArray 37))
                case first =>
                  have hset87 : Hid ((mc H vh P1 (.slice none 0 0) pt).set 87 (.int .i64 (N : Int)) = mc H vh P1 (.slice none 0 0) N) := mc_set87 c _ _ _ _ _
                  by_cases k9 : H.kd = 9
                  · have hPv : pt1 = N := by rw [HPT1.out, if_pos k9]
                    generalize mc H vh P1 (.slice none 0 0) pt = ms1 at *
                    go_wp2
                    go_meet
                    rw [hset87.out, hPv]
                  · have hPv : pt1 = pt := by rw [HPT1.out, if_neg k9]
                    generalize hm1 : mc H vh P1 (.slice none 0 0) pt = ms1 at *
                    go_wp2
                    go_meet
                    rw [← hm1, hPv]
                case rest =>
                  subst hcut
                  have hr2 := range_new wo (mc H vh P1 (.slice none 0 0) pt1) 37
                  have ht2 : (wo.alloc (.cells (mc H vh P1 (.slice none 0 0) pt1).toArray 37)).there wo.heap.size 0 92 := there_new wo _ 37 (mc_len c _ _ _ _)
                  have hb02 : Below wo.heap.size wo (wo.alloc (.cells (mc H vh P1 (.slice none 0 0) pt1).toArray 37)) := (Below.refl _ _).alloc (Nat.le_refl _) _
                  have hsz2 : wo.heap.size < (wo.alloc (.cells (mc H vh P1 (.slice none 0 0) pt1).toArray 37)).heap.size := by simp
                  clear n87 hc0
                  generalize (wo.alloc (.cells (mc H vh P1 (.slice none 0 0) pt1).toArray 37)) = w2 at *
                  generalize hpb : wo.heap.size = pb at *
                  obtain ⟨e, he⟩ : ∃ e, e = ends T N (i + 1) := ⟨_, rfl⟩
                  have hm0 : (0 : Int) ≤ ((i : Int) + 1) * (T : Int) := Int.mul_nonneg (by omega) (by omega)
                  have hm1 : ((i : Int) + 1) * (T : Int) ≤ 1073741824 := mul_small (by omega) (by omega)
                  have hq : Int.tdiv (((i : Int) + 1) * (T : Int)) (N : Int) = (e : Int) := by rw [he]; exact ends_tdiv T N i
                  have HEE : Hid (e = ends T N (i + 1)) := he
                  have heT : e ≤ T := by rw [he]; exact ends_le (by omega) li
                  clear he
                  go_wp2
                  go_loopw [9, 10, 11] (fun pv hv dv wr => ∃ (p h d : Nat) (F : List PtV) (v : Value), pv = .int .i64 p ∧ hv = .int .i64 h ∧ dv = .int .i64 d ∧ Below pb wo wr ∧ pb < wr.heap.size ∧ wr.rangeAt pb 0 (mc H vh P1 v pt1) ∧ wr.there pb 0 92 ∧
                      wr.ownsRow (pb + 1) 48 21 v F.length (F.flatMap PtV.cells) ∧ (∀ y ∈ F, PtC y ∧ IdsAt w y.a y.hs) ∧ St (E.map PtV.bare) T N i p h d F) (fun pv _ dv _ => (e - (intOf dv).toNat) + (E.length - (intOf pv).toNat))
                  case atStart =>
                    refine ⟨p, h, D, [], .slice none 0 0, rfl, rfl, rfl, hb02, hsz2, hr2, ht2, World.ownsRow_nil _ _ _ _, fun y hy => by simp at hy, ?_⟩
                    have hc := cnt_left (L := E.map PtV.bare) (n := N) (by omega) i hi
                    rw [← hTi.out, ← HLEFT.out] at hc
                    have := St.new (N := N) (i := i) (by omega) (by simp; omega) (by omega) li HLEFT.out hc HHLE.out HPLE.out
                    rwa [HD.out] at this
                  case round =>
                    obtain ⟨p', h', d, F, v, rfl, rfl, rfl, hb3, hlt3, hr3, ht3, hown, hF, hst⟩ := hrel
                    have HST : Hid (St (E.map PtV.bare) T N i p' h' d F) := hst
                    have HF : Hid (∀ y ∈ F, PtC y ∧ IdsAt w y.a y.hs) := hF
                    have hde : d ≤ e := by rw [HEE.out]; exact hst.dle
                    have hfew : F.length ≤ 98304 := by have := hst.few; omega
                    have bWr : Below (w.heap.size + 1) W wr := hb2.trans (hb3.mono (by omega))
                    have c86 : wr.cell? ⟨w.heap.size, 86, none⟩ = some (.slice aq E.length cq) := box_cell hW bWr m86
                    have cv : wr.cell? ⟨pb, 86, none⟩ = some v := by have := range_cell hr3 86 (mc_86 c vh P1 v pt1); rwa [Nat.zero_add] at this
                    have HOWN : Hid (wr.ownsRow (pb + 1) 48 21 v F.length (F.flatMap PtV.cells)) := hown
                    have HR3 : Hid (wr.rangeAt pb 0 (mc H vh P1 v pt1)) := hr3
                    have HT3 : Hid (wr.there pb 0 92) := ht3
                    clear hF hown hr3 ht3 hr2 ht2 hb02 hsz2
                    by_cases ld : d < e
                    · have hpl : p' < E.length := by have := hst.there (by omega) li (by rw [← HEE.out]; exact ld); simpa using this
                      obtain ⟨x, hx⟩ : ∃ x, E[p']? = some x := ⟨_, List.getElem?_eq_getElem hpl⟩
                      have hxL : (E.map PtV.bare)[p']? = some x.bare := by rw [List.getElem?_map, hx]; rfl
                      have hhl : h' ≤ x.hs.length := hst.hle _ hxL
                      have hxT : x.hs.length ≤ T := by rw [hTi.out]; exact cnt_mem hxL
                      have hxc := HE.out x (List.mem_of_getElem? hx)
                      have hxi := HEI.out x (List.mem_of_getElem? hx)
                      obtain ⟨bq, oq, haq, rX0⟩ := HROW.out p' x hx
                      subst haq
                      have hcl := PtV.cells_len hxc
                      have hbq : bq < w.heap.size := range_lt rX0 (by omega)
                      have rX : wr.rangeAt bq (oq + p' * 21) x.cells := range_below bWr (by omega) (range_below bW hbq rX0)
                      have cX : wr.cell? ⟨bq, oq + p' * 21 + 20, none⟩ = some (.slice x.a x.hs.length x.cap) := range_cell rX 20 (PtV.cells_hs hxc)
                      have rK : wr.rangeAt bq (oq + p' * 21) x.key := range_take rX
                      have ik : (Try.prog.info? 33).map (·.size) = some x.key.length := by rw [hxc.key.len]; exact Try.info33s
                      have hkl := hxc.key.len
                      obtain ⟨sh, hsh⟩ : ∃ sh : Nat, sh = min (x.hs.length - h') (e - d) := ⟨_, rfl⟩
                      have hsub : h' + sh ≤ x.cap := by have := hxi.2; omega
                      have HXL : Hid ((E.map PtV.bare)[p']? = some x.bare) := hxL
                      have HXI : Hid (IdsAt w x.a x.hs) := hxi.1
                      have HXC : Hid (PtC x) := hxc
                      have hBp : w.heap.size < pb + 1 := by omega
                      have hbqp : bq < pb + 1 := by omega
                      have HSH : Hid (sh = min (x.hs.length - h') (e - d)) := hsh
                      have hpl' : (p' : Int) < (E.length : Int) := by omega
                      have hd0 : (d : Int) < (e : Int) := by omega
                      have hh0 : (h' : Int) ≤ (x.hs.length : Int) := by omega
                      have hx0 : (x.hs.length : Int) ≤ 32768 := by omega
                      have HKL : Hid (x.key.length = 20) := hkl
                      clear hxL hxi hcl rX0 hst hx hkl hsh
                      go_upto_region 29 with fail
                      go_cut [16] from 68 to 117 (fun sv wc => sv = .int .i64 (sh : Int) ∧ wc = wr)
                      case first =>
                        go_wp2
                        all_goals
                          go_meet
                          exact ⟨congrArg (Value.int .i64) (by have := HSH.out; omega), rfl⟩
                      case rest =>
                        obtain ⟨rfl, rfl⟩ := hcut
                        have hkl := HKL.out
                        have hs0 : (h' : Int) + (sh : Int) ≤ (x.hs.length : Int) := by have := HSH.out; omega
                        have hs1 : (d : Int) + (sh : Int) ≤ (e : Int) := by have := HSH.out; omega
                        have hwr : IntKind.i64.wrap ((h' : Int) + (sh : Int)) = (h' : Int) + (sh : Int) := by rw [IntKind.wrap_i64]; omega
                        go_upto_region 30 with fail
                        refine wp_region_T (S := fun w' => Below (pb + 1) wc w') [(0, true), (1, true), (2, true), (3, true), (4, true), (5, true), (6, true), (7, true), (8, true), (9, true), (10, true), (11, true), (12, true), (13, true), (14, true), (15, true), (16, true), (17, true), (18, false), (19, false), (20, true)] [21] (by kernel_rfl) (by kernel_rfl) rfl (by kernel_rfl) (fun _ _ _ _ h => h) (Below.refl _ _).drew ?_
                        simp only [pick, List.map_cons, List.map_nil, Array.getD_eq_getD_getElem?, List.getElem?_toArray, List.getElem?_cons_zero, List.getElem?_cons_succ, Option.getD_some]
                        refine hq_ex rfl ?_; apply Exists.intro; refine ⟨fun w hSw => ?_, ?_⟩; (go_simp; first | done | (with_reducible rfl))
                        simp only [Act.put, Act.eval, List.setIfInBounds_toArray, List.set_cons_zero, List.set_cons_succ, Array.getD_eq_getD_getElem?, List.getElem?_toArray, List.getElem?_cons_zero, List.getElem?_cons_succ, Option.getD_some]
                        refine hq_load1 35 _ rfl rfl pb 86 rfl v _ (fun w' h' => (h'.cell (p := ⟨pb, 86, none⟩) (Nat.lt_succ_self _)).trans cv) Try.underlying35 rfl ?_
                        simp only [Act.put, Act.eval, List.setIfInBounds_toArray, List.set_cons_zero, List.set_cons_succ, Array.getD_eq_getD_getElem?, List.getElem?_toArray, List.getElem?_cons_zero, List.getElem?_cons_succ, Option.getD_some]
                        refine hq_ex rfl ?_; apply Exists.intro; refine ⟨fun w hSw => ?_, ?_⟩; (go_simp; first | done | (with_reducible rfl))
                        simp only [Act.put, Act.eval, List.setIfInBounds_toArray, List.set_cons_zero, List.set_cons_succ, Array.getD_eq_getD_getElem?, List.getElem?_toArray, List.getElem?_cons_zero, List.getElem?_cons_succ, Option.getD_some]
                        refine hq_load1 35 _ rfl rfl w.heap.size 86 rfl (.slice (some ⟨bq, oq, none⟩) E.length cq) _ (fun w' h' => (h'.cell (p := ⟨w.heap.size, 86, none⟩) hBp).trans c86) Try.underlying35 rfl ?_
                        simp only [Act.put, Act.eval, List.setIfInBounds_toArray, List.set_cons_zero, List.set_cons_succ, Array.getD_eq_getD_getElem?, List.getElem?_toArray, List.getElem?_cons_zero, List.getElem?_cons_succ, Option.getD_some]
                        refine hq_move _ rfl rfl ?_
                        simp only [Act.put, Act.eval, List.setIfInBounds_toArray, List.set_cons_zero, List.set_cons_succ, Array.getD_eq_getD_getElem?, List.getElem?_toArray, List.getElem?_cons_zero, List.getElem?_cons_succ, Option.getD_some]
                        refine hq_ex rfl ?_; apply Exists.intro; refine ⟨fun w hSw => ?_, ?_⟩; (go_simp; first | done | (with_reducible rfl))
                        simp only [Act.put, Act.eval, List.setIfInBounds_toArray, List.set_cons_zero, List.set_cons_succ, Array.getD_eq_getD_getElem?, List.getElem?_toArray, List.getElem?_cons_zero, List.getElem?_cons_succ, Option.getD_some]
                        refine hq_ex rfl ?_; apply Exists.intro; refine ⟨fun w hSw => ?_, ?_⟩; (go_simp; first | done | (with_reducible rfl))
                        simp only [Act.put, Act.eval, List.setIfInBounds_toArray, List.set_cons_zero, List.set_cons_succ, Array.getD_eq_getD_getElem?, List.getElem?_toArray, List.getElem?_cons_zero, List.getElem?_cons_succ, Option.getD_some]
                        refine hq_load 33 _ rfl rfl bq (oq + p' * 21) rfl x.key _ (fun w' h' => range_below h' hbqp rK) Try.underlying33 rfl ik ?_
                        simp only [Act.put, Act.eval, List.setIfInBounds_toArray, List.set_cons_zero, List.set_cons_succ, Array.getD_eq_getD_getElem?, List.getElem?_toArray, List.getElem?_cons_zero, List.getElem?_cons_succ, Option.getD_some]
                        refine hq_move _ rfl rfl ?_
                        simp only [Act.put, Act.eval, List.setIfInBounds_toArray, List.set_cons_zero, List.set_cons_succ, Array.getD_eq_getD_getElem?, List.getElem?_toArray, List.getElem?_cons_zero, List.getElem?_cons_succ, Option.getD_some]
                        refine hq_move _ rfl rfl ?_
                        simp only [Act.put, Act.eval, List.setIfInBounds_toArray, List.set_cons_zero, List.set_cons_succ, Array.getD_eq_getD_getElem?, List.getElem?_toArray, List.getElem?_cons_zero, List.getElem?_cons_succ, Option.getD_some]
                        refine hq_move _ rfl rfl ?_
                        simp only [Act.put, Act.eval, List.setIfInBounds_toArray, List.set_cons_zero, List.set_cons_succ, Array.getD_eq_getD_getElem?, List.getElem?_toArray, List.getElem?_cons_zero, List.getElem?_cons_succ, Option.getD_some]
                        refine hq_move _ rfl rfl ?_
                        simp only [Act.put, Act.eval, List.setIfInBounds_toArray, List.set_cons_zero, List.set_cons_succ, Array.getD_eq_getD_getElem?, List.getElem?_toArray, List.getElem?_cons_zero, List.getElem?_cons_succ, Option.getD_some]
                        refine hq_ex rfl ?_; apply Exists.intro; refine ⟨fun w hSw => ?_, ?_⟩; (go_simp; first | done | (with_reducible rfl))
                        simp only [Act.put, Act.eval, List.setIfInBounds_toArray, List.set_cons_zero, List.set_cons_succ, Array.getD_eq_getD_getElem?, List.getElem?_toArray, List.getElem?_cons_zero, List.getElem?_cons_succ, Option.getD_some]
                        refine hq_move _ rfl rfl ?_
                        simp only [Act.put, Act.eval, List.setIfInBounds_toArray, List.set_cons_zero, List.set_cons_succ, Array.getD_eq_getD_getElem?, List.getElem?_toArray, List.getElem?_cons_zero, List.getElem?_cons_succ, Option.getD_some]
                        refine hq_move _ rfl rfl ?_
                        simp only [Act.put, Act.eval, List.setIfInBounds_toArray, List.set_cons_zero, List.set_cons_succ, Array.getD_eq_getD_getElem?, List.getElem?_toArray, List.getElem?_cons_zero, List.getElem?_cons_succ, Option.getD_some]
                        refine hq_ex rfl ?_; apply Exists.intro; refine ⟨fun w hSw => ?_, ?_⟩; (go_simp; first | done | (with_reducible rfl))
                        simp only [Act.put, Act.eval, List.setIfInBounds_toArray, List.set_cons_zero, List.set_cons_succ, Array.getD_eq_getD_getElem?, List.getElem?_toArray, List.getElem?_cons_zero, List.getElem?_cons_succ, Option.getD_some, hwr]
                        refine hq_sub _ _ _ _ rfl rfl x.a x.hs.length x.cap h' sh rfl rfl rfl rfl hsub ?_
                        simp only [Act.put, Act.eval, List.setIfInBounds_toArray, List.set_cons_zero, List.set_cons_succ, Array.getD_eq_getD_getElem?, List.getElem?_toArray, List.getElem?_cons_zero, List.getElem?_cons_succ, Option.getD_some]
                        refine hq_build 48 _ _ _ rfl rfl (fun wx => run_build48 wx x.key (subA x.a h' sh) sh sh hkl) (by simp [Act.eval]) ?_
                        simp only [Act.put, Act.eval, List.setIfInBounds_toArray, List.set_cons_zero, List.set_cons_succ, Array.getD_eq_getD_getElem?, List.getElem?_toArray, List.getElem?_cons_zero, List.getElem?_cons_succ, Option.getD_some]
                        obtain ⟨y, hy⟩ : ∃ y : PtV, y = ⟨x.key, subA x.a h' sh, sh, (x.hs.drop h').take sh⟩ := ⟨_, rfl⟩
                        have hyl : y.hs.length = sh := by rw [hy]; simp; omega
                        have hyc : PtC y := by rw [hy]; exact ⟨HXC.out.key, fun cs hcs => HXC.out.hs cs (List.mem_of_mem_drop (List.mem_of_mem_take hcs))⟩
                        have hycells : x.key ++ [Value.slice (subA x.a h' sh) sh sh] = y.cells := by unfold PtV.cells; rw [hyl, hy]
                        have HYI : Hid (IdsAt w y.a y.hs) := by show IdsAt w y.a y.hs; rw [hy]; exact ids_sub HXI.out h' sh
                        have HYB : Hid (y.bare = (x.bare.1, (x.bare.2.drop h').take sh)) := by show y.bare = _; rw [hy]; rfl
                        rw [hycells]
                        clear hy hycells
                        refine hq_do rfl (fun K hK => ?_)
                        refine wp_buildSlice_one 35 48 _ rfl zero48 y.cells 21 48 rfl Try.underlying35 Try.info48z (by omega) (by omega) (PtV.cells_len hyc) ?_
                        simp only [Act.put, Act.eval, List.setIfInBounds_toArray, List.set_cons_zero, List.set_cons_succ, Array.getD_eq_getD_getElem?, List.getElem?_toArray, List.getElem?_cons_zero, List.getElem?_cons_succ, Option.getD_some]
                        refine hK.out _ _ ((Below.refl _ wc).drew.alloc hlt3 _) (fun hS => ?_)
                        clear hK K hS
                        refine hq_do rfl (fun K hK => ?_)
                        obtain ⟨i48, hi48, hz48, hs48, hy48⟩ := info_parts Try.info48z
                        refine wp_append_own _ _ _ 35 rfl (pb + 1) 48 i48 (.agg zero48.toArray) 21 48 Try.underlying35 hi48 hz48 hs48 hy48 Z21 (by omega) v F.length (F.flatMap PtV.cells) rfl (HOWN.out.drew.alloc _) ⟨wc.heap.size, 0, none⟩ 1 1 y.cells rfl (PtV.cells_len hyc) (fun j u hu => ?_) (PtV.cells_one hyc) ?_ ?_ ?_ ?_
                        · rw [Addr.add_mid]; exact range_new wc.drew y.cells 48 j u hu
                        · unfold maxLen; omega
                        · omega
                        · rw [World.size_alloc]; show pb + 1 ≤ wc.heap.size + 1; omega
                        intro v' w' hown' hgrow _
                        have bS : Below (pb + 1) wc w' := ((Below.refl _ wc).drew.alloc hlt3 _).grown hgrow (by rw [World.size_alloc]; show pb + 1 ≤ wc.heap.size + 1; omega) (fun k hk => (HOWN.out.lt k hk).1)
                        simp only [Act.put, Act.eval, List.setIfInBounds_toArray, List.set_cons_zero, List.set_cons_succ, Array.getD_eq_getD_getElem?, List.getElem?_toArray, List.getElem?_cons_zero, List.getElem?_cons_succ, Option.getD_some]
                        refine hK.out _ _ bS (fun hS => ?_)
                        clear hK K hS hgrow
                        refine hq_ex rfl ?_; apply Exists.intro; refine ⟨fun w hSw => ?_, ?_⟩; (go_simp; first | done | (with_reducible rfl))
                        simp only [Act.put, Act.eval, List.setIfInBounds_toArray, List.set_cons_zero, List.set_cons_succ, Array.getD_eq_getD_getElem?, List.getElem?_toArray, List.getElem?_cons_zero, List.getElem?_cons_succ, Option.getD_some]
                        refine hq_nil ?_
                        refine tl_do rfl (fun K hK => ?_)
                        have hthw : w'.there pb 0 92 := there_below bS (Nat.lt_succ_self _) HT3.out
                        have h86 := hthw 86 (by omega)
                        rw [Nat.zero_add] at h86
                        refine wp_store1 35 _ _ rfl rfl pb 86 v' rfl rfl h86.1 h86.2 (owns_slice hown').1 (by kernel_rfl) (owns_slice hown').2 ?_
                        refine hK.out _ _ ?_
                        clear hK K
                        refine tl_nil ?_
                        have f1 : Below pb wo (w'.setCell ⟨pb, 86, none⟩ v') := (hb3.trans (bS.mono (Nat.le_succ _))).setCell (Nat.le_refl _) _
                        have f2 : pb < (w'.setCell ⟨pb, 86, none⟩ v').heap.size := by have := bS.size; simp; omega
                        have f3 : (w'.setCell ⟨pb, 86, none⟩ v').rangeAt pb 0 (mc H vh P1 v' pt1) := by
                          have := range_set1 (range_below bS (Nat.lt_succ_self _) HR3.out) (by rw [mc_len c]; exact hthw) (j := 86) (by rw [mc_len c]; omega) v'
                          rwa [mc_set86 c] at this
                        have f4 := there_set1 hthw pb 86 v'
                        have f5 : (w'.setCell ⟨pb, 86, none⟩ v').ownsRow (pb + 1) 48 21 v' (F ++ [y]).length ((F ++ [y]).flatMap PtV.cells) := by
                          have := ownsRow_setCell_below hown' (a := ⟨pb, 86, none⟩) (Nat.lt_succ_self _) v'
                          rw [List.flatMap_append, List.length_append]
                          simpa using this
                        have HF2 : Hid (∀ z ∈ F ++ [y], PtC z ∧ IdsAt w z.a z.hs) := fun z hz => by
                          rcases List.mem_append.1 hz with h1 | h1
                          · exact HF.out z h1
                          · rw [List.mem_singleton.1 h1]; exact ⟨hyc, HYI.out⟩
                        have F4 : Hid ((w'.setCell ⟨pb, 86, none⟩ v').there pb 0 92) := f4
                        have F5 : Hid ((w'.setCell ⟨pb, 86, none⟩ v').ownsRow (pb + 1) 48 21 v' (F ++ [y]).length ((F ++ [y]).flatMap PtV.cells)) := f5
                        have F3 : Hid ((w'.setCell ⟨pb, 86, none⟩ v').rangeAt pb 0 (mc H vh P1 v' pt1)) := f3
                        clear f3 f4 f5 hown' h86 hthw bS
                        generalize (w'.setCell ⟨pb, 86, none⟩ v') = wf at *
                        have hdL : d < ends T N (i + 1) := by rw [← HEE.out]; exact ld
                        by_cases full : x.hs.length - h' ≤ e - d
                        · have es : sh = x.hs.length - h' := by have := HSH.out; omega
                          have hst2 : St (E.map PtV.bare) T N i (p' + 1) 0 (d + sh) (F ++ [y]) := by
                            have hb := HYB.out
                            rw [es] at hb ⊢
                            exact HST.out.whole hdL HXL.out (by rw [← HEE.out]; exact full) hb
                          have HST2 : Hid (St (E.map PtV.bare) T N i (p' + 1) 0 (d + sh) (F ++ [y])) := hst2
                          have hi1 : (h' : Int) + (sh : Int) = (x.hs.length : Int) := by omega
                          clear hst2 full es
                          go_wp2
                          go_roundw
                          case rel => exact ⟨p' + 1, 0, d + sh, F ++ [y], v', by go_num, by go_num, by go_num, f1, f2, F3.out, F4.out, F5.out, HF2.out, HST2.out⟩
                          case measure => simp [intOf]; omega
                        · have es : sh = e - d := by have := HSH.out; omega
                          have hst2 : St (E.map PtV.bare) T N i p' (h' + sh) (d + sh) (F ++ [y]) := by
                            have hb := HYB.out
                            rw [es, HEE.out] at hb ⊢
                            exact HST.out.bit hdL HXL.out (by rw [← HEE.out]; show e - d < x.hs.length - h'; omega) hb
                          have HST2 : Hid (St (E.map PtV.bare) T N i p' (h' + sh) (d + sh) (F ++ [y])) := hst2
                          have hi1 : ¬ (h' : Int) + (sh : Int) = (x.hs.length : Int) := by omega
                          have hsp : 0 < sh := by omega
                          clear hst2 full es
                          go_wp2
                          go_roundw
                          case rel => exact ⟨p', h' + sh, d + sh, F ++ [y], v', by go_num, by go_num, by go_num, f1, f2, F3.out, F4.out, F5.out, HF2.out, HST2.out⟩
                          case measure => simp [intOf]; omega
                    · have hdone := hst.done (by rw [← HEE.out]; exact ld)
                      have hov := owns_slice HOWN.out
                      have i2 : (Try.prog.info? 37).map (·.size) = some (mc H vh P1 v pt1).length := by rw [mc_len c]; exact Try.info37s
                      have i3 : (Try.prog.info? 37).map (·.size) = some (mc H vh P1 v pt1).toArray.size := by rw [List.size_toArray]; exact i2
                      have one2 := all_oneCell_toArray (mc_one c (h := vh) (p := P1) (q := v) pt1 oh oP1 hov.1)
                      have rG : wr.rangeAt pb 0 (mc H vh P1 v pt1) := HR3.out
                      have thG : wr.there g 0 (N * 92) := there_below hb3 (by omega) HTH.out
                      have th2 : wr.there g (i * 92) (mc H vh P1 v pt1).toArray.size := fun j hj => by
                        rw [List.size_toArray, mc_len c] at hj
                        have := thG (i * 92 + j) (by omega)
                        rwa [Nat.zero_add] at this
                      have HDONE : Hid (d = ends T N (i + 1) ∧ F.map PtV.bare = part (E.map PtV.bare) T N i ∧ remPH (E.map PtV.bare) p' h' = left (E.map PtV.bare) T N (i + 1)) := hdone
                      have HHL2 : Hid (∀ x, (E.map PtV.bare)[p']? = some x → h' ≤ x.2.length) := hst.hle
                      have HPL2 : Hid (p' ≤ (E.map PtV.bare).length) := hst.ple
                      have HPI : Hid ((wr.setCells g (i * 92) (mc H vh P1 v pt1).toArray.toList).rangeAt g (i * 92) (mc H vh P1 v pt1)) := World.rangeAt_setCells_same _ _ _ _ (by simpa using th2)
                      have li' : (i : Int) < (N : Int) := by omega
                      clear hst hdone hov
                      generalize hm2 : mc H vh P1 v pt1 = ms2 at *
                      have HM2 : Hid (mc H vh P1 v pt1 = ms2) := hm2
                      clear hm2
                      go_wp2_with (first
                        | (refine wpList_load_g 37 (.tmp 13) rfl rfl pb 0 rfl ms2 _ rG d37 rfl i2 ?_; simp only [Act.put, List.setIfInBounds_toArray, List.set_cons_zero, List.set_cons_succ, World.size_alloc])
                        | (refine wpList_store_mid rfl 37 (.tmp 121) (.tmp 120) rfl g (i * 92) ms2.toArray rfl rfl th2 i3 one2 ?_; simp only [Act.put, List.setIfInBounds_toArray, List.set_cons_zero, List.set_cons_succ, World.size_alloc]))
                      go_roundw
                      case rel =>
                        obtain ⟨hd1, hd2, hd3⟩ := HDONE.out
                        obtain ⟨A, C, rfl, hrA, hAb⟩ := row_of_owns HOWN.out (fun z hz => (HF.out z hz).1)
                        refine ⟨i + 1, p', h', by omega, rfl, rfl, by rw [hd1], by go_num, below_setCells hgw _ _ _ bWr, by rw [size_setCells]; omega, World.there_setCells thG _ _ _, fun j hj => ?_, hd3, HHL2.out, HPL2.out⟩
                        rcases Nat.lt_succ_iff_lt_or_eq.1 hj with h1 | h1
                        · exact ((HALL.out j h1).below (by omega) (by rw [hpb]; exact hb3)).set c h1 _
                        · subst h1
                          refine ⟨A, C, F, ?_, row_set hrA (fun b o hb => by have := hAb b o hb; omega) _ _, fun b o hb => by have := hAb b o hb; omega, HF.out, hd2⟩
                          rw [← HP1.out, ← HPT1.out, HM2.out]
                          exact HPI.out
                      case measure => simp [intOf]; omega
            · have hie : i = N := by omega
              subst hie
              have hbf : Below w.heap.size w wo := bW.trans (hb2.mono (by omega))
              go_wp2
              go_ret
              refine ⟨g, rfl, hbf, fun j hj => ?_⟩
              rw [← hTi.out]
              exact HALL.out j hj
end Go.Proofs.Qxb6603900a
