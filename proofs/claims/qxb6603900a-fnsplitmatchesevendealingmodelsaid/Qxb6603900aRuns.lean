import Derived.Test.Qxb6603900aSplitAny
namespace Go.Proofs.Qxb6603900a
open Go.ChangeShapes Go.WideShapes Go.ChangeAt Go.RowKit
set_option linter.unusedSimpArgs false
set_option linter.unusedVariables false

theorem div_yes (k : Int) (hk : k = 9 ∨ k = 10 ∨ k = 11) (w : World) : Calls Try.prog 12 #[.int .u8 k] w fun e w' => e = .returned (.bool true) ∧ w' = w := by
  rcases hk with rfl | rfl | rfl
  all_goals
    go_enter Try.func12, Try.ntmps12
    go_wp2
    go_ret
    exact ⟨rfl, rfl⟩
theorem div_no (k : Int) (k9 : k ≠ 9) (k10 : k ≠ 10) (k11 : k ≠ 11) (w : World) : Calls Try.prog 12 #[.int .u8 k] w fun e w' => e = .returned (.bool false) ∧ w' = w := by
  go_enter Try.func12, Try.ntmps12
  go_wp2
  go_ret
  refine ⟨?_, rfl⟩
  show Ending.returned (Value.bool (k == 9 || k == 10 || k == 11)) = _
  simp [k9, k10, k11]

/-- What zzMsgSize's second answer being true says. -/
def SizeOk (ok : Bool) (t : Int) (lh lp : Nat) (PS : List PtV) : Prop :=
  ok = true → t = (totTo PS PS.length : Nat) ∧ lh ≤ 65536 ∧ lp ≤ 65536 ∧ PS.length ≤ 65536 ∧ (∀ (j : Nat) (x : PtV), PS[j]? = some x → x.hs.length ≤ 65536) ∧ totTo PS PS.length ≤ 32768
def SizeOut2 (e : Ending) (lh lp : Nat) (PS : List PtV) : Prop := ∃ t ok, e = .returned (.tuple #[.int .i64 t, .bool ok]) ∧ SizeOk ok t lh lp PS
theorem SizeOut.two {e : Ending} {lh lp : Nat} {PS : List PtV} (h : SizeOut e lh lp PS) : SizeOut2 e lh lp PS := by
  rcases h with h | ⟨h, h'⟩
  · exact ⟨0, false, h, fun h => by cases h⟩
  · exact ⟨_, true, h, fun _ => ⟨rfl, h'⟩⟩

theorem Try.info27s : (Try.prog.info? 27).map (·.size) = some 92 := by kernel_rfl

theorem deal_len {α β : Type} : ∀ (l : List (α × List β)) (q : Nat), (deal l q).1.length ≤ l.length ∧ (deal l q).2.length ≤ l.length
  | [], q => by simp [deal]
  | x :: r, q => by
    have ih := deal_len r (q - x.2.length)
    by_cases h0 : q = 0
    · subst h0; rw [deal_zero]; simp
    · by_cases h1 : x.2.length ≤ q
      · rw [deal_whole (by omega) h1]; simp only [List.length_cons]; omega
      · rw [deal_part (by omega) (by omega)]; simp
theorem left_len {α β : Type} {L : List (α × List β)} {T N : Nat} : ∀ i, (left L T N i).length ≤ L.length
  | 0 => Nat.le_refl _
  | i + 1 => Nat.le_trans (deal_len _ _).2 (left_len i)
theorem part_len {α β : Type} {L : List (α × List β)} {T N i : Nat} : (part L T N i).length ≤ L.length := Nat.le_trans (deal_len _ _).1 (left_len i)

theorem ends_even {T N i : Nat} (hN : 0 < N) : T / N ≤ ends T N (i + 1) - ends T N i ∧ ends T N (i + 1) - ends T N i ≤ T / N + 1 := by
  unfold ends
  have h1 := Nat.div_add_mod T N
  have h2 := Nat.div_add_mod (i * T) N
  have h3 := Nat.div_add_mod ((i + 1) * T) N
  have l1 := Nat.mod_lt T hN
  have l2 := Nat.mod_lt (i * T) hN
  have l3 := Nat.mod_lt ((i + 1) * T) hN
  have e : (i + 1) * T = i * T + T := by rw [Nat.add_mul, Nat.one_mul]
  rw [e] at h3 l3 ⊢
  generalize T / N = q at *
  generalize i * T / N = a at *
  generalize (i * T + T) / N = b at *
  generalize T % N = r at *
  generalize i * T % N = r2 at *
  generalize (i * T + T) % N = r3 at *
  generalize i * T = z at *
  have k1 : N * b + r3 = N * a + r2 + (N * q + r) := by omega
  have k2 : a + q ≤ b := by
    rcases Nat.lt_or_ge b (a + q) with h | h
    · exfalso
      have : N * (b + 1) ≤ N * (a + q) := Nat.mul_le_mul_left _ h
      rw [Nat.mul_add, Nat.mul_add] at this
      omega
    · exact h
  have k3 : b ≤ a + q + 1 := by
    rcases Nat.lt_or_ge (a + q + 1) b with h | h
    · exfalso
      have : N * (a + q + 1 + 1) ≤ N * b := Nat.mul_le_mul_left _ h
      rw [Nat.mul_add, Nat.mul_add, Nat.mul_add] at this
      omega
    · exact h
  omega

set_option maxRecDepth 100000 in
set_option maxHeartbeats 4000000 in
theorem runs_walk (H : Hd) (ah ap aq : Option Addr) (ch cp cq : Nat) (HL PL : List (List Value)) (PS : List PtV) (pt n : Int) (w : World) (M : MsgIn w H ah ap aq HL PL PS) (hn1 : -9223372036854775808 ≤ n) (hn2 : n ≤ 9223372036854775807) :
    Calls Try.prog 5 #[.agg (mc H (.slice ah HL.length ch) (.slice ap PL.length cp) (.slice aq PS.length cq) pt).toArray, .int .i64 n] w fun e w' => e = .returned (.bool true) ∧ Below w.heap.size w w' := by
  have c := M.hd
  have m0 := mc_0 H (.slice ah HL.length ch) (.slice ap PL.length cp) (.slice aq PS.length cq) pt
  have m83 := mc_83 c (.slice ah HL.length ch) (.slice ap PL.length cp) (.slice aq PS.length cq) pt
  have m85 := mc_85 c (.slice ah HL.length ch) (.slice ap PL.length cp) (.slice aq PS.length cq) pt
  have m86 := mc_86 c (.slice ah HL.length ch) (.slice ap PL.length cp) (.slice aq PS.length cq) pt
  have d27 := Try.underlying27
  have ims : (Try.prog.info? 27).map (·.size) = some (mc H (.slice ah HL.length ch) (.slice ap PL.length cp) (.slice aq PS.length cq) pt).length := by rw [mc_len c]; exact Try.info27s
  have hW := range_new w (mc H (.slice ah HL.length ch) (.slice ap PL.length cp) (.slice aq PS.length cq) pt) 27
  have bW : Below w.heap.size w (w.alloc (.cells (mc H (.slice ah HL.length ch) (.slice ap PL.length cp) (.slice aq PS.length cq) pt).toArray 27)) := (Below.refl _ _).alloc (Nat.le_refl _) _
  have MW := M.below bW
  have hsz : (w.alloc (.cells (mc H (.slice ah HL.length ch) (.slice ap PL.length cp) (.slice aq PS.length cq) pt).toArray 27)).heap.size = w.heap.size + 1 := by simp
  generalize hms : mc H (.slice ah HL.length ch) (.slice ap PL.length cp) (.slice aq PS.length cq) pt = ms at *
  have HMS : Hid (mc H (.slice ah HL.length ch) (.slice ap PL.length cp) (.slice aq PS.length cq) pt = ms) := hms
  clear hms
  go_enter Try.func5, Try.ntmps5
  go_upto_if 17 with (first
    | (refine wpList_load_g 27 (.tmp 2) rfl rfl w.heap.size 0 rfl ms _ hW d27 rfl ims ?_; simp only [Act.put, List.setIfInBounds_toArray, List.set_cons_zero, List.set_cons_succ, World.size_alloc])
    | (go_at_call 18; refine (bytes18_any ms ah ap aq HL.length ch PL.length cp cq PS n _ m83 m85 m86 M.mH M.mP M.mQ MW.hQ (fun x hx => ⟨(MW.cQ x hx).1, (MW.cQ x hx).2.2⟩)).mono ?_; rintro e wb ⟨⟨bb, rfl⟩, b1⟩))
  rw [hsz] at b1
  generalize w.alloc (.cells ms.toArray 27) = W at *
  have hWb : wb.rangeAt w.heap.size 0 ms := range_below b1 (by omega) hW
  have bB : Below w.heap.size w wb := bW.trans (b1.mono (by omega))
  have MB := M.below bB
  have sB : w.heap.size + 1 ≤ wb.heap.size := by have := b1.size; omega
  cases bb
  · go_wp2
    go_ret
    exact ⟨rfl, bB⟩
  go_upto_if 24 with (first
    | (refine wpList_load_g 27 (.tmp 2) rfl rfl w.heap.size 0 rfl ms _ hWb d27 rfl ims ?_; simp only [Act.put, List.setIfInBounds_toArray, List.set_cons_zero, List.set_cons_succ, World.size_alloc])
    | (go_at_call 9; refine (size_any ms ah ap aq HL.length ch PL.length cp cq PS _ m83 m85 m86 M.mH M.mP M.mQ MB.hQ (fun x hx => ⟨(MB.cQ x hx).1, (MB.cQ x hx).2.2⟩)).mono ?_; rintro e wS ⟨hso, b2⟩; obtain ⟨t, ok, rfl, hok⟩ := hso.two))
  have b2' : Below (w.heap.size + 1) wb wS := b2.mono sB
  have hWc : wS.rangeAt w.heap.size 0 ms := range_below b2' (by omega) hWb
  have bC : Below w.heap.size w wS := bB.trans (b2'.mono (by omega))
  have MC := M.below bC
  have sC : w.heap.size + 1 ≤ wS.heap.size := Nat.le_trans sB b2.size
  cases ok
  · go_wp2
    go_ret
    exact ⟨rfl, bC⟩
  obtain ⟨rfl, kh, kp, kq, kx, kt⟩ := hok rfl
  have TM := toMsg_any H c ah ap aq ch cp cq HL PL PS pt wS MC.hH MC.cH (by omega) MC.hP MC.cP (by omega) MC.hQ (fun x hx => ⟨(MC.cQ x hx).1, (MC.cQ x hx).2.1, by obtain ⟨j, hj, rfl⟩ := List.mem_iff_getElem.1 hx; have := kx j _ (List.getElem?_eq_getElem hj); omega⟩) (by omega)
  rw [HMS.out] at TM
  obtain ⟨T, hT⟩ : ∃ T, T = totTo PS PS.length := ⟨_, rfl⟩
  have HT : Hid (T = cnt (PS.map PtV.bare)) := by show T = _; rw [hT, totTo_all]
  rw [← hT] at kt ⊢
  clear hT b2 b2' b1 kx
  go_upto_if 32 with (first
    | (refine wpList_load_g 27 (.tmp 2) rfl rfl w.heap.size 0 rfl ms _ hWc d27 rfl ims ?_; simp only [Act.put, List.setIfInBounds_toArray, List.set_cons_zero, List.set_cons_succ, World.size_alloc])
    | (go_at_call 10; refine TM.mono ?_; rintro e wd ⟨ah', ch', ap', cp', aq', cq', E, rfl, b3, i1, i2, rE, cE, hEb⟩)
    | (go_at_call 11; refine (split_any H c (.slice ah' HL.length ch') (.slice ap' PL.length cp') rfl rfl aq' cq' E pt n _ rE cE (by have := congrArg List.length hEb; simp at this; omega) (by rw [hEb, ← HT.out]; omega) hn1 hn2).mono ?_; rintro e we ⟨g, N, QL, rfl, b4, hQl, hcase, hparts⟩))
  rw [hEb] at hcase
  have bE : Below (w.heap.size + 1) wS we := (b3.trans (b4.mono b3.size)).mono sC
  have bEE : Below w.heap.size w we := bC.trans (bE.mono (by omega))
  have cK : we.cell? ⟨w.heap.size, 0, none⟩ = some (.int .u8 H.kd) := by
    have := range_cell (range_below bE (by omega) hWc) 0 m0
    exact this
  have HP : Hid (∀ j l, QL[j]? = some l → PMem we H (.slice ah' HL.length ch') (if j = 0 then .slice ap' PL.length cp' else .slice none 0 0) (if 2 ≤ N ∧ H.kd = 9 then (N : Int) else pt) l g j) := hparts
  have HC : Hid (SplitCase H.kd n (PS.map PtV.bare) N QL) := hcase
  clear hparts hcase TM
  go_cut [8] from 14 (fun lv wx => lv = .int .i64 (min n (T : Int)) ∧ wx = we)
  case first =>
    go_wp2
    all_goals
      go_meet
      exact ⟨congrArg (Value.int .i64) (by omega), rfl⟩
  case rest =>
    obtain ⟨rfl, rfl⟩ := hcut
    have kt' : (T : Int) ≤ 32768 := by omega
    rcases HC.out with ⟨hc1, rfl, rfl⟩ | ⟨hk, hN, hN2, rfl⟩
    · rw [← HT.out] at hc1
      by_cases hk : H.kd = 9 ∨ H.kd = 10 ∨ H.kd = 11
      · have hlt : min n (T : Int) < 2 := by rcases hc1 with h | h; exact absurd hk h; exact h
        have HK : Hid (H.kd = 9 ∨ H.kd = 10 ∨ H.kd = 11) := hk
        clear hk hc1
        generalize min n (T : Int) = lim at *
        generalize H.kd = kd at *
        go_wp2_with (go_at_call 12; refine (div_yes _ HK.out _).mono ?_; rintro e wz ⟨rfl, rfl⟩)
        go_ret
        exact ⟨rfl, bEE⟩
      · have k9 : H.kd ≠ 9 := fun h => hk (Or.inl h)
        have k10 : H.kd ≠ 10 := fun h => hk (Or.inr (Or.inl h))
        have k11 : H.kd ≠ 11 := fun h => hk (Or.inr (Or.inr h))
        clear hk hc1
        generalize min n (T : Int) = lim at *
        generalize H.kd = kd at *
        go_wp2_with (go_at_call 12; refine (div_no _ k9 k10 k11 _).mono ?_; rintro e wz ⟨rfl, rfl⟩)
        go_ret
        exact ⟨rfl, bEE⟩
    · rw [← HT.out] at hN
      rw [← hN]
      have HK : Hid (H.kd = 9 ∨ H.kd = 10 ∨ H.kd = 11) := hk
      have hNT : N ≤ T := by omega
      have hN2' : (2 : Int) ≤ (N : Int) := by omega
      have hNl : (N : Int) ≤ 32768 := by omega
      have HPJ : Hid (∀ j, j < N → PMem wc H (.slice ah' HL.length ch') (if j = 0 then .slice ap' PL.length cp' else .slice none 0 0) (if 2 ≤ N ∧ H.kd = 9 then (N : Int) else pt) (part (PS.map PtV.bare) T N j) g j) := fun j hj => by
        refine HP.out j _ ?_
        rw [List.getElem?_map, List.getElem?_range hj, HT.out]; rfl
      have HCP : Hid (∀ j, j < N → cnt (part (PS.map PtV.bare) T N j) = ends T N (j + 1) - ends T N j) := fun j hj => by rw [HT.out]; exact cnt_part (by omega) hj
      clear hk hN hQl HP HC
      obtain ⟨q, hq⟩ : ∃ q : Nat, q = T / N := ⟨_, rfl⟩
      have hqd : Int.tdiv (T : Int) (N : Int) = (q : Int) := by rw [hq]; rfl
      have HQ : Hid (q = T / N) := hq
      have hqT : q ≤ T := by rw [hq]; exact Nat.div_le_self _ _
      clear hq
      generalize hkd : H.kd = kd at *
      go_wp2_with (go_at_call 12; refine (div_yes _ HK.out _).mono ?_; rintro e wz ⟨rfl, rfl⟩)
      go_loop [10, 11] (fun sv iv => ∃ i : Nat, i ≤ N ∧ sv = .int .i64 (ends T N i : Nat) ∧ iv = .int .i64 i) (fun _ iv => N - (intOf iv).toNat)
      case atStart => exact ⟨0, Nat.zero_le _, by rw [ends_zero]; rfl, rfl⟩
      case round =>
        obtain ⟨i, hi, rfl, rfl⟩ := hrel
        have hei := ends_le (total := T) (n := N) (i := i) (by omega) hi
        by_cases li : i < N
        · have he1 := ends_le (total := T) (n := N) (i := i + 1) (by omega) li
          have hem := ends_mono (total := T) (n := N) (i := i)
          obtain ⟨A, C, F, hr, hrow, hF, hbare⟩ := HPJ.out i li
          have hcF : totTo F F.length = ends T N (i + 1) - ends T N i := by rw [totTo_all, hbare]; exact HCP.out i li
          have hev := ends_even (T := T) (N := N) (i := i) (by omega)
          rw [← HQ.out, ← hcF] at hev
          have c86 : wz.cell? ⟨g, i * 92 + 86, none⟩ = some (.slice A F.length C) := range_cell hr 86 (mc_86 c _ _ _ _)
          have HROW : Hid (RowAt wz A F) := hrow
          have HF : Hid (∀ y ∈ F, PtC y ∧ IdsAt wz y.a y.hs) := hF
          have HCF : Hid (ends T N i + totTo F F.length = ends T N (i + 1)) := by show _ = _; omega
          have li' : (i : Int) < (N : Int) := by omega
          have htT : totTo F F.length ≤ T := by omega
          clear hr hrow hF hcF he1 hem
          have hFl : (F.length : Int) ≤ 65536 := by
            have h1 := congrArg List.length hbare
            have h2 := part_len (L := PS.map PtV.bare) (T := T) (N := N) (i := i)
            simp at h1 h2
            omega
          clear hbare
          generalize ends T N i = ei at *
          go_wp2
          go_loop [12, 13] (fun cv kv => ∃ k : Nat, k ≤ F.length ∧ cv = .int .i64 (totTo F k : Nat) ∧ kv = .int .i64 k) (fun _ kv => F.length - (intOf kv).toNat)
          case atStart => exact ⟨0, Nat.zero_le _, rfl, rfl⟩
          case round =>
            obtain ⟨k, hk, rfl, rfl⟩ := hrel
            have hm1 : totTo F k ≤ totTo F F.length := totTo_mono hk
            by_cases lk : k < F.length
            · obtain ⟨x, hx⟩ : ∃ x, F[k]? = some x := ⟨_, List.getElem?_eq_getElem lk⟩
              have hs := totTo_succ hx
              have hm2 : totTo F (k + 1) ≤ totTo F F.length := totTo_mono lk
              rw [hs] at hm2
              obtain ⟨bq, oq, rfl, rX⟩ := HROW.out k x hx
              have cX : wz.cell? ⟨bq, oq + k * 21 + 20, none⟩ = some (.slice x.a x.hs.length x.cap) := range_cell rX 20 (PtV.cells_hs (HF.out x (List.mem_of_getElem? hx)).1)
              have HS : Hid (totTo F (k + 1) = totTo F k + x.hs.length) := hs
              have lk' : (k : Int) < (F.length : Int) := by omega
              clear hs hx rX
              generalize totTo F k = tk at *
              generalize totTo F F.length = tf at *
              go_wp2
              go_round
              case rel => exact ⟨k + 1, by omega, by rw [HS.out]; go_num, by go_num⟩
              case measure => simp [intOf]; omega
            · have hke : k = F.length := by omega
              subst hke
              generalize totTo F F.length = tf at *
              have g1 : ¬ (tf : Int) < (q : Int) := by omega
              have g2 : ¬ (q : Int) + 1 < (tf : Int) := by omega
              go_wp2
              go_round
              case rel => exact ⟨i + 1, by omega, by rw [← HCF.out]; go_num, by go_num⟩
              case measure => simp [intOf]; omega
        · have hie : i = N := by omega
          subst hie
          have hT : ends T i i = T := ends_last (by omega)
          rw [hT]
          go_wp2
          go_ret
          exact ⟨rfl, bEE⟩
end Go.Proofs.Qxb6603900a
