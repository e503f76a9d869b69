import Derived.Test.Qxb6603900aUltra
namespace Go.Proofs.Qxb6603900a
open Go.ChangeShapes Go.WideShapes Go.ChangeAt Go.RowKit
set_option linter.unusedSimpArgs false

theorem four (cs ds : List Value) (w : World) : ∃ W : World, W = ((((w.alloc (.cells cs.toArray 22)).alloc (.cells ds.toArray 22)).alloc (.cells cs.toArray 33)).alloc (.cells ds.toArray 33)) ∧ W.heap.size = w.heap.size + 4 ∧ Below w.heap.size w W ∧ W.rangeAt (w.heap.size + 1 + 1) 0 cs ∧ W.rangeAt (w.heap.size + 1 + 1 + 1) 0 ds := by
  refine ⟨_, rfl, by simp, ?_, ?_, ?_⟩
  · exact ((((Below.refl _ _).alloc (Nat.le_refl _) _).alloc (by simp) _).alloc (by simp; omega) _).alloc (by simp; omega) _
  · exact World.rangeAt_alloc (range_new' ((w.alloc (.cells cs.toArray 22)).alloc (.cells ds.toArray 22)) cs 33 _ (by simp)) _
  · exact range_new' (((w.alloc (.cells cs.toArray 22)).alloc (.cells ds.toArray 22)).alloc (.cells cs.toArray 33)) ds 33 _ (by simp)

set_option maxHeartbeats 1000000 in
theorem agrees_walk (cs ds : List Value) (b c : Nat → Int) (h1 : IsID cs b) (h2 : IsID ds c) (w : World) :
    Calls Try.prog 7 #[.agg cs.toArray, .agg ds.toArray] w fun e w' => e = .returned (.bool true) ∧ Below w.heap.size w w' := by
  have u22 := Try.underlying22
  have u33 := Try.underlying33
  have i1 : (Try.prog.info? 22).map (·.size) = some cs.length := by rw [h1.size]; exact Try.info22
  have i2 : (Try.prog.info? 22).map (·.size) = some ds.length := by rw [h2.size]; exact Try.info22
  have z1 : (Try.prog.info? 33).map (fun i => (i.zero, i.size, i.bytes)) = some (some (.agg zero33), cs.length, 20) := by rw [h1.size]; exact Try.info33z
  have z2 : (Try.prog.info? 33).map (fun i => (i.zero, i.size, i.bytes)) = some (some (.agg zero33), ds.length, 20) := by rw [h2.size]; exact Try.info33z
  have j1 : (Try.prog.info? 33).map (·.size) = some cs.length := by rw [h1.size]; exact Try.info33
  have j2 : (Try.prog.info? 33).map (·.size) = some ds.length := by rw [h2.size]; exact Try.info33
  have hA3 : ((w.alloc (.cells cs.toArray 22)).alloc (.cells ds.toArray 22)).rangeAt w.heap.size 0 cs := World.rangeAt_alloc (range_new w cs 22) _
  have hA4 : (((w.alloc (.cells cs.toArray 22)).alloc (.cells ds.toArray 22)).alloc (.cells cs.toArray 33)).rangeAt (w.heap.size + 1) 0 ds := World.rangeAt_alloc (range_new' (w.alloc (.cells cs.toArray 22)) ds 22 _ (by simp)) _
  obtain ⟨W, hW, hsz, hwW, hX, hY⟩ := four cs ds w
  have HW : Hid (W = ((((w.alloc (.cells cs.toArray 22)).alloc (.cells ds.toArray 22)).alloc (.cells cs.toArray 33)).alloc (.cells ds.toArray 33))) := hW
  clear hW
  go_enter Try.func7, Try.ntmps7
  go_wp2_with (first
    | (refine wpList_load_g 22 (.tmp 2) rfl rfl (w.heap.size) 0 rfl cs _ hA3 u22 rfl i1 ?_; simp only [Act.put, List.setIfInBounds_toArray, List.set_cons_zero, List.set_cons_succ, World.size_alloc])
    | (refine wpList_load_g 22 (.tmp 3) rfl rfl (w.heap.size + 1) 0 rfl ds _ hA4 u22 rfl i2 ?_; simp only [Act.put, List.setIfInBounds_toArray, List.set_cons_zero, List.set_cons_succ, World.size_alloc])
    | (refine wpList_new_var rfl rfl 33 5 (.tmp 9) rfl rfl rfl rfl 43 rfl (by decide) cs zero33 20 rfl z1 (by rw [h1.size]; rfl) h1.one ?_; simp only [Act.put, List.setIfInBounds_toArray, List.set_cons_zero, List.set_cons_succ, World.size_alloc])
    | (refine wpList_new_var rfl rfl 33 6 (.tmp 10) rfl rfl rfl rfl 43 rfl (by decide) ds zero33 20 rfl z2 (by rw [h2.size]; rfl) h2.one ?_; simp only [Act.put, List.setIfInBounds_toArray, List.set_cons_zero, List.set_cons_succ, World.size_alloc])
    | (refine wpList_load_g 33 (.tmp 5) rfl rfl (w.heap.size + 1 + 1) 0 rfl cs _ (by rw [← HW.out]; exact hX) u33 rfl j1 ?_; simp only [Act.put, List.setIfInBounds_toArray, List.set_cons_zero, List.set_cons_succ, World.size_alloc])
    | (refine wpList_load_g 33 (.tmp 6) rfl rfl (w.heap.size + 1 + 1 + 1) 0 rfl ds _ (by rw [← HW.out]; exact hY) u33 rfl j2 ?_; simp only [Act.put, List.setIfInBounds_toArray, List.set_cons_zero, List.set_cons_succ, World.size_alloc]))
  rw [← HW.out]
  clear HW hA3 hA4
  refine (shared_any cs ds b c h1 h2 _).mono ?_
  rintro e w1 ⟨n, rfl, sh, bb⟩
  have hb1 : Below (w.heap.size + 4) W w1 := by rw [← hsz]; exact bb
  clear bb
  have hn := sh.le
  go_wp2
  go_loopw [8] (fun i wr => ∃ k : Nat, k ≤ n ∧ i = .int .i64 k ∧ Below (w.heap.size + 4) W wr) (fun i _ => n - (intOf i).toNat)
  case atStart => exact ⟨0, Nat.zero_le _, rfl, hb1⟩
  case round =>
    obtain ⟨k, hk, rfl, hb2⟩ := hrel
    by_cases hlt : k < n
    · have hk40 : k < 40 := by omega
      have hq : (dig b k != dig c k) = false := by rw [sh.same k hlt]; simp
      go_wp2
      refine wp_region_Hw (S := fun w' => Below (w.heap.size + 4) W w') [(0, true), (1, true), (3, true), (4, true), (2, false), (5, false), (6, true)] (by kernel_rfl) (by kernel_rfl) rfl (by kernel_rfl) (fun _ _ _ _ h => h) hb2.drew (fun hHeld => ?_)
      simp only [pick, List.map_cons, List.map_nil, Array.getD_eq_getD_getElem?, List.getElem?_toArray, List.getElem?_cons_zero, List.getElem?_cons_succ, Option.getD_some]
      refine hw_load _ _ rfl rfl (w.heap.size + 1 + 1) 0 rfl cs _ (fun w' h' => range_below h' (by omega) hX) u33 rfl j1 ?_
      simp only [Act.put, Act.eval, List.setIfInBounds_toArray, List.set_cons_zero, List.set_cons_succ, Array.getD_eq_getD_getElem?, List.getElem?_toArray, List.getElem?_cons_zero, List.getElem?_cons_succ, Option.getD_some]
      refine hw_move _ rfl rfl ?_
      simp only [Act.put, Act.eval, List.setIfInBounds_toArray, List.set_cons_zero, List.set_cons_succ, Array.getD_eq_getD_getElem?, List.getElem?_toArray, List.getElem?_cons_zero, List.getElem?_cons_succ, Option.getD_some]
      refine hw_load _ _ rfl rfl (w.heap.size + 1 + 1 + 1) 0 rfl ds _ (fun w' h' => range_below h' (by omega) hY) u33 rfl j2 ?_
      simp only [Act.put, Act.eval, List.setIfInBounds_toArray, List.set_cons_zero, List.set_cons_succ, Array.getD_eq_getD_getElem?, List.getElem?_toArray, List.getElem?_cons_zero, List.getElem?_cons_succ, Option.getD_some]
      refine hw_move _ rfl rfl ?_
      simp only [Act.put, Act.eval, List.setIfInBounds_toArray, List.set_cons_zero, List.set_cons_succ, Array.getD_eq_getD_getElem?, List.getElem?_toArray, List.getElem?_cons_zero, List.getElem?_cons_succ, Option.getD_some]
      refine hw_do rfl (fun K hK => ?_)
      go_wp2_with (go_at_call 20; refine (digit_any cs b h1 k hk40 _).mono ?_; rintro e w' ⟨rfl, rfl⟩)
      refine hK.out _ _ (by repeat (first | exact hb2 | refine Below.drew ?_ | refine belowA ?_ (by omega) _)) (fun hHeld => ?_)
      clear hK K
      refine hw_do rfl (fun K hK => ?_)
      go_wp2_with (go_at_call 20; refine (digit_any ds c h2 k hk40 _).mono ?_; rintro e w' ⟨rfl, rfl⟩)
      refine hK.out _ _ (by repeat (first | exact hb2 | refine Below.drew ?_ | refine belowA ?_ (by omega) _)) (fun hHeld => ?_)
      clear hK K
      refine hw_ex rfl ?_; apply Exists.intro; refine ⟨fun w hSw => ?_, ?_⟩; (go_simp; first | done | (with_reducible rfl))
      simp only [Act.put, Act.eval, List.setIfInBounds_toArray, List.set_cons_zero, List.set_cons_succ, Array.getD_eq_getD_getElem?, List.getElem?_toArray, List.getElem?_cons_zero, List.getElem?_cons_succ, Option.getD_some]
      refine hw_nil ?_
      go_wp2
      go_roundw
      case rel => exact ⟨k + 1, by omega, by go_num, (by repeat (first | exact hb2 | refine Below.drew ?_ | refine belowA ?_ (by omega) _))⟩
      case measure => simp [intOf]; omega
    · by_cases hn4 : n < 40
      · have hn40 : n < 40 := hn4
        have hq : (dig b n != dig c n) = true := by have := sh.parts hn4; simpa using this
        have hn4' : ((n : Int) == 40) = false := by simp; omega
        clear hn4
        go_wp2
        refine wp_region_Hw (S := fun w' => Below (w.heap.size + 4) W w') [(0, true), (1, true), (2, true), (3, true), (4, true), (6, true), (7, true), (5, false), (8, false), (9, true), (10, true), (11, true)] (by kernel_rfl) (by kernel_rfl) rfl (by kernel_rfl) (fun _ _ _ _ h => h) hb2.drew (fun hHeld => ?_)
        simp only [pick, List.map_cons, List.map_nil, Array.getD_eq_getD_getElem?, List.getElem?_toArray, List.getElem?_cons_zero, List.getElem?_cons_succ, Option.getD_some]
        refine hw_move _ rfl rfl ?_
        simp only [Act.put, Act.eval, List.setIfInBounds_toArray, List.set_cons_zero, List.set_cons_succ, Array.getD_eq_getD_getElem?, List.getElem?_toArray, List.getElem?_cons_zero, List.getElem?_cons_succ, Option.getD_some]
        refine hw_ex rfl ?_; apply Exists.intro; refine ⟨fun w hSw => ?_, ?_⟩; (go_simp; first | done | (with_reducible rfl))
        simp only [Act.put, Act.eval, List.setIfInBounds_toArray, List.set_cons_zero, List.set_cons_succ, Array.getD_eq_getD_getElem?, List.getElem?_toArray, List.getElem?_cons_zero, List.getElem?_cons_succ, Option.getD_some]
        refine hw_move _ rfl rfl ?_
        simp only [Act.put, Act.eval, List.setIfInBounds_toArray, List.set_cons_zero, List.set_cons_succ, Array.getD_eq_getD_getElem?, List.getElem?_toArray, List.getElem?_cons_zero, List.getElem?_cons_succ, Option.getD_some]
        refine hw_load _ _ rfl rfl (w.heap.size + 1 + 1) 0 rfl cs _ (fun w' h' => range_below h' (by omega) hX) u33 rfl j1 ?_
        simp only [Act.put, Act.eval, List.setIfInBounds_toArray, List.set_cons_zero, List.set_cons_succ, Array.getD_eq_getD_getElem?, List.getElem?_toArray, List.getElem?_cons_zero, List.getElem?_cons_succ, Option.getD_some]
        refine hw_move _ rfl rfl ?_
        simp only [Act.put, Act.eval, List.setIfInBounds_toArray, List.set_cons_zero, List.set_cons_succ, Array.getD_eq_getD_getElem?, List.getElem?_toArray, List.getElem?_cons_zero, List.getElem?_cons_succ, Option.getD_some]
        refine hw_load _ _ rfl rfl (w.heap.size + 1 + 1 + 1) 0 rfl ds _ (fun w' h' => range_below h' (by omega) hY) u33 rfl j2 ?_
        simp only [Act.put, Act.eval, List.setIfInBounds_toArray, List.set_cons_zero, List.set_cons_succ, Array.getD_eq_getD_getElem?, List.getElem?_toArray, List.getElem?_cons_zero, List.getElem?_cons_succ, Option.getD_some]
        refine hw_move _ rfl rfl ?_
        simp only [Act.put, Act.eval, List.setIfInBounds_toArray, List.set_cons_zero, List.set_cons_succ, Array.getD_eq_getD_getElem?, List.getElem?_toArray, List.getElem?_cons_zero, List.getElem?_cons_succ, Option.getD_some]
        refine hw_do rfl (fun K hK => ?_)
        go_wp2_with (go_at_call 20; refine (digit_any cs b h1 n hn40 _).mono ?_; rintro e w' ⟨rfl, rfl⟩)
        refine hK.out _ _ (by repeat (first | exact hb2 | refine Below.drew ?_ | refine belowA ?_ (by omega) _)) (fun hHeld => ?_)
        clear hK K
        refine hw_do rfl (fun K hK => ?_)
        go_wp2_with (go_at_call 20; refine (digit_any ds c h2 n hn40 _).mono ?_; rintro e w' ⟨rfl, rfl⟩)
        refine hK.out _ _ (by repeat (first | exact hb2 | refine Below.drew ?_ | refine belowA ?_ (by omega) _)) (fun hHeld => ?_)
        clear hK K
        refine hw_ex rfl ?_; apply Exists.intro; refine ⟨fun w hSw => ?_, ?_⟩; (go_simp; first | done | (with_reducible rfl))
        simp only [Act.put, Act.eval, List.setIfInBounds_toArray, List.set_cons_zero, List.set_cons_succ, Array.getD_eq_getD_getElem?, List.getElem?_toArray, List.getElem?_cons_zero, List.getElem?_cons_succ, Option.getD_some]
        refine hw_ex rfl ?_; apply Exists.intro; refine ⟨fun w hSw => ?_, ?_⟩; (go_simp; first | done | (with_reducible rfl))
        simp only [Act.put, Act.eval, List.setIfInBounds_toArray, List.set_cons_zero, List.set_cons_succ, Array.getD_eq_getD_getElem?, List.getElem?_toArray, List.getElem?_cons_zero, List.getElem?_cons_succ, Option.getD_some]
        refine hw_ex rfl ?_; apply Exists.intro; refine ⟨fun w hSw => ?_, ?_⟩; (go_simp; first | done | (with_reducible rfl))
        simp only [Act.put, Act.eval, List.setIfInBounds_toArray, List.set_cons_zero, List.set_cons_succ, Array.getD_eq_getD_getElem?, List.getElem?_toArray, List.getElem?_cons_zero, List.getElem?_cons_succ, Option.getD_some]
        refine hw_nil ?_
        go_wp2
        go_ret
        exact ⟨rfl, hwW.trans (Below.mono (B := w.heap.size + 4) (by repeat (first | exact hb2 | refine Below.drew ?_ | refine belowA ?_ (by omega) _)) (by omega))⟩
      · have hn4' : ((n : Int) == 40) = true := by simp; omega
        clear hn4
        go_wp2
        refine wp_region_Hw (S := fun w' => Below (w.heap.size + 4) W w') [(0, true), (1, true), (2, true), (3, true), (4, true), (5, true), (6, true), (7, true), (8, true), (9, true), (10, true), (11, true)] (by kernel_rfl) (by kernel_rfl) rfl (by kernel_rfl) (fun _ _ _ _ h => h) hb2.drew (fun hHeld => ?_)
        simp only [pick, List.map_cons, List.map_nil, Array.getD_eq_getD_getElem?, List.getElem?_toArray, List.getElem?_cons_zero, List.getElem?_cons_succ, Option.getD_some]
        refine hw_move _ rfl rfl ?_
        simp only [Act.put, Act.eval, List.setIfInBounds_toArray, List.set_cons_zero, List.set_cons_succ, Array.getD_eq_getD_getElem?, List.getElem?_toArray, List.getElem?_cons_zero, List.getElem?_cons_succ, Option.getD_some]
        refine hw_ex rfl ?_; apply Exists.intro; refine ⟨fun w hSw => ?_, ?_⟩; (go_simp; first | done | (with_reducible rfl))
        simp only [Act.put, Act.eval, List.setIfInBounds_toArray, List.set_cons_zero, List.set_cons_succ, Array.getD_eq_getD_getElem?, List.getElem?_toArray, List.getElem?_cons_zero, List.getElem?_cons_succ, Option.getD_some]
        refine hw_move _ rfl rfl ?_
        simp only [Act.put, Act.eval, List.setIfInBounds_toArray, List.set_cons_zero, List.set_cons_succ, Array.getD_eq_getD_getElem?, List.getElem?_toArray, List.getElem?_cons_zero, List.getElem?_cons_succ, Option.getD_some]
        refine hw_skip rfl ?_
        simp only [Act.put, Act.eval, List.setIfInBounds_toArray, List.set_cons_zero, List.set_cons_succ, Array.getD_eq_getD_getElem?, List.getElem?_toArray, List.getElem?_cons_zero, List.getElem?_cons_succ, Option.getD_some]
        refine hw_skip rfl ?_
        simp only [Act.put, Act.eval, List.setIfInBounds_toArray, List.set_cons_zero, List.set_cons_succ, Array.getD_eq_getD_getElem?, List.getElem?_toArray, List.getElem?_cons_zero, List.getElem?_cons_succ, Option.getD_some]
        refine hw_skip rfl ?_
        simp only [Act.put, Act.eval, List.setIfInBounds_toArray, List.set_cons_zero, List.set_cons_succ, Array.getD_eq_getD_getElem?, List.getElem?_toArray, List.getElem?_cons_zero, List.getElem?_cons_succ, Option.getD_some]
        refine hw_skip rfl ?_
        simp only [Act.put, Act.eval, List.setIfInBounds_toArray, List.set_cons_zero, List.set_cons_succ, Array.getD_eq_getD_getElem?, List.getElem?_toArray, List.getElem?_cons_zero, List.getElem?_cons_succ, Option.getD_some]
        refine hw_skip rfl ?_
        simp only [Act.put, Act.eval, List.setIfInBounds_toArray, List.set_cons_zero, List.set_cons_succ, Array.getD_eq_getD_getElem?, List.getElem?_toArray, List.getElem?_cons_zero, List.getElem?_cons_succ, Option.getD_some]
        refine hw_skip rfl ?_
        simp only [Act.put, Act.eval, List.setIfInBounds_toArray, List.set_cons_zero, List.set_cons_succ, Array.getD_eq_getD_getElem?, List.getElem?_toArray, List.getElem?_cons_zero, List.getElem?_cons_succ, Option.getD_some]
        refine hw_skip rfl ?_
        simp only [Act.put, Act.eval, List.setIfInBounds_toArray, List.set_cons_zero, List.set_cons_succ, Array.getD_eq_getD_getElem?, List.getElem?_toArray, List.getElem?_cons_zero, List.getElem?_cons_succ, Option.getD_some]
        refine hw_ex rfl ?_; apply Exists.intro; refine ⟨fun w hSw => ?_, ?_⟩; (go_simp; first | done | (with_reducible rfl))
        simp only [Act.put, Act.eval, List.setIfInBounds_toArray, List.set_cons_zero, List.set_cons_succ, Array.getD_eq_getD_getElem?, List.getElem?_toArray, List.getElem?_cons_zero, List.getElem?_cons_succ, Option.getD_some]
        refine hw_ex rfl ?_; apply Exists.intro; refine ⟨fun w hSw => ?_, ?_⟩; (go_simp; first | done | (with_reducible rfl))
        simp only [Act.put, Act.eval, List.setIfInBounds_toArray, List.set_cons_zero, List.set_cons_succ, Array.getD_eq_getD_getElem?, List.getElem?_toArray, List.getElem?_cons_zero, List.getElem?_cons_succ, Option.getD_some]
        refine hw_nil ?_
        go_wp2
        go_ret
        exact ⟨rfl, hwW.trans (Below.mono (B := w.heap.size + 4) (by repeat (first | exact hb2 | refine Below.drew ?_ | refine belowA ?_ (by omega) _)) (by omega))⟩
end Go.Proofs.Qxb6603900a
