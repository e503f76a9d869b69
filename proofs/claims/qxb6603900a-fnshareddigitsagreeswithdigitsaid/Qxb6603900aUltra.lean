import Derived.Test.Qxb6603900aDigits
namespace Go.Proofs.Qxb6603900a
open Go.ChangeShapes Go.WideShapes Go.ChangeAt Go.RowKit
set_option linter.unusedSimpArgs false

theorem IsSh.symm {b c : Nat → Int} {n m : Nat} (h : IsSh b c n) (h' : IsSh c b m) : n = m := by
  rcases Nat.lt_trichotomy n m with hlt | he | hlt
  · have h1 := h.parts (by have := h'.le; omega)
    exact absurd (h'.same n hlt).symm h1
  · exact he
  · have h1 := h'.parts (by have := h.le; omega)
    exact absurd (h.same m hlt).symm h1

theorem IsSh.ultra {a b c : Nat → Int} {n m p : Nat} (h : IsSh a b n) (h' : IsSh b c m) (h2 : IsSh a c p) (hn : p < n) (hm : p < m) : False := by
  have h1 := h2.parts (by have := h.le; omega)
  exact h1 ((h.same p hn).trans (h'.same p hm))

theorem IsSh.self {a : Nat → Int} {n : Nat} (h : IsSh a a n) : n = 40 := by
  by_cases hl : n < 40
  · exact absurd rfl (h.parts hl)
  · have := h.le; omega

def zero33 : Array Value := Array.replicate 20 (.int .u8 0)
theorem Try.info33z : (Try.prog.info? 33).map (fun i => (i.zero, i.size, i.bytes)) = some (some (.agg zero33), 20, 20) := by kernel_rfl
theorem Try.info22 : (Try.prog.info? 22).map (·.size) = some 20 := by kernel_rfl

theorem IsID.one {cs : List Value} {b : Nat → Int} (h : IsID cs b) : ∀ v ∈ cs, v.oneCell' = true := fun v hv => by
  obtain ⟨i, hi, rfl⟩ := List.mem_iff_getElem.1 hv
  have := h.cell i (by have := h.size; omega)
  rw [List.getElem?_eq_getElem hi] at this
  simp at this
  rw [this]; rfl

theorem six (cs ds es : List Value) (w : World) : ∃ W : World, W = ((((((w.alloc (.cells cs.toArray 22)).alloc (.cells ds.toArray 22)).alloc (.cells es.toArray 22)).alloc (.cells cs.toArray 33)).alloc (.cells ds.toArray 33)).alloc (.cells es.toArray 33)) ∧ W.heap.size = w.heap.size + 6 ∧ Below w.heap.size w W ∧ W.rangeAt (w.heap.size + 1 + 1 + 1) 0 cs ∧ W.rangeAt (w.heap.size + 1 + 1 + 1 + 1) 0 ds ∧ W.rangeAt (w.heap.size + 1 + 1 + 1 + 1 + 1) 0 es := by
  refine ⟨_, rfl, by simp, ?_, ?_, ?_, ?_⟩
  · exact ((((((Below.refl _ _).alloc (Nat.le_refl _) _).alloc (by simp) _).alloc (by simp; omega) _).alloc (by simp; omega) _).alloc (by simp; omega) _).alloc (by simp; omega) _
  · exact World.rangeAt_alloc (World.rangeAt_alloc (range_new' (((w.alloc (.cells cs.toArray 22)).alloc (.cells ds.toArray 22)).alloc (.cells es.toArray 22)) cs 33 _ (by simp)) _) _
  · exact World.rangeAt_alloc (range_new' ((((w.alloc (.cells cs.toArray 22)).alloc (.cells ds.toArray 22)).alloc (.cells es.toArray 22)).alloc (.cells cs.toArray 33)) ds 33 _ (by simp)) _
  · exact range_new' (((((w.alloc (.cells cs.toArray 22)).alloc (.cells ds.toArray 22)).alloc (.cells es.toArray 22)).alloc (.cells cs.toArray 33)).alloc (.cells ds.toArray 33)) es 33 _ (by simp)

set_option maxHeartbeats 1000000 in
theorem ultra_walk (cs ds es : List Value) (b c d : Nat → Int) (h1 : IsID cs b) (h2 : IsID ds c) (h3 : IsID es d) (w : World) :
    Calls Try.prog 6 #[.agg cs.toArray, .agg ds.toArray, .agg es.toArray] w fun e w' => e = .returned (.bool true) ∧ Below w.heap.size w w' := by
  have u22 := Try.underlying22
  have i1 : (Try.prog.info? 22).map (·.size) = some cs.length := by rw [h1.size]; exact Try.info22
  have i2 : (Try.prog.info? 22).map (·.size) = some ds.length := by rw [h2.size]; exact Try.info22
  have i3 : (Try.prog.info? 22).map (·.size) = some es.length := by rw [h3.size]; exact Try.info22
  have z1 : (Try.prog.info? 33).map (fun i => (i.zero, i.size, i.bytes)) = some (some (.agg zero33), cs.length, 20) := by rw [h1.size]; exact Try.info33z
  have z2 : (Try.prog.info? 33).map (fun i => (i.zero, i.size, i.bytes)) = some (some (.agg zero33), ds.length, 20) := by rw [h2.size]; exact Try.info33z
  have z3 : (Try.prog.info? 33).map (fun i => (i.zero, i.size, i.bytes)) = some (some (.agg zero33), es.length, 20) := by rw [h3.size]; exact Try.info33z
  have u33 := Try.underlying33
  have j1 : (Try.prog.info? 33).map (·.size) = some cs.length := by rw [h1.size]; exact Try.info33
  have j2 : (Try.prog.info? 33).map (·.size) = some ds.length := by rw [h2.size]; exact Try.info33
  have j3 : (Try.prog.info? 33).map (·.size) = some es.length := by rw [h3.size]; exact Try.info33
  have hA3 : (((w.alloc (.cells cs.toArray 22)).alloc (.cells ds.toArray 22)).alloc (.cells es.toArray 22)).rangeAt w.heap.size 0 cs := World.rangeAt_alloc (World.rangeAt_alloc (range_new w cs 22) _) _
  have hA4 : ((((w.alloc (.cells cs.toArray 22)).alloc (.cells ds.toArray 22)).alloc (.cells es.toArray 22)).alloc (.cells cs.toArray 33)).rangeAt (w.heap.size + 1) 0 ds := World.rangeAt_alloc (World.rangeAt_alloc (range_new' (w.alloc (.cells cs.toArray 22)) ds 22 _ (by simp)) _) _
  have hA5 : (((((w.alloc (.cells cs.toArray 22)).alloc (.cells ds.toArray 22)).alloc (.cells es.toArray 22)).alloc (.cells cs.toArray 33)).alloc (.cells ds.toArray 33)).rangeAt (w.heap.size + 1 + 1) 0 es := World.rangeAt_alloc (World.rangeAt_alloc (range_new' ((w.alloc (.cells cs.toArray 22)).alloc (.cells ds.toArray 22)) es 22 _ (by simp)) _) _
  obtain ⟨W, hW, hsz, hwW, hX, hY, hZ⟩ := six cs ds es w
  have HW : Hid (W = ((((((w.alloc (.cells cs.toArray 22)).alloc (.cells ds.toArray 22)).alloc (.cells es.toArray 22)).alloc (.cells cs.toArray 33)).alloc (.cells ds.toArray 33)).alloc (.cells es.toArray 33))) := hW
  clear hW
  go_enter Try.func6, Try.ntmps6
  go_wp2_with (first
    | (refine wpList_load_g 22 (.tmp 3) rfl rfl (w.heap.size) 0 rfl cs _ hA3 u22 rfl i1 ?_; simp only [Act.put, List.setIfInBounds_toArray, List.set_cons_zero, List.set_cons_succ, World.size_alloc])
    | (refine wpList_load_g 22 (.tmp 4) rfl rfl (w.heap.size + 1) 0 rfl ds _ hA4 u22 rfl i2 ?_; simp only [Act.put, List.setIfInBounds_toArray, List.set_cons_zero, List.set_cons_succ, World.size_alloc])
    | (refine wpList_load_g 22 (.tmp 5) rfl rfl (w.heap.size + 1 + 1) 0 rfl es _ hA5 u22 rfl i3 ?_; simp only [Act.put, List.setIfInBounds_toArray, List.set_cons_zero, List.set_cons_succ, World.size_alloc])
    | (refine wpList_new_var rfl rfl 33 7 (.tmp 15) rfl rfl rfl rfl 49 rfl (by decide) cs zero33 20 rfl z1 (by rw [h1.size]; rfl) h1.one ?_; simp only [Act.put, List.setIfInBounds_toArray, List.set_cons_zero, List.set_cons_succ, World.size_alloc])
    | (refine wpList_new_var rfl rfl 33 8 (.tmp 16) rfl rfl rfl rfl 49 rfl (by decide) ds zero33 20 rfl z2 (by rw [h2.size]; rfl) h2.one ?_; simp only [Act.put, List.setIfInBounds_toArray, List.set_cons_zero, List.set_cons_succ, World.size_alloc])
    | (refine wpList_new_var rfl rfl 33 9 (.tmp 17) rfl rfl rfl rfl 49 rfl (by decide) es zero33 20 rfl z3 (by rw [h3.size]; rfl) h3.one ?_; simp only [Act.put, List.setIfInBounds_toArray, List.set_cons_zero, List.set_cons_succ, World.size_alloc])
    | (refine wpList_load_g 33 (.tmp 7) rfl rfl (w.heap.size + 1 + 1 + 1) 0 rfl cs _ (by rw [← HW.out]; exact hX) u33 rfl j1 ?_; simp only [Act.put, List.setIfInBounds_toArray, List.set_cons_zero, List.set_cons_succ, World.size_alloc])
    | (refine wpList_load_g 33 (.tmp 8) rfl rfl (w.heap.size + 1 + 1 + 1 + 1) 0 rfl ds _ (by rw [← HW.out]; exact hY) u33 rfl j2 ?_; simp only [Act.put, List.setIfInBounds_toArray, List.set_cons_zero, List.set_cons_succ, World.size_alloc])
    | (refine wpList_load_g 33 (.tmp 9) rfl rfl (w.heap.size + 1 + 1 + 1 + 1 + 1) 0 rfl es _ (by rw [← HW.out]; exact hZ) u33 rfl j3 ?_; simp only [Act.put, List.setIfInBounds_toArray, List.set_cons_zero, List.set_cons_succ, World.size_alloc]))
  rw [← HW.out]
  clear HW
  refine (shared_any cs ds b c h1 h2 _).mono ?_
  rintro e w1 ⟨n1, rfl, s1, b1⟩
  have B1 : Below (w.heap.size + 6) W w1 := by rw [← hsz]; exact b1
  have X1 := range_below B1 (by omega) hX
  have Y1 := range_below B1 (by omega) hY
  have Z1 := range_below B1 (by omega) hZ
  have l1 := s1.le
  clear b1 hA3 hA4 hA5
  go_wp2_with (first
    | (refine wpList_load_g 33 (.tmp 7) rfl rfl (w.heap.size + 1 + 1 + 1) 0 rfl cs _ X1 u33 rfl j1 ?_; simp only [Act.put, List.setIfInBounds_toArray, List.set_cons_zero, List.set_cons_succ, World.size_alloc])
    | (refine wpList_load_g 33 (.tmp 8) rfl rfl (w.heap.size + 1 + 1 + 1 + 1) 0 rfl ds _ Y1 u33 rfl j2 ?_; simp only [Act.put, List.setIfInBounds_toArray, List.set_cons_zero, List.set_cons_succ, World.size_alloc])
    | (refine wpList_load_g 33 (.tmp 9) rfl rfl (w.heap.size + 1 + 1 + 1 + 1 + 1) 0 rfl es _ Z1 u33 rfl j3 ?_; simp only [Act.put, List.setIfInBounds_toArray, List.set_cons_zero, List.set_cons_succ, World.size_alloc]))
  refine (shared_any ds cs c b h2 h1 _).mono ?_
  rintro e w2 ⟨n2, rfl, s2, b2⟩
  have B2 : Below (w.heap.size + 6) W w2 := B1.trans (b2.mono (by have := B1.size; omega))
  have X2 := range_below B2 (by omega) hX
  have Y2 := range_below B2 (by omega) hY
  have Z2 := range_below B2 (by omega) hZ
  have l2 := s2.le
  clear b2 X1 Y1 Z1
  obtain rfl := s1.symm s2
  go_wp2_with (first
    | (refine wpList_load_g 33 (.tmp 7) rfl rfl (w.heap.size + 1 + 1 + 1) 0 rfl cs _ X2 u33 rfl j1 ?_; simp only [Act.put, List.setIfInBounds_toArray, List.set_cons_zero, List.set_cons_succ, World.size_alloc])
    | (refine wpList_load_g 33 (.tmp 8) rfl rfl (w.heap.size + 1 + 1 + 1 + 1) 0 rfl ds _ Y2 u33 rfl j2 ?_; simp only [Act.put, List.setIfInBounds_toArray, List.set_cons_zero, List.set_cons_succ, World.size_alloc])
    | (refine wpList_load_g 33 (.tmp 9) rfl rfl (w.heap.size + 1 + 1 + 1 + 1 + 1) 0 rfl es _ Z2 u33 rfl j3 ?_; simp only [Act.put, List.setIfInBounds_toArray, List.set_cons_zero, List.set_cons_succ, World.size_alloc]))
  refine (shared_any ds es c d h2 h3 _).mono ?_
  rintro e w3 ⟨n3, rfl, s3, b3⟩
  have B3 : Below (w.heap.size + 6) W w3 := B2.trans (b3.mono (by have := B2.size; omega))
  have X3 := range_below B3 (by omega) hX
  have Y3 := range_below B3 (by omega) hY
  have Z3 := range_below B3 (by omega) hZ
  have l3 := s3.le
  clear b3 X2 Y2 Z2
  go_wp2_with (first
    | (refine wpList_load_g 33 (.tmp 7) rfl rfl (w.heap.size + 1 + 1 + 1) 0 rfl cs _ X3 u33 rfl j1 ?_; simp only [Act.put, List.setIfInBounds_toArray, List.set_cons_zero, List.set_cons_succ, World.size_alloc])
    | (refine wpList_load_g 33 (.tmp 8) rfl rfl (w.heap.size + 1 + 1 + 1 + 1) 0 rfl ds _ Y3 u33 rfl j2 ?_; simp only [Act.put, List.setIfInBounds_toArray, List.set_cons_zero, List.set_cons_succ, World.size_alloc])
    | (refine wpList_load_g 33 (.tmp 9) rfl rfl (w.heap.size + 1 + 1 + 1 + 1 + 1) 0 rfl es _ Z3 u33 rfl j3 ?_; simp only [Act.put, List.setIfInBounds_toArray, List.set_cons_zero, List.set_cons_succ, World.size_alloc]))
  refine (shared_any cs es b d h1 h3 _).mono ?_
  rintro e w4 ⟨n4, rfl, s4, b4⟩
  have B4 : Below (w.heap.size + 6) W w4 := B3.trans (b4.mono (by have := B3.size; omega))
  have X4 := range_below B4 (by omega) hX
  have Y4 := range_below B4 (by omega) hY
  have Z4 := range_below B4 (by omega) hZ
  have l4 := s4.le
  clear b4 X3 Y3 Z3
  have hu : ¬ (n4 < n1 ∧ n4 < n3) := fun hh => s1.ultra s3 s4 hh.1 hh.2
  by_cases hlt : n3 < n1
  · have hge : (n3 : Int) ≤ (n4 : Int) := by omega
    clear hu
    go_wp2_with (first
      | (refine wpList_load_g 33 (.tmp 7) rfl rfl (w.heap.size + 1 + 1 + 1) 0 rfl cs _ X4 u33 rfl j1 ?_; simp only [Act.put, List.setIfInBounds_toArray, List.set_cons_zero, List.set_cons_succ, World.size_alloc])
      | (refine wpList_load_g 33 (.tmp 8) rfl rfl (w.heap.size + 1 + 1 + 1 + 1) 0 rfl ds _ Y4 u33 rfl j2 ?_; simp only [Act.put, List.setIfInBounds_toArray, List.set_cons_zero, List.set_cons_succ, World.size_alloc])
      | (refine wpList_load_g 33 (.tmp 9) rfl rfl (w.heap.size + 1 + 1 + 1 + 1 + 1) 0 rfl es _ Z4 u33 rfl j3 ?_; simp only [Act.put, List.setIfInBounds_toArray, List.set_cons_zero, List.set_cons_succ, World.size_alloc]))
    refine (shared_any cs cs b b h1 h1 _).mono ?_
    rintro e w5 ⟨n5, rfl, s5, b5⟩
    have B5 : Below (w.heap.size + 6) W w5 := B4.trans (b5.mono (by have := B4.size; omega))
    have X5 := range_below B5 (by omega) hX
    have Y5 := range_below B5 (by omega) hY
    have Z5 := range_below B5 (by omega) hZ
    have l5 := s5.le
    clear b5 X4 Y4 Z4
    obtain rfl := s5.self
    go_wp2
    go_ret
    exact ⟨rfl, hwW.trans (B5.mono (by omega))⟩
  · have hge : (n1 : Int) ≤ (n4 : Int) := by omega
    clear hu
    go_wp2_with (first
      | (refine wpList_load_g 33 (.tmp 7) rfl rfl (w.heap.size + 1 + 1 + 1) 0 rfl cs _ X4 u33 rfl j1 ?_; simp only [Act.put, List.setIfInBounds_toArray, List.set_cons_zero, List.set_cons_succ, World.size_alloc])
      | (refine wpList_load_g 33 (.tmp 8) rfl rfl (w.heap.size + 1 + 1 + 1 + 1) 0 rfl ds _ Y4 u33 rfl j2 ?_; simp only [Act.put, List.setIfInBounds_toArray, List.set_cons_zero, List.set_cons_succ, World.size_alloc])
      | (refine wpList_load_g 33 (.tmp 9) rfl rfl (w.heap.size + 1 + 1 + 1 + 1 + 1) 0 rfl es _ Z4 u33 rfl j3 ?_; simp only [Act.put, List.setIfInBounds_toArray, List.set_cons_zero, List.set_cons_succ, World.size_alloc]))
    refine (shared_any cs cs b b h1 h1 _).mono ?_
    rintro e w5 ⟨n5, rfl, s5, b5⟩
    have B5 : Below (w.heap.size + 6) W w5 := B4.trans (b5.mono (by have := B4.size; omega))
    have X5 := range_below B5 (by omega) hX
    have Y5 := range_below B5 (by omega) hY
    have Z5 := range_below B5 (by omega) hZ
    have l5 := s5.le
    clear b5 X4 Y4 Z4
    obtain rfl := s5.self
    go_wp2
    go_ret
    exact ⟨rfl, hwW.trans (B5.mono (by omega))⟩
end Go.Proofs.Qxb6603900a
