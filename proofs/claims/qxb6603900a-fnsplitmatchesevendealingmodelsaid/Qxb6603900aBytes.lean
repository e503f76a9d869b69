import Derived.Test.Qxb6603900aMem
namespace Go.Proofs.Qxb6603900a
open Go.ChangeShapes Go.WideShapes Go.ChangeAt Go.RowKit
set_option linter.unusedSimpArgs false
set_option linter.unusedVariables false

/-- It returns a truth value. -/
def IsB (e : Ending) : Prop := ∃ bb, e = .returned (.bool bb)

/-- The holders' cell of pointer k, behind a new block. -/
theorem row_cells {w : World} {aq : Option Addr} {PS : List PtV} (ms : List Value) (hrow : RowAt w aq PS) (hps : ∀ x ∈ PS, PtC x ∧ x.hs.length ≤ maxLen) :
    Hid (∀ k, k < PS.length → ∃ (x : PtV) (b o : Nat), aq = some ⟨b, o, none⟩ ∧ x.hs.length ≤ 9223372036854775807 ∧ (w.alloc (.cells ms.toArray 27)).cell? ⟨b, o + k * 21 + 20, none⟩ = some (.slice x.a x.hs.length x.cap)) := fun k hk => by
  have hx := List.getElem?_eq_getElem hk
  obtain ⟨b, o, ha, hr⟩ := hrow k _ hx
  obtain ⟨hc, hl⟩ := hps _ (List.mem_of_getElem? hx)
  exact ⟨_, b, o, ha, hl, range_cell (World.rangeAt_alloc hr _) 20 (PtV.cells_hs hc)⟩

set_option maxRecDepth 100000 in
set_option maxHeartbeats 2000000 in
theorem bytes8_any (ms : List Value) (ah ap aq : Option Addr) (lh ch lp cp cq : Nat) (PS : List PtV) (n : Int) (w : World)
    (hH : ms[83]? = some (.slice ah lh ch)) (hP : ms[85]? = some (.slice ap lp cp)) (hQ : ms[86]? = some (.slice aq PS.length cq))
    (mh : lh ≤ maxLen) (mp : lp ≤ maxLen) (mq : PS.length ≤ maxLen) (hrow : RowAt w aq PS) (hps : ∀ x ∈ PS, PtC x ∧ x.hs.length ≤ maxLen) :
    Calls Try.prog 8 #[.agg ms.toArray, .int .i64 n] w fun e w' => IsB e ∧ Below w.heap.size w w' := by
  have HROW := row_cells ms hrow hps
  unfold maxLen at mh mp mq
  have BW : Below w.heap.size w (w.alloc (.cells ms.toArray 27)) := (Below.refl _ _).alloc (Nat.le_refl _) _
  clear hrow hps
  by_cases t0 : (1048576 : Int) < (lh : Int)
  · go_enter Try.func8, Try.ntmps8
    go_wp2
    go_ret
    exact ⟨⟨_, rfl⟩, BW⟩
  · have Z1 : (lh : Int) ≤ 1048576 := by omega
    go_enter Try.func8, Try.ntmps8
    go_wp2
    go_loop [5, 6] (fun zv iv => ∃ (z : Int) (k : Nat), 0 ≤ z ∧ k ≤ lh ∧ z ≤ 1048576 ∧ iv = .int .i64 k ∧ zv = .int .i64 z) (fun _ iv => lh - (intOf iv).toNat)
    case atStart => exact ⟨_, 0, by omega, Nat.zero_le _, Z1, rfl, by go_num⟩
    case round =>
      obtain ⟨z1, k1, nz1, hk1, hz1, rfl, rfl⟩ := hrel
      by_cases l1 : k1 < lh
      · by_cases t1 : (1048576 : Int) < z1 + 20
        · go_wp2
          go_ret
          exact ⟨⟨_, rfl⟩, BW⟩
        · go_wp2
          go_round
          case rel => exact ⟨z1 + 20, k1 + 1, by omega, by omega, by omega, by go_num, by go_num⟩
          case measure => simp [intOf]; omega
      · by_cases t10 : (1048576 : Int) < (lp : Int)
        · go_wp2
          go_ret
          exact ⟨⟨_, rfl⟩, BW⟩
        · by_cases t11 : (1048576 : Int) < z1 + (lp : Int)
          · go_wp2
            go_ret
            exact ⟨⟨_, rfl⟩, BW⟩
          · have Z2 : z1 + (lp : Int) ≤ 1048576 := by omega
            go_wp2
            go_loop [5, 7] (fun zv iv => ∃ (z : Int) (k : Nat), 0 ≤ z ∧ k ≤ lp ∧ z ≤ 1048576 ∧ iv = .int .i64 k ∧ zv = .int .i64 z) (fun _ iv => lp - (intOf iv).toNat)
            case atStart => exact ⟨_, 0, by omega, Nat.zero_le _, Z2, rfl, by go_num⟩
            case round =>
              obtain ⟨z2, k2, nz2, hk2, hz2, rfl, rfl⟩ := hrel
              by_cases l2 : k2 < lp
              · by_cases t2 : (1048576 : Int) < z2 + 20
                · go_wp2
                  go_ret
                  exact ⟨⟨_, rfl⟩, BW⟩
                · go_wp2
                  go_round
                  case rel => exact ⟨z2 + 20, k2 + 1, by omega, by omega, by omega, by go_num, by go_num⟩
                  case measure => simp [intOf]; omega
              · by_cases t20 : (1048576 : Int) < (PS.length : Int)
                · go_wp2
                  go_ret
                  exact ⟨⟨_, rfl⟩, BW⟩
                · by_cases t21 : (1048576 : Int) < z2 + (PS.length : Int)
                  · go_wp2
                    go_ret
                    exact ⟨⟨_, rfl⟩, BW⟩
                  · have Z3 : z2 + (PS.length : Int) ≤ 1048576 := by omega
                    go_wp2
                    go_loop [5, 8] (fun zv iv => ∃ (z : Int) (k : Nat), 0 ≤ z ∧ k ≤ PS.length ∧ z ≤ 1048576 ∧ iv = .int .i64 k ∧ zv = .int .i64 z) (fun _ iv => PS.length - (intOf iv).toNat)
                    case atStart => exact ⟨_, 0, by omega, Nat.zero_le _, Z3, rfl, by go_num⟩
                    case round =>
                      obtain ⟨z3, k3, nz3, hk3, hz3, rfl, rfl⟩ := hrel
                      by_cases l3 : k3 < PS.length
                      · obtain ⟨x, b, o, rfl, hlx, hcx⟩ := HROW.out k3 l3
                        by_cases t3 : (1048576 : Int) < z3 + 20
                        · go_wp2
                          go_ret
                          exact ⟨⟨_, rfl⟩, BW⟩
                        · by_cases t31 : (1048576 : Int) < (x.hs.length : Int)
                          · go_wp2
                            go_ret
                            exact ⟨⟨_, rfl⟩, BW⟩
                          · by_cases t32 : (1048576 : Int) < z3 + 20 + (x.hs.length : Int)
                            · go_wp2
                              go_ret
                              exact ⟨⟨_, rfl⟩, BW⟩
                            · have Z4 : z3 + 20 + (x.hs.length : Int) ≤ 1048576 := by omega
                              go_wp2
                              go_loop [5, 9] (fun zv iv => ∃ (z : Int) (k : Nat), 0 ≤ z ∧ k ≤ x.hs.length ∧ z ≤ 1048576 ∧ iv = .int .i64 k ∧ zv = .int .i64 z) (fun _ iv => x.hs.length - (intOf iv).toNat)
                              case atStart => exact ⟨_, 0, by omega, Nat.zero_le _, Z4, rfl, by go_num⟩
                              case round =>
                                obtain ⟨z4, k4, nz4, hk4, hz4, rfl, rfl⟩ := hrel
                                by_cases l4 : k4 < x.hs.length
                                · by_cases t4 : (1048576 : Int) < z4 + 20
                                  · go_wp2
                                    go_ret
                                    exact ⟨⟨_, rfl⟩, BW⟩
                                  · go_wp2
                                    go_round
                                    case rel => exact ⟨z4 + 20, k4 + 1, by omega, by omega, by omega, by go_num, by go_num⟩
                                    case measure => simp [intOf]; omega
                                · go_wp2
                                  go_round
                                  case rel => exact ⟨z4, k3 + 1, by omega, by omega, by omega, by go_num, rfl⟩
                                  case measure => simp [intOf]; omega
                      · go_wp2
                        go_ret
                        exact ⟨⟨_, rfl⟩, BW⟩

set_option maxRecDepth 100000 in
set_option maxHeartbeats 2000000 in
theorem bytes17_any (ms : List Value) (ah ap aq : Option Addr) (lh ch lp cp cq : Nat) (PS : List PtV) (n : Int) (w : World)
    (hH : ms[83]? = some (.slice ah lh ch)) (hP : ms[85]? = some (.slice ap lp cp)) (hQ : ms[86]? = some (.slice aq PS.length cq))
    (mh : lh ≤ maxLen) (mp : lp ≤ maxLen) (mq : PS.length ≤ maxLen) (hrow : RowAt w aq PS) (hps : ∀ x ∈ PS, PtC x ∧ x.hs.length ≤ maxLen) :
    Calls Try.prog 17 #[.agg ms.toArray, .int .i64 n] w fun e w' => IsB e ∧ Below w.heap.size w w' := by
  have HROW := row_cells ms hrow hps
  unfold maxLen at mh mp mq
  have BW : Below w.heap.size w (w.alloc (.cells ms.toArray 27)) := (Below.refl _ _).alloc (Nat.le_refl _) _
  clear hrow hps
  by_cases t0 : (1048576 : Int) < (lh : Int)
  · go_enter Try.func17, Try.ntmps17
    go_wp2
    go_ret
    exact ⟨⟨_, rfl⟩, BW⟩
  · have Z1 : (lh : Int) ≤ 1048576 := by omega
    go_enter Try.func17, Try.ntmps17
    go_wp2
    go_loop [5, 6] (fun zv iv => ∃ (z : Int) (k : Nat), 0 ≤ z ∧ k ≤ lh ∧ z ≤ 1048576 ∧ iv = .int .i64 k ∧ zv = .int .i64 z) (fun _ iv => lh - (intOf iv).toNat)
    case atStart => exact ⟨_, 0, by omega, Nat.zero_le _, Z1, rfl, by go_num⟩
    case round =>
      obtain ⟨z1, k1, nz1, hk1, hz1, rfl, rfl⟩ := hrel
      by_cases l1 : k1 < lh
      · by_cases t1 : (1048576 : Int) < z1 + 20
        · go_wp2
          go_ret
          exact ⟨⟨_, rfl⟩, BW⟩
        · go_wp2
          go_round
          case rel => exact ⟨z1 + 20, k1 + 1, by omega, by omega, by omega, by go_num, by go_num⟩
          case measure => simp [intOf]; omega
      · by_cases t10 : (1048576 : Int) < (lp : Int)
        · go_wp2
          go_ret
          exact ⟨⟨_, rfl⟩, BW⟩
        · by_cases t11 : (1048576 : Int) < z1 + (lp : Int)
          · go_wp2
            go_ret
            exact ⟨⟨_, rfl⟩, BW⟩
          · have Z2 : z1 + (lp : Int) ≤ 1048576 := by omega
            go_wp2
            go_loop [5, 7] (fun zv iv => ∃ (z : Int) (k : Nat), 0 ≤ z ∧ k ≤ lp ∧ z ≤ 1048576 ∧ iv = .int .i64 k ∧ zv = .int .i64 z) (fun _ iv => lp - (intOf iv).toNat)
            case atStart => exact ⟨_, 0, by omega, Nat.zero_le _, Z2, rfl, by go_num⟩
            case round =>
              obtain ⟨z2, k2, nz2, hk2, hz2, rfl, rfl⟩ := hrel
              by_cases l2 : k2 < lp
              · by_cases t2 : (1048576 : Int) < z2 + 20
                · go_wp2
                  go_ret
                  exact ⟨⟨_, rfl⟩, BW⟩
                · go_wp2
                  go_round
                  case rel => exact ⟨z2 + 20, k2 + 1, by omega, by omega, by omega, by go_num, by go_num⟩
                  case measure => simp [intOf]; omega
              · by_cases t20 : (1048576 : Int) < (PS.length : Int)
                · go_wp2
                  go_ret
                  exact ⟨⟨_, rfl⟩, BW⟩
                · by_cases t21 : (1048576 : Int) < z2 + (PS.length : Int)
                  · go_wp2
                    go_ret
                    exact ⟨⟨_, rfl⟩, BW⟩
                  · have Z3 : z2 + (PS.length : Int) ≤ 1048576 := by omega
                    go_wp2
                    go_loop [5, 8] (fun zv iv => ∃ (z : Int) (k : Nat), 0 ≤ z ∧ k ≤ PS.length ∧ z ≤ 1048576 ∧ iv = .int .i64 k ∧ zv = .int .i64 z) (fun _ iv => PS.length - (intOf iv).toNat)
                    case atStart => exact ⟨_, 0, by omega, Nat.zero_le _, Z3, rfl, by go_num⟩
                    case round =>
                      obtain ⟨z3, k3, nz3, hk3, hz3, rfl, rfl⟩ := hrel
                      by_cases l3 : k3 < PS.length
                      · obtain ⟨x, b, o, rfl, hlx, hcx⟩ := HROW.out k3 l3
                        by_cases t3 : (1048576 : Int) < z3 + 20
                        · go_wp2
                          go_ret
                          exact ⟨⟨_, rfl⟩, BW⟩
                        · by_cases t31 : (1048576 : Int) < (x.hs.length : Int)
                          · go_wp2
                            go_ret
                            exact ⟨⟨_, rfl⟩, BW⟩
                          · by_cases t32 : (1048576 : Int) < z3 + 20 + (x.hs.length : Int)
                            · go_wp2
                              go_ret
                              exact ⟨⟨_, rfl⟩, BW⟩
                            · have Z4 : z3 + 20 + (x.hs.length : Int) ≤ 1048576 := by omega
                              go_wp2
                              go_loop [5, 9] (fun zv iv => ∃ (z : Int) (k : Nat), 0 ≤ z ∧ k ≤ x.hs.length ∧ z ≤ 1048576 ∧ iv = .int .i64 k ∧ zv = .int .i64 z) (fun _ iv => x.hs.length - (intOf iv).toNat)
                              case atStart => exact ⟨_, 0, by omega, Nat.zero_le _, Z4, rfl, by go_num⟩
                              case round =>
                                obtain ⟨z4, k4, nz4, hk4, hz4, rfl, rfl⟩ := hrel
                                by_cases l4 : k4 < x.hs.length
                                · by_cases t4 : (1048576 : Int) < z4 + 20
                                  · go_wp2
                                    go_ret
                                    exact ⟨⟨_, rfl⟩, BW⟩
                                  · go_wp2
                                    go_round
                                    case rel => exact ⟨z4 + 20, k4 + 1, by omega, by omega, by omega, by go_num, by go_num⟩
                                    case measure => simp [intOf]; omega
                                · go_wp2
                                  go_round
                                  case rel => exact ⟨z4, k3 + 1, by omega, by omega, by omega, by go_num, rfl⟩
                                  case measure => simp [intOf]; omega
                      · go_wp2
                        go_ret
                        exact ⟨⟨_, rfl⟩, BW⟩

set_option maxRecDepth 100000 in
set_option maxHeartbeats 2000000 in
theorem bytes18_any (ms : List Value) (ah ap aq : Option Addr) (lh ch lp cp cq : Nat) (PS : List PtV) (n : Int) (w : World)
    (hH : ms[83]? = some (.slice ah lh ch)) (hP : ms[85]? = some (.slice ap lp cp)) (hQ : ms[86]? = some (.slice aq PS.length cq))
    (mh : lh ≤ maxLen) (mp : lp ≤ maxLen) (mq : PS.length ≤ maxLen) (hrow : RowAt w aq PS) (hps : ∀ x ∈ PS, PtC x ∧ x.hs.length ≤ maxLen) :
    Calls Try.prog 18 #[.agg ms.toArray, .int .i64 n] w fun e w' => IsB e ∧ Below w.heap.size w w' := by
  have HROW := row_cells ms hrow hps
  unfold maxLen at mh mp mq
  have BW : Below w.heap.size w (w.alloc (.cells ms.toArray 27)) := (Below.refl _ _).alloc (Nat.le_refl _) _
  clear hrow hps
  by_cases t0 : (1048576 : Int) < (lh : Int)
  · go_enter Try.func18, Try.ntmps18
    go_wp2
    go_ret
    exact ⟨⟨_, rfl⟩, BW⟩
  · have Z1 : (lh : Int) ≤ 1048576 := by omega
    go_enter Try.func18, Try.ntmps18
    go_wp2
    go_loop [5, 6] (fun zv iv => ∃ (z : Int) (k : Nat), 0 ≤ z ∧ k ≤ lh ∧ z ≤ 1048576 ∧ iv = .int .i64 k ∧ zv = .int .i64 z) (fun _ iv => lh - (intOf iv).toNat)
    case atStart => exact ⟨_, 0, by omega, Nat.zero_le _, Z1, rfl, by go_num⟩
    case round =>
      obtain ⟨z1, k1, nz1, hk1, hz1, rfl, rfl⟩ := hrel
      by_cases l1 : k1 < lh
      · by_cases t1 : (1048576 : Int) < z1 + 20
        · go_wp2
          go_ret
          exact ⟨⟨_, rfl⟩, BW⟩
        · go_wp2
          go_round
          case rel => exact ⟨z1 + 20, k1 + 1, by omega, by omega, by omega, by go_num, by go_num⟩
          case measure => simp [intOf]; omega
      · by_cases t10 : (1048576 : Int) < (lp : Int)
        · go_wp2
          go_ret
          exact ⟨⟨_, rfl⟩, BW⟩
        · by_cases t11 : (1048576 : Int) < z1 + (lp : Int)
          · go_wp2
            go_ret
            exact ⟨⟨_, rfl⟩, BW⟩
          · have Z2 : z1 + (lp : Int) ≤ 1048576 := by omega
            go_wp2
            go_loop [5, 7] (fun zv iv => ∃ (z : Int) (k : Nat), 0 ≤ z ∧ k ≤ lp ∧ z ≤ 1048576 ∧ iv = .int .i64 k ∧ zv = .int .i64 z) (fun _ iv => lp - (intOf iv).toNat)
            case atStart => exact ⟨_, 0, by omega, Nat.zero_le _, Z2, rfl, by go_num⟩
            case round =>
              obtain ⟨z2, k2, nz2, hk2, hz2, rfl, rfl⟩ := hrel
              by_cases l2 : k2 < lp
              · by_cases t2 : (1048576 : Int) < z2 + 20
                · go_wp2
                  go_ret
                  exact ⟨⟨_, rfl⟩, BW⟩
                · go_wp2
                  go_round
                  case rel => exact ⟨z2 + 20, k2 + 1, by omega, by omega, by omega, by go_num, by go_num⟩
                  case measure => simp [intOf]; omega
              · by_cases t20 : (1048576 : Int) < (PS.length : Int)
                · go_wp2
                  go_ret
                  exact ⟨⟨_, rfl⟩, BW⟩
                · by_cases t21 : (1048576 : Int) < z2 + (PS.length : Int)
                  · go_wp2
                    go_ret
                    exact ⟨⟨_, rfl⟩, BW⟩
                  · have Z3 : z2 + (PS.length : Int) ≤ 1048576 := by omega
                    go_wp2
                    go_loop [5, 8] (fun zv iv => ∃ (z : Int) (k : Nat), 0 ≤ z ∧ k ≤ PS.length ∧ z ≤ 1048576 ∧ iv = .int .i64 k ∧ zv = .int .i64 z) (fun _ iv => PS.length - (intOf iv).toNat)
                    case atStart => exact ⟨_, 0, by omega, Nat.zero_le _, Z3, rfl, by go_num⟩
                    case round =>
                      obtain ⟨z3, k3, nz3, hk3, hz3, rfl, rfl⟩ := hrel
                      by_cases l3 : k3 < PS.length
                      · obtain ⟨x, b, o, rfl, hlx, hcx⟩ := HROW.out k3 l3
                        by_cases t3 : (1048576 : Int) < z3 + 20
                        · go_wp2
                          go_ret
                          exact ⟨⟨_, rfl⟩, BW⟩
                        · by_cases t31 : (1048576 : Int) < (x.hs.length : Int)
                          · go_wp2
                            go_ret
                            exact ⟨⟨_, rfl⟩, BW⟩
                          · by_cases t32 : (1048576 : Int) < z3 + 20 + (x.hs.length : Int)
                            · go_wp2
                              go_ret
                              exact ⟨⟨_, rfl⟩, BW⟩
                            · have Z4 : z3 + 20 + (x.hs.length : Int) ≤ 1048576 := by omega
                              go_wp2
                              go_loop [5, 9] (fun zv iv => ∃ (z : Int) (k : Nat), 0 ≤ z ∧ k ≤ x.hs.length ∧ z ≤ 1048576 ∧ iv = .int .i64 k ∧ zv = .int .i64 z) (fun _ iv => x.hs.length - (intOf iv).toNat)
                              case atStart => exact ⟨_, 0, by omega, Nat.zero_le _, Z4, rfl, by go_num⟩
                              case round =>
                                obtain ⟨z4, k4, nz4, hk4, hz4, rfl, rfl⟩ := hrel
                                by_cases l4 : k4 < x.hs.length
                                · by_cases t4 : (1048576 : Int) < z4 + 20
                                  · go_wp2
                                    go_ret
                                    exact ⟨⟨_, rfl⟩, BW⟩
                                  · go_wp2
                                    go_round
                                    case rel => exact ⟨z4 + 20, k4 + 1, by omega, by omega, by omega, by go_num, by go_num⟩
                                    case measure => simp [intOf]; omega
                                · go_wp2
                                  go_round
                                  case rel => exact ⟨z4, k3 + 1, by omega, by omega, by omega, by go_num, rfl⟩
                                  case measure => simp [intOf]; omega
                      · go_wp2
                        go_ret
                        exact ⟨⟨_, rfl⟩, BW⟩

end Go.Proofs.Qxb6603900a
