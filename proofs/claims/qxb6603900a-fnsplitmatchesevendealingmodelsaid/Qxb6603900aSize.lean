import Derived.Test.Qxb6603900aMem
namespace Go.Proofs.Qxb6603900a
open Go.ChangeShapes Go.WideShapes Go.ChangeAt Go.RowKit
set_option linter.unusedSimpArgs false
set_option linter.unusedVariables false

/-- How many holders the first k pointers have. -/
def totTo (PS : List PtV) : Nat → Nat
  | 0 => 0
  | k + 1 => totTo PS k + ((PS[k]?.map (·.hs.length)).getD 0)
theorem totTo_succ {PS : List PtV} {k : Nat} {x : PtV} (h : PS[k]? = some x) : totTo PS (k + 1) = totTo PS k + x.hs.length := by
  show totTo PS k + ((PS[k]?.map (·.hs.length)).getD 0) = _
  rw [h]; rfl

/-- What zzMsgSize answers. -/
def SizeOut (e : Ending) (lh lp : Nat) (PS : List PtV) : Prop :=
  e = .returned (.tuple #[.int .i64 0, .bool false]) ∨
  (e = .returned (.tuple #[.int .i64 (totTo PS PS.length : Nat), .bool true]) ∧ lh ≤ 65536 ∧ lp ≤ 65536 ∧ PS.length ≤ 65536 ∧ (∀ (j : Nat) (x : PtV), PS[j]? = some x → x.hs.length ≤ 65536) ∧ totTo PS PS.length ≤ 32768)

theorem row_cells_at {w : World} {aq : Option Addr} {PS : List PtV} (ms : List Value) (hrow : RowAt w aq PS) (hps : ∀ x ∈ PS, PtC x ∧ x.hs.length ≤ maxLen) :
    Hid (∀ k, k < PS.length → ∃ (x : PtV) (b o : Nat), PS[k]? = some x ∧ aq = some ⟨b, o, none⟩ ∧ x.hs.length ≤ 9223372036854775807 ∧ (w.alloc (.cells ms.toArray 27)).cell? ⟨b, o + k * 21 + 20, none⟩ = some (.slice x.a x.hs.length x.cap)) := fun k hk => by
  have hx := List.getElem?_eq_getElem hk
  obtain ⟨b, o, ha, hr⟩ := hrow k _ hx
  obtain ⟨hc, hl⟩ := hps _ (List.mem_of_getElem? hx)
  exact ⟨_, b, o, hx, ha, hl, range_cell (World.rangeAt_alloc hr _) 20 (PtV.cells_hs hc)⟩

set_option maxRecDepth 100000 in
set_option maxHeartbeats 2000000 in
theorem size_any (ms : List Value) (ah ap aq : Option Addr) (lh ch lp cp cq : Nat) (PS : List PtV) (w : World)
    (hH : ms[83]? = some (.slice ah lh ch)) (hP : ms[85]? = some (.slice ap lp cp)) (hQ : ms[86]? = some (.slice aq PS.length cq))
    (mh : lh ≤ maxLen) (mp : lp ≤ maxLen) (mq : PS.length ≤ maxLen) (hrow : RowAt w aq PS) (hps : ∀ x ∈ PS, PtC x ∧ x.hs.length ≤ maxLen) :
    Calls Try.prog 9 #[.agg ms.toArray] w fun e w' => SizeOut e lh lp PS ∧ Below w.heap.size w w' := by
  have HROW := row_cells_at ms hrow hps
  unfold maxLen at mh mp mq
  have BW : Below w.heap.size w (w.alloc (.cells ms.toArray 27)) := (Below.refl _ _).alloc (Nat.le_refl _) _
  clear hrow hps
  by_cases a1 : (65536 : Int) < (lh : Int)
  · go_enter Try.func9, Try.ntmps9
    go_wp2
    go_ret2
    exact ⟨Or.inl rfl, BW⟩
  by_cases a2 : (65536 : Int) < (lp : Int)
  · go_enter Try.func9, Try.ntmps9
    go_wp2
    go_ret2
    exact ⟨Or.inl rfl, BW⟩
  by_cases a3 : (65536 : Int) < (PS.length : Int)
  · go_enter Try.func9, Try.ntmps9
    go_wp2
    go_ret2
    exact ⟨Or.inl rfl, BW⟩
  by_cases a4 : (1048576 : Int) < 20 * (lh : Int) + 20 * (lp : Int) + 44 * (PS.length : Int)
  · go_enter Try.func9, Try.ntmps9
    go_wp2
    go_ret2
    exact ⟨Or.inl rfl, BW⟩
  go_enter Try.func9, Try.ntmps9
  go_wp2
  go_loop [4, 5, 6] (fun sv tv kv => ∃ (z : Int) (k : Nat), k ≤ PS.length ∧ z ≤ 1048576 ∧ 20 * (totTo PS k : Int) ≤ z ∧ (∀ (j : Nat) (x : PtV), j < k → PS[j]? = some x → x.hs.length ≤ 65536) ∧ sv = .int .i64 z ∧ tv = .int .i64 (totTo PS k : Nat) ∧ kv = .int .i64 k) (fun _ _ kv => PS.length - (intOf kv).toNat)
  case atStart => exact ⟨_, 0, Nat.zero_le _, by omega, by show 20 * ((0 : Nat) : Int) ≤ _; omega, fun j x hj => absurd hj (Nat.not_lt_zero _), rfl, rfl, rfl⟩
  case round =>
    obtain ⟨z, k, hk, hz, hzt, hall, rfl, rfl, rfl⟩ := hrel
    have HA : Hid (∀ (j : Nat) (x : PtV), j < k → PS[j]? = some x → x.hs.length ≤ 65536) := hall
    clear hall
    have ht0 : (0 : Int) ≤ (totTo PS k : Int) := by omega
    by_cases lk : k < PS.length
    · obtain ⟨x, b, o, hx, rfl, hlx, hcx⟩ := HROW.out k lk
      have HT : Hid (totTo PS (k + 1) = totTo PS k + x.hs.length) := totTo_succ hx
      have HX : Hid (PS[k]? = some x) := hx
      clear hx
      generalize hT : totTo PS k = T at *
      clear hT
      by_cases t1 : (65536 : Int) < (x.hs.length : Int)
      · go_wp2
        go_ret2
        exact ⟨Or.inl rfl, BW⟩
      · by_cases t2 : (1048576 : Int) < z + 20 * (x.hs.length : Int)
        · go_wp2
          go_ret2
          exact ⟨Or.inl rfl, BW⟩
        · go_wp2
          go_round
          case rel => exact ⟨z + 20 * (x.hs.length : Int), k + 1, by omega, by omega, by rw [HT.out]; omega, fun j y hj hy => by
            rcases Nat.lt_succ_iff_lt_or_eq.1 hj with h1 | h1
            · exact HA.out j y h1 hy
            · subst h1
              rw [HX.out] at hy
              simp at hy
              subst hy
              omega, by go_num, by rw [HT.out]; go_num, by go_num⟩
          case measure => simp [intOf]; omega
    · have hke : k = PS.length := by omega
      have HE : Hid (totTo PS k = totTo PS PS.length) := by show _ = _; rw [hke]
      generalize hT : totTo PS k = T at *
      clear hT
      by_cases t3 : (32768 : Int) < (T : Int)
      · go_wp2
        go_ret2
        exact ⟨Or.inl rfl, BW⟩
      · go_wp2
        go_ret2
        refine ⟨Or.inr ⟨by rw [← HE.out]; rfl, by omega, by omega, by omega, fun j x hx => HA.out j x ?_ hx, by rw [← HE.out]; omega⟩, BW⟩
        have := (List.getElem?_eq_some_iff.1 hx).1
        omega
end Go.Proofs.Qxb6603900a
