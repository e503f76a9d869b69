import Derived.Test.Qxb6603900aHeld
namespace Go.Proofs.Qxb6603900a
open Go.ChangeShapes Go.WideShapes Go.ChangeAt Go.RowKit
set_option linter.unusedSimpArgs false

/-- The twenty cells of an ID, byte i being 'b i'. -/
structure IsID (cs : List Value) (b : Nat → Int) : Prop where
  size : cs.length = 20
  cell : ∀ i, i < 20 → cs[i]? = some (.int .u8 (b i))
  lo : ∀ i, 0 ≤ b i
  hi : ∀ i, b i ≤ 255

/-- Digit i of an ID with the bytes b. -/
def dig (b : Nat → Int) (i : Nat) : Int := if i % 2 = 0 then b (i / 2) / 16 else b (i / 2) % 16

theorem and15 (x : Int) (h0 : 0 ≤ x) (h1 : x ≤ 255) : bits .and .i64 x 15 = x % 16 := by
  obtain ⟨n, rfl⟩ := Int.eq_ofNat_of_zero_le h0
  have key : ∀ n : Fin 256, bits .and .i64 ((n.val : Nat) : Int) 15 = ((n.val : Nat) : Int) % 16 := by decide +kernel
  exact key ⟨n, by omega⟩

set_option maxHeartbeats 400000 in
theorem digit_even (cs : List Value) (b : Nat → Int) (h : IsID cs b) (k : Nat) (hk : k < 20) (w : World) :
    Calls Try.prog 20 #[.agg cs.toArray, .int .i64 (2 * k : Int)] w fun e w' => e = .returned (.int .i64 (b k / 16)) ∧ w' = w.alloc (.cells cs.toArray 33) := by
  have hc : cs[2 * k * 4 / 8]? = some (.int .u8 (b k)) := by rw [show 2 * k * 4 / 8 = k from by omega]; exact h.cell k hk
  have h1 := h.lo k
  have h2 := h.hi k
  clear h
  have hk' : (k : Int) < 20 := by omega
  have he : 2 * (k : Int) * 4 % 8 = 0 := by omega
  go_enter Try.func20, Try.ntmps20
  go_wp2
  go_ret
  exact ⟨ret_int (by rw [and15 _ (by omega) (by omega)]; omega), rfl⟩
set_option maxHeartbeats 400000 in
theorem digit_odd (cs : List Value) (b : Nat → Int) (h : IsID cs b) (k : Nat) (hk : k < 20) (w : World) :
    Calls Try.prog 20 #[.agg cs.toArray, .int .i64 (2 * k + 1 : Int)] w fun e w' => e = .returned (.int .i64 (b k % 16)) ∧ w' = w.alloc (.cells cs.toArray 33) := by
  have hc : cs[(2 * k + 1) * 4 / 8]? = some (.int .u8 (b k)) := by rw [show (2 * k + 1) * 4 / 8 = k from by omega]; exact h.cell k hk
  have h1 := h.lo k
  have h2 := h.hi k
  clear h
  have hk' : (k : Int) < 20 := by omega
  have he : (2 * (k : Int) + 1) * 4 % 8 = 4 := by omega
  go_enter Try.func20, Try.ntmps20
  go_wp2
  go_ret
  exact ⟨ret_int (by rw [and15 _ (by omega) (by omega)]), rfl⟩

/-- (ID).Digit: the digit, and one new block. -/
theorem digit_any (cs : List Value) (b : Nat → Int) (h : IsID cs b) (i : Nat) (hi : i < 40) (w : World) :
    Calls Try.prog 20 #[.agg cs.toArray, .int .i64 (i : Int)] w fun e w' => e = .returned (.int .i64 (dig b i)) ∧ w' = w.alloc (.cells cs.toArray 33) := by
  unfold dig
  rcases Nat.mod_two_eq_zero_or_one i with h0 | h0
  · rw [if_pos h0]
    have := digit_even cs b h (i / 2) (by omega) w
    rwa [show (2 * ((i / 2 : Nat) : Int)) = (i : Int) from by omega] at this
  · rw [if_neg (by omega)]
    have := digit_odd cs b h (i / 2) (by omega) w
    rwa [show (2 * ((i / 2 : Nat) : Int) + 1) = (i : Int) from by omega] at this

/-- n is the number of leading digits that b and c share. -/
structure IsSh (b c : Nat → Int) (n : Nat) : Prop where
  le : n ≤ 40
  same : ∀ j, j < n → dig b j = dig c j
  parts : n < 40 → dig b n ≠ dig c n

theorem Try.info33 : (Try.prog.info? 33).map (·.size) = some 20 := by kernel_rfl

theorem dig_same {b c : Nat → Int} {k : Nat} (h : ∀ j, j < k → b j = c j) : ∀ j, j < 2 * k → dig b j = dig c j := fun j hj => by
  unfold dig; rw [h (j / 2) (by omega)]

theorem held_two {W : World} {B : Nat} {cs ds : List Value} (h1 : W.rangeAt B 0 cs) (h2 : W.rangeAt (B + 1) 0 ds) {w' : World} (h : Below (B + 2) W w') :
    w'.rangeAt B 0 cs ∧ w'.rangeAt (B + 1) 0 ds ∧ Below (B + 2) W w' := ⟨range_below h (by omega) h1, range_below h (by omega) h2, h⟩

set_option maxHeartbeats 1000000 in
theorem shared_any (cs ds : List Value) (b c : Nat → Int) (h : IsID cs b) (h' : IsID ds c) (w : World) :
    Calls Try.prog 19 #[.agg cs.toArray, .agg ds.toArray] w fun e w' => ∃ n : Nat, e = .returned (.int .i64 (n : Int)) ∧ IsSh b c n ∧ Below w.heap.size w w' := by
  go_enter Try.func19, Try.ntmps19
  go_wp2_with fail
  obtain ⟨W, hW⟩ : ∃ W, W = (w.alloc (.cells cs.toArray 33)).alloc (.cells ds.toArray 33) := ⟨_, rfl⟩
  rw [← hW]
  have hsz : W.heap.size = w.heap.size + 2 := by rw [hW]; simp
  have hwW : Below w.heap.size w W := by rw [hW]; exact ((Below.refl _ _).alloc (Nat.le_refl _) _).alloc (by simp) _
  have hr1 : W.rangeAt w.heap.size 0 cs := by rw [hW]; exact World.rangeAt_alloc (range_new w cs 33) _
  have hr2 : W.rangeAt (w.heap.size + 1) 0 ds := by rw [hW]; have := range_new (w.alloc (.cells cs.toArray 33)) ds 33; simpa using this
  clear hW
  go_loopw [5] (fun i wr => ∃ k : Nat, k ≤ 20 ∧ i = .int .i64 k ∧ (∀ j, j < k → b j = c j) ∧ Below (w.heap.size + 2) W wr) (fun i _ => 20 - (intOf i).toNat)
  case atStart => exact ⟨0, Nat.zero_le _, rfl, fun j hj => absurd hj (Nat.not_lt_zero _), Below.refl _ _⟩
  case round =>
    obtain ⟨k, hk, rfl, hall, hbl⟩ := hrel
    have hlen1 := h.size
    have hlen2 := h'.size
    have ext : (∃ hlt : k < 20, b k = c k) ∨ (∃ hlt : k < 20, b k ≠ c k) ∨ k = 20 := by
      by_cases hlt : k < 20
      · by_cases he : b k = c k
        · exact Or.inl ⟨hlt, he⟩
        · exact Or.inr (Or.inl ⟨hlt, he⟩)
      · exact Or.inr (Or.inr (by omega))
    rcases ext with ⟨hlt, he⟩ | hext
    · have hc1 : wr.cell? ⟨w.heap.size, k, none⟩ = some (.int .u8 (b k)) := by
        rw [hbl.cell (p := ⟨w.heap.size, k, none⟩) (by simp)]; have := hr1 k _ (h.cell k hlt); simpa using this
      have hc2 : wr.cell? ⟨w.heap.size + 1, k, none⟩ = some (.int .u8 (b k)) := by
        rw [hbl.cell (p := ⟨w.heap.size + 1, k, none⟩) (by simp), he]; have := hr2 k _ (h'.cell k hlt); simpa using this
      have hlt' : (k : Int) < 20 := by omega
      have HA : Hid (∀ j, j < k → b j = c j) := hall
      have HE : Hid (b k = c k) := he
      clear hall he h h' hr1 hr2
      go_wp2
      go_quiet (fail)
      go_wp2
      go_roundw
      case rel => exact ⟨k + 1, by omega, by go_num, fun j hj => by rcases Nat.lt_succ_iff_lt_or_eq.1 hj with h1 | h1; exact HA.out j h1; subst h1; exact HE.out, below_drewN hbl _⟩
      case measure => simp [intOf]; omega
    · rcases hext with ⟨hlt, he⟩ | h20
      · have hc1 : wr.cell? ⟨w.heap.size, k, none⟩ = some (.int .u8 (b k)) := by
          rw [hbl.cell (p := ⟨w.heap.size, k, none⟩) (by simp)]; have := hr1 k _ (h.cell k hlt); simpa using this
        have hc2 : wr.cell? ⟨w.heap.size + 1, k, none⟩ = some (.int .u8 (c k)) := by
          rw [hbl.cell (p := ⟨w.heap.size + 1, k, none⟩) (by simp)]; have := hr2 k _ (h'.cell k hlt); simpa using this
        have hlt' : (k : Int) < 20 := by omega
        have hne : (b k == c k) = false := by simpa using he
        have HA : Hid (∀ j, j < k → b j = c j) := hall
        clear hall he
        go_wp2
        go_quiet (fail)
        go_wp2
        clear hc1 hc2 hlt' hne
        have hbl' := below_drewN hbl nq
        clear hbl
        generalize wr.drewN nq = wr1 at *
        go_loopw [6] (fun i wr => ∃ k : Nat, k ≤ 40 ∧ i = .int .i64 k ∧ (∀ j, j < k → dig b j = dig c j) ∧ Below (w.heap.size + 2) W wr) (fun i _ => 40 - (intOf i).toNat)
        case atStart => exact ⟨2 * k, by omega, by go_num, dig_same HA.out, hbl'⟩
        case round =>
          obtain ⟨m, hm, rfl, hsame, hb2⟩ := hrel
          have HA2 : Hid (∀ j, j < m → dig b j = dig c j) := hsame
          have HW : Hid (∀ j, j < k → b j = c j) := HA
          clear hsame HA
          by_cases hlt : m < 40
          · have hlt' : (m : Int) < 40 := by omega
            have hu33 := Try.underlying33
            have hi1 : (Try.prog.info? 33).map (·.size) = some cs.length := by rw [hlen1]; exact Try.info33
            have hi2 : (Try.prog.info? 33).map (·.size) = some ds.length := by rw [hlen2]; exact Try.info33
            by_cases he : dig b m = dig c m
            · have hq : (dig b m == dig c m) = true := by simpa using he
              have HE : Hid (dig b m = dig c m) := he
              clear he
              go_wp2
              refine wp_region_Hw (S := fun w' => Below (w.heap.size + 2) W w') [(0, true), (1, true), (2, true), (3, true), (4, true), (6, true), (7, true), (5, false), (8, false), (9, true), (10, true)] (by kernel_rfl) (by kernel_rfl) rfl (by kernel_rfl) (fun _ _ _ _ h => h) hb2.drew (fun hHeld => ?_)
              simp only [pick, List.map_cons, List.map_nil, Array.getD_eq_getD_getElem?, List.getElem?_toArray, List.getElem?_cons_zero, List.getElem?_cons_succ, Option.getD_some]
              refine hw_move _ rfl rfl ?_
              simp only [Act.put, Act.eval, List.setIfInBounds_toArray, List.set_cons_zero, List.set_cons_succ, Array.getD_eq_getD_getElem?, List.getElem?_toArray, List.getElem?_cons_zero, List.getElem?_cons_succ, Option.getD_some]
              refine hw_ex rfl ?_; apply Exists.intro; refine ⟨fun w hSw => ?_, ?_⟩; (go_simp; first | done | (with_reducible rfl))
              simp only [Act.put, Act.eval, List.setIfInBounds_toArray, List.set_cons_zero, List.set_cons_succ, Array.getD_eq_getD_getElem?, List.getElem?_toArray, List.getElem?_cons_zero, List.getElem?_cons_succ, Option.getD_some]
              refine hw_move _ rfl rfl ?_
              simp only [Act.put, Act.eval, List.setIfInBounds_toArray, List.set_cons_zero, List.set_cons_succ, Array.getD_eq_getD_getElem?, List.getElem?_toArray, List.getElem?_cons_zero, List.getElem?_cons_succ, Option.getD_some]
              refine hw_load _ _ rfl rfl w.heap.size 0 rfl cs _ (fun w' h' => range_below h' (by omega) hr1) hu33 rfl hi1 ?_
              simp only [Act.put, Act.eval, List.setIfInBounds_toArray, List.set_cons_zero, List.set_cons_succ, Array.getD_eq_getD_getElem?, List.getElem?_toArray, List.getElem?_cons_zero, List.getElem?_cons_succ, Option.getD_some]
              refine hw_move _ rfl rfl ?_
              simp only [Act.put, Act.eval, List.setIfInBounds_toArray, List.set_cons_zero, List.set_cons_succ, Array.getD_eq_getD_getElem?, List.getElem?_toArray, List.getElem?_cons_zero, List.getElem?_cons_succ, Option.getD_some]
              refine hw_load _ _ rfl rfl (w.heap.size + 1) 0 rfl ds _ (fun w' h' => range_below h' (by omega) hr2) hu33 rfl hi2 ?_
              simp only [Act.put, Act.eval, List.setIfInBounds_toArray, List.set_cons_zero, List.set_cons_succ, Array.getD_eq_getD_getElem?, List.getElem?_toArray, List.getElem?_cons_zero, List.getElem?_cons_succ, Option.getD_some]
              refine hw_move _ rfl rfl ?_
              simp only [Act.put, Act.eval, List.setIfInBounds_toArray, List.set_cons_zero, List.set_cons_succ, Array.getD_eq_getD_getElem?, List.getElem?_toArray, List.getElem?_cons_zero, List.getElem?_cons_succ, Option.getD_some]
              refine hw_do rfl (fun K hK => ?_)
              go_wp2_with (go_at_call 20; refine (digit_any cs b h m hlt _).mono ?_; rintro e w' ⟨rfl, rfl⟩)
              refine hK.out _ _ (by repeat (first | exact hb2 | refine Below.drew ?_ | refine belowA ?_ (by omega) _)) (fun hHeld => ?_)
              clear hK K
              refine hw_do rfl (fun K hK => ?_)
              go_wp2_with (go_at_call 20; refine (digit_any ds c h' m hlt _).mono ?_; rintro e w' ⟨rfl, rfl⟩)
              refine hK.out _ _ (by repeat (first | exact hb2 | refine Below.drew ?_ | refine belowA ?_ (by omega) _)) (fun hHeld => ?_)
              clear hK K
              refine hw_ex rfl ?_; apply Exists.intro; refine ⟨fun w hSw => ?_, ?_⟩; (go_simp; first | done | (with_reducible rfl))
              simp only [Act.put, Act.eval, List.setIfInBounds_toArray, List.set_cons_zero, List.set_cons_succ, Array.getD_eq_getD_getElem?, List.getElem?_toArray, List.getElem?_cons_zero, List.getElem?_cons_succ, Option.getD_some]
              refine hw_ex rfl ?_; apply Exists.intro; refine ⟨fun w hSw => ?_, ?_⟩; (go_simp; first | done | (with_reducible rfl))
              simp only [Act.put, Act.eval, List.setIfInBounds_toArray, List.set_cons_zero, List.set_cons_succ, Array.getD_eq_getD_getElem?, List.getElem?_toArray, List.getElem?_cons_zero, List.getElem?_cons_succ, Option.getD_some]
              refine hw_nil ?_
              go_wp2
              go_roundw
              case rel => exact ⟨m + 1, by omega, by go_num, fun j hj => by rcases Nat.lt_succ_iff_lt_or_eq.1 hj with h1 | h1; exact HA2.out j h1; subst h1; exact HE.out, by repeat (first | exact hb2 | refine Below.drew ?_ | refine belowA ?_ (by omega) _)⟩
              case measure => simp [intOf]; omega
            · have hq : (dig b m == dig c m) = false := by simpa using he
              have HE : Hid (dig b m ≠ dig c m) := he
              clear he
              go_wp2
              refine wp_region_Hw (S := fun w' => Below (w.heap.size + 2) W w') [(0, true), (1, true), (2, true), (3, true), (4, true), (6, true), (7, true), (5, false), (8, false), (9, true), (10, true)] (by kernel_rfl) (by kernel_rfl) rfl (by kernel_rfl) (fun _ _ _ _ h => h) hb2.drew (fun hHeld => ?_)
              simp only [pick, List.map_cons, List.map_nil, Array.getD_eq_getD_getElem?, List.getElem?_toArray, List.getElem?_cons_zero, List.getElem?_cons_succ, Option.getD_some]
              refine hw_move _ rfl rfl ?_
              simp only [Act.put, Act.eval, List.setIfInBounds_toArray, List.set_cons_zero, List.set_cons_succ, Array.getD_eq_getD_getElem?, List.getElem?_toArray, List.getElem?_cons_zero, List.getElem?_cons_succ, Option.getD_some]
              refine hw_ex rfl ?_; apply Exists.intro; refine ⟨fun w hSw => ?_, ?_⟩; (go_simp; first | done | (with_reducible rfl))
              simp only [Act.put, Act.eval, List.setIfInBounds_toArray, List.set_cons_zero, List.set_cons_succ, Array.getD_eq_getD_getElem?, List.getElem?_toArray, List.getElem?_cons_zero, List.getElem?_cons_succ, Option.getD_some]
              refine hw_move _ rfl rfl ?_
              simp only [Act.put, Act.eval, List.setIfInBounds_toArray, List.set_cons_zero, List.set_cons_succ, Array.getD_eq_getD_getElem?, List.getElem?_toArray, List.getElem?_cons_zero, List.getElem?_cons_succ, Option.getD_some]
              refine hw_load _ _ rfl rfl w.heap.size 0 rfl cs _ (fun w' h' => range_below h' (by omega) hr1) hu33 rfl hi1 ?_
              simp only [Act.put, Act.eval, List.setIfInBounds_toArray, List.set_cons_zero, List.set_cons_succ, Array.getD_eq_getD_getElem?, List.getElem?_toArray, List.getElem?_cons_zero, List.getElem?_cons_succ, Option.getD_some]
              refine hw_move _ rfl rfl ?_
              simp only [Act.put, Act.eval, List.setIfInBounds_toArray, List.set_cons_zero, List.set_cons_succ, Array.getD_eq_getD_getElem?, List.getElem?_toArray, List.getElem?_cons_zero, List.getElem?_cons_succ, Option.getD_some]
              refine hw_load _ _ rfl rfl (w.heap.size + 1) 0 rfl ds _ (fun w' h' => range_below h' (by omega) hr2) hu33 rfl hi2 ?_
              simp only [Act.put, Act.eval, List.setIfInBounds_toArray, List.set_cons_zero, List.set_cons_succ, Array.getD_eq_getD_getElem?, List.getElem?_toArray, List.getElem?_cons_zero, List.getElem?_cons_succ, Option.getD_some]
              refine hw_move _ rfl rfl ?_
              simp only [Act.put, Act.eval, List.setIfInBounds_toArray, List.set_cons_zero, List.set_cons_succ, Array.getD_eq_getD_getElem?, List.getElem?_toArray, List.getElem?_cons_zero, List.getElem?_cons_succ, Option.getD_some]
              refine hw_do rfl (fun K hK => ?_)
              go_wp2_with (go_at_call 20; refine (digit_any cs b h m hlt _).mono ?_; rintro e w' ⟨rfl, rfl⟩)
              refine hK.out _ _ (by repeat (first | exact hb2 | refine Below.drew ?_ | refine belowA ?_ (by omega) _)) (fun hHeld => ?_)
              clear hK K
              refine hw_do rfl (fun K hK => ?_)
              go_wp2_with (go_at_call 20; refine (digit_any ds c h' m hlt _).mono ?_; rintro e w' ⟨rfl, rfl⟩)
              refine hK.out _ _ (by repeat (first | exact hb2 | refine Below.drew ?_ | refine belowA ?_ (by omega) _)) (fun hHeld => ?_)
              clear hK K
              refine hw_ex rfl ?_; apply Exists.intro; refine ⟨fun w hSw => ?_, ?_⟩; (go_simp; first | done | (with_reducible rfl))
              simp only [Act.put, Act.eval, List.setIfInBounds_toArray, List.set_cons_zero, List.set_cons_succ, Array.getD_eq_getD_getElem?, List.getElem?_toArray, List.getElem?_cons_zero, List.getElem?_cons_succ, Option.getD_some]
              refine hw_ex rfl ?_; apply Exists.intro; refine ⟨fun w hSw => ?_, ?_⟩; (go_simp; first | done | (with_reducible rfl))
              simp only [Act.put, Act.eval, List.setIfInBounds_toArray, List.set_cons_zero, List.set_cons_succ, Array.getD_eq_getD_getElem?, List.getElem?_toArray, List.getElem?_cons_zero, List.getElem?_cons_succ, Option.getD_some]
              refine hw_nil ?_
              go_wp2
              go_ret
              refine ⟨m, rfl, ⟨hm, HA2.out, fun _ => HE.out⟩, hwW.trans (Below.mono (B := w.heap.size + 2) ?_ (by omega))⟩
              repeat (first | exact hb2 | refine Below.drew ?_ | refine belowA ?_ (by omega) _)
          · have hlt' : decide ((m : Int) < 40) = false := by simp; omega
            go_wp2
            refine wp_region_Hw (S := fun w' => Below (w.heap.size + 2) W w') [(0, true), (1, true), (2, true), (3, true), (4, true), (5, true), (6, true), (7, true), (8, true), (9, true), (10, true)] (by kernel_rfl) (by kernel_rfl) rfl (by kernel_rfl) (fun _ _ _ _ h => h) hb2.drew (fun hHeld => ?_)
            simp only [pick, List.map_cons, List.map_nil, Array.getD_eq_getD_getElem?, List.getElem?_toArray, List.getElem?_cons_zero, List.getElem?_cons_succ, Option.getD_some]
            refine hw_move _ rfl rfl ?_
            simp only [Act.put, Act.eval, List.setIfInBounds_toArray, List.set_cons_zero, List.set_cons_succ, Array.getD_eq_getD_getElem?, List.getElem?_toArray, List.getElem?_cons_zero, List.getElem?_cons_succ, Option.getD_some]
            refine hw_ex rfl ?_; apply Exists.intro; refine ⟨fun w hSw => ?_, ?_⟩; (go_simp; first | done | (with_reducible rfl))
            simp only [Act.put, Act.eval, List.setIfInBounds_toArray, List.set_cons_zero, List.set_cons_succ, Array.getD_eq_getD_getElem?, List.getElem?_toArray, List.getElem?_cons_zero, List.getElem?_cons_succ, Option.getD_some]
            refine hw_move _ rfl rfl ?_
            simp only [Act.put, Act.eval, List.setIfInBounds_toArray, List.set_cons_zero, List.set_cons_succ, Array.getD_eq_getD_getElem?, List.getElem?_toArray, List.getElem?_cons_zero, List.getElem?_cons_succ, Option.getD_some]
            refine hw_skip rfl ?_
            simp only [Act.put, Act.eval, List.setIfInBounds_toArray, List.set_cons_zero, List.set_cons_succ, Array.getD_eq_getD_getElem?, List.getElem?_toArray, List.getElem?_cons_zero, List.getElem?_cons_succ, Option.getD_some]
            refine hw_skip rfl ?_
            simp only [Act.put, Act.eval, List.setIfInBounds_toArray, List.set_cons_zero, List.set_cons_succ, Array.getD_eq_getD_getElem?, List.getElem?_toArray, List.getElem?_cons_zero, List.getElem?_cons_succ, Option.getD_some]
            refine hw_skip rfl ?_
            simp only [Act.put, Act.eval, List.setIfInBounds_toArray, List.set_cons_zero, List.set_cons_succ, Array.getD_eq_getD_getElem?, List.getElem?_toArray, List.getElem?_cons_zero, List.getElem?_cons_succ, Option.getD_some]
            refine hw_skip rfl ?_
            simp only [Act.put, Act.eval, List.setIfInBounds_toArray, List.set_cons_zero, List.set_cons_succ, Array.getD_eq_getD_getElem?, List.getElem?_toArray, List.getElem?_cons_zero, List.getElem?_cons_succ, Option.getD_some]
            refine hw_skip rfl ?_
            simp only [Act.put, Act.eval, List.setIfInBounds_toArray, List.set_cons_zero, List.set_cons_succ, Array.getD_eq_getD_getElem?, List.getElem?_toArray, List.getElem?_cons_zero, List.getElem?_cons_succ, Option.getD_some]
            refine hw_skip rfl ?_
            simp only [Act.put, Act.eval, List.setIfInBounds_toArray, List.set_cons_zero, List.set_cons_succ, Array.getD_eq_getD_getElem?, List.getElem?_toArray, List.getElem?_cons_zero, List.getElem?_cons_succ, Option.getD_some]
            refine hw_skip rfl ?_
            simp only [Act.put, Act.eval, List.setIfInBounds_toArray, List.set_cons_zero, List.set_cons_succ, Array.getD_eq_getD_getElem?, List.getElem?_toArray, List.getElem?_cons_zero, List.getElem?_cons_succ, Option.getD_some]
            refine hw_ex rfl ?_; apply Exists.intro; refine ⟨fun w hSw => ?_, ?_⟩; (go_simp; first | done | (with_reducible rfl))
            simp only [Act.put, Act.eval, List.setIfInBounds_toArray, List.set_cons_zero, List.set_cons_succ, Array.getD_eq_getD_getElem?, List.getElem?_toArray, List.getElem?_cons_zero, List.getElem?_cons_succ, Option.getD_some]
            refine hw_nil ?_
            go_wp2
            go_ret
            exact ⟨m, rfl, ⟨hm, HA2.out, fun h => absurd h hlt⟩, hwW.trans (Below.mono (B := w.heap.size + 2) hb2.drew (by omega))⟩
      · have hlt' : decide ((k : Int) < 20) = false := by simp; omega
        have HA : Hid (∀ j, j < k → b j = c j) := hall
        clear hall h20
        go_wp2
        go_quiet (fail)
        go_wp2
        clear hlt'
        have hbl' := below_drewN hbl nq
        clear hbl
        generalize wr.drewN nq = wr1 at *
        go_loopw [6] (fun i wr => ∃ k : Nat, k ≤ 40 ∧ i = .int .i64 k ∧ (∀ j, j < k → dig b j = dig c j) ∧ Below (w.heap.size + 2) W wr) (fun i _ => 40 - (intOf i).toNat)
        case atStart => exact ⟨2 * k, by omega, by go_num, dig_same HA.out, hbl'⟩
        case round =>
          obtain ⟨m, hm, rfl, hsame, hb2⟩ := hrel
          have HA2 : Hid (∀ j, j < m → dig b j = dig c j) := hsame
          have HW : Hid (∀ j, j < k → b j = c j) := HA
          clear hsame HA
          by_cases hlt : m < 40
          · have hlt' : (m : Int) < 40 := by omega
            have hu33 := Try.underlying33
            have hi1 : (Try.prog.info? 33).map (·.size) = some cs.length := by rw [hlen1]; exact Try.info33
            have hi2 : (Try.prog.info? 33).map (·.size) = some ds.length := by rw [hlen2]; exact Try.info33
            by_cases he : dig b m = dig c m
            · have hq : (dig b m == dig c m) = true := by simpa using he
              have HE : Hid (dig b m = dig c m) := he
              clear he
              go_wp2
              refine wp_region_Hw (S := fun w' => Below (w.heap.size + 2) W w') [(0, true), (1, true), (2, true), (3, true), (4, true), (6, true), (7, true), (5, false), (8, false), (9, true), (10, true)] (by kernel_rfl) (by kernel_rfl) rfl (by kernel_rfl) (fun _ _ _ _ h => h) hb2.drew (fun hHeld => ?_)
              simp only [pick, List.map_cons, List.map_nil, Array.getD_eq_getD_getElem?, List.getElem?_toArray, List.getElem?_cons_zero, List.getElem?_cons_succ, Option.getD_some]
              refine hw_move _ rfl rfl ?_
              simp only [Act.put, Act.eval, List.setIfInBounds_toArray, List.set_cons_zero, List.set_cons_succ, Array.getD_eq_getD_getElem?, List.getElem?_toArray, List.getElem?_cons_zero, List.getElem?_cons_succ, Option.getD_some]
              refine hw_ex rfl ?_; apply Exists.intro; refine ⟨fun w hSw => ?_, ?_⟩; (go_simp; first | done | (with_reducible rfl))
              simp only [Act.put, Act.eval, List.setIfInBounds_toArray, List.set_cons_zero, List.set_cons_succ, Array.getD_eq_getD_getElem?, List.getElem?_toArray, List.getElem?_cons_zero, List.getElem?_cons_succ, Option.getD_some]
              refine hw_move _ rfl rfl ?_
              simp only [Act.put, Act.eval, List.setIfInBounds_toArray, List.set_cons_zero, List.set_cons_succ, Array.getD_eq_getD_getElem?, List.getElem?_toArray, List.getElem?_cons_zero, List.getElem?_cons_succ, Option.getD_some]
              refine hw_load _ _ rfl rfl w.heap.size 0 rfl cs _ (fun w' h' => range_below h' (by omega) hr1) hu33 rfl hi1 ?_
              simp only [Act.put, Act.eval, List.setIfInBounds_toArray, List.set_cons_zero, List.set_cons_succ, Array.getD_eq_getD_getElem?, List.getElem?_toArray, List.getElem?_cons_zero, List.getElem?_cons_succ, Option.getD_some]
              refine hw_move _ rfl rfl ?_
              simp only [Act.put, Act.eval, List.setIfInBounds_toArray, List.set_cons_zero, List.set_cons_succ, Array.getD_eq_getD_getElem?, List.getElem?_toArray, List.getElem?_cons_zero, List.getElem?_cons_succ, Option.getD_some]
              refine hw_load _ _ rfl rfl (w.heap.size + 1) 0 rfl ds _ (fun w' h' => range_below h' (by omega) hr2) hu33 rfl hi2 ?_
              simp only [Act.put, Act.eval, List.setIfInBounds_toArray, List.set_cons_zero, List.set_cons_succ, Array.getD_eq_getD_getElem?, List.getElem?_toArray, List.getElem?_cons_zero, List.getElem?_cons_succ, Option.getD_some]
              refine hw_move _ rfl rfl ?_
              simp only [Act.put, Act.eval, List.setIfInBounds_toArray, List.set_cons_zero, List.set_cons_succ, Array.getD_eq_getD_getElem?, List.getElem?_toArray, List.getElem?_cons_zero, List.getElem?_cons_succ, Option.getD_some]
              refine hw_do rfl (fun K hK => ?_)
              go_wp2_with (go_at_call 20; refine (digit_any cs b h m hlt _).mono ?_; rintro e w' ⟨rfl, rfl⟩)
              refine hK.out _ _ (by repeat (first | exact hb2 | refine Below.drew ?_ | refine belowA ?_ (by omega) _)) (fun hHeld => ?_)
              clear hK K
              refine hw_do rfl (fun K hK => ?_)
              go_wp2_with (go_at_call 20; refine (digit_any ds c h' m hlt _).mono ?_; rintro e w' ⟨rfl, rfl⟩)
              refine hK.out _ _ (by repeat (first | exact hb2 | refine Below.drew ?_ | refine belowA ?_ (by omega) _)) (fun hHeld => ?_)
              clear hK K
              refine hw_ex rfl ?_; apply Exists.intro; refine ⟨fun w hSw => ?_, ?_⟩; (go_simp; first | done | (with_reducible rfl))
              simp only [Act.put, Act.eval, List.setIfInBounds_toArray, List.set_cons_zero, List.set_cons_succ, Array.getD_eq_getD_getElem?, List.getElem?_toArray, List.getElem?_cons_zero, List.getElem?_cons_succ, Option.getD_some]
              refine hw_ex rfl ?_; apply Exists.intro; refine ⟨fun w hSw => ?_, ?_⟩; (go_simp; first | done | (with_reducible rfl))
              simp only [Act.put, Act.eval, List.setIfInBounds_toArray, List.set_cons_zero, List.set_cons_succ, Array.getD_eq_getD_getElem?, List.getElem?_toArray, List.getElem?_cons_zero, List.getElem?_cons_succ, Option.getD_some]
              refine hw_nil ?_
              go_wp2
              go_roundw
              case rel => exact ⟨m + 1, by omega, by go_num, fun j hj => by rcases Nat.lt_succ_iff_lt_or_eq.1 hj with h1 | h1; exact HA2.out j h1; subst h1; exact HE.out, by repeat (first | exact hb2 | refine Below.drew ?_ | refine belowA ?_ (by omega) _)⟩
              case measure => simp [intOf]; omega
            · have hq : (dig b m == dig c m) = false := by simpa using he
              have HE : Hid (dig b m ≠ dig c m) := he
              clear he
              go_wp2
              refine wp_region_Hw (S := fun w' => Below (w.heap.size + 2) W w') [(0, true), (1, true), (2, true), (3, true), (4, true), (6, true), (7, true), (5, false), (8, false), (9, true), (10, true)] (by kernel_rfl) (by kernel_rfl) rfl (by kernel_rfl) (fun _ _ _ _ h => h) hb2.drew (fun hHeld => ?_)
              simp only [pick, List.map_cons, List.map_nil, Array.getD_eq_getD_getElem?, List.getElem?_toArray, List.getElem?_cons_zero, List.getElem?_cons_succ, Option.getD_some]
              refine hw_move _ rfl rfl ?_
              simp only [Act.put, Act.eval, List.setIfInBounds_toArray, List.set_cons_zero, List.set_cons_succ, Array.getD_eq_getD_getElem?, List.getElem?_toArray, List.getElem?_cons_zero, List.getElem?_cons_succ, Option.getD_some]
              refine hw_ex rfl ?_; apply Exists.intro; refine ⟨fun w hSw => ?_, ?_⟩; (go_simp; first | done | (with_reducible rfl))
              simp only [Act.put, Act.eval, List.setIfInBounds_toArray, List.set_cons_zero, List.set_cons_succ, Array.getD_eq_getD_getElem?, List.getElem?_toArray, List.getElem?_cons_zero, List.getElem?_cons_succ, Option.getD_some]
              refine hw_move _ rfl rfl ?_
              simp only [Act.put, Act.eval, List.setIfInBounds_toArray, List.set_cons_zero, List.set_cons_succ, Array.getD_eq_getD_getElem?, List.getElem?_toArray, List.getElem?_cons_zero, List.getElem?_cons_succ, Option.getD_some]
              refine hw_load _ _ rfl rfl w.heap.size 0 rfl cs _ (fun w' h' => range_below h' (by omega) hr1) hu33 rfl hi1 ?_
              simp only [Act.put, Act.eval, List.setIfInBounds_toArray, List.set_cons_zero, List.set_cons_succ, Array.getD_eq_getD_getElem?, List.getElem?_toArray, List.getElem?_cons_zero, List.getElem?_cons_succ, Option.getD_some]
              refine hw_move _ rfl rfl ?_
              simp only [Act.put, Act.eval, List.setIfInBounds_toArray, List.set_cons_zero, List.set_cons_succ, Array.getD_eq_getD_getElem?, List.getElem?_toArray, List.getElem?_cons_zero, List.getElem?_cons_succ, Option.getD_some]
              refine hw_load _ _ rfl rfl (w.heap.size + 1) 0 rfl ds _ (fun w' h' => range_below h' (by omega) hr2) hu33 rfl hi2 ?_
              simp only [Act.put, Act.eval, List.setIfInBounds_toArray, List.set_cons_zero, List.set_cons_succ, Array.getD_eq_getD_getElem?, List.getElem?_toArray, List.getElem?_cons_zero, List.getElem?_cons_succ, Option.getD_some]
              refine hw_move _ rfl rfl ?_
              simp only [Act.put, Act.eval, List.setIfInBounds_toArray, List.set_cons_zero, List.set_cons_succ, Array.getD_eq_getD_getElem?, List.getElem?_toArray, List.getElem?_cons_zero, List.getElem?_cons_succ, Option.getD_some]
              refine hw_do rfl (fun K hK => ?_)
              go_wp2_with (go_at_call 20; refine (digit_any cs b h m hlt _).mono ?_; rintro e w' ⟨rfl, rfl⟩)
              refine hK.out _ _ (by repeat (first | exact hb2 | refine Below.drew ?_ | refine belowA ?_ (by omega) _)) (fun hHeld => ?_)
              clear hK K
              refine hw_do rfl (fun K hK => ?_)
              go_wp2_with (go_at_call 20; refine (digit_any ds c h' m hlt _).mono ?_; rintro e w' ⟨rfl, rfl⟩)
              refine hK.out _ _ (by repeat (first | exact hb2 | refine Below.drew ?_ | refine belowA ?_ (by omega) _)) (fun hHeld => ?_)
              clear hK K
              refine hw_ex rfl ?_; apply Exists.intro; refine ⟨fun w hSw => ?_, ?_⟩; (go_simp; first | done | (with_reducible rfl))
              simp only [Act.put, Act.eval, List.setIfInBounds_toArray, List.set_cons_zero, List.set_cons_succ, Array.getD_eq_getD_getElem?, List.getElem?_toArray, List.getElem?_cons_zero, List.getElem?_cons_succ, Option.getD_some]
              refine hw_ex rfl ?_; apply Exists.intro; refine ⟨fun w hSw => ?_, ?_⟩; (go_simp; first | done | (with_reducible rfl))
              simp only [Act.put, Act.eval, List.setIfInBounds_toArray, List.set_cons_zero, List.set_cons_succ, Array.getD_eq_getD_getElem?, List.getElem?_toArray, List.getElem?_cons_zero, List.getElem?_cons_succ, Option.getD_some]
              refine hw_nil ?_
              go_wp2
              go_ret
              refine ⟨m, rfl, ⟨hm, HA2.out, fun _ => HE.out⟩, hwW.trans (Below.mono (B := w.heap.size + 2) ?_ (by omega))⟩
              repeat (first | exact hb2 | refine Below.drew ?_ | refine belowA ?_ (by omega) _)
          · have hlt' : decide ((m : Int) < 40) = false := by simp; omega
            go_wp2
            refine wp_region_Hw (S := fun w' => Below (w.heap.size + 2) W w') [(0, true), (1, true), (2, true), (3, true), (4, true), (5, true), (6, true), (7, true), (8, true), (9, true), (10, true)] (by kernel_rfl) (by kernel_rfl) rfl (by kernel_rfl) (fun _ _ _ _ h => h) hb2.drew (fun hHeld => ?_)
            simp only [pick, List.map_cons, List.map_nil, Array.getD_eq_getD_getElem?, List.getElem?_toArray, List.getElem?_cons_zero, List.getElem?_cons_succ, Option.getD_some]
            refine hw_move _ rfl rfl ?_
            simp only [Act.put, Act.eval, List.setIfInBounds_toArray, List.set_cons_zero, List.set_cons_succ, Array.getD_eq_getD_getElem?, List.getElem?_toArray, List.getElem?_cons_zero, List.getElem?_cons_succ, Option.getD_some]
            refine hw_ex rfl ?_; apply Exists.intro; refine ⟨fun w hSw => ?_, ?_⟩; (go_simp; first | done | (with_reducible rfl))
            simp only [Act.put, Act.eval, List.setIfInBounds_toArray, List.set_cons_zero, List.set_cons_succ, Array.getD_eq_getD_getElem?, List.getElem?_toArray, List.getElem?_cons_zero, List.getElem?_cons_succ, Option.getD_some]
            refine hw_move _ rfl rfl ?_
            simp only [Act.put, Act.eval, List.setIfInBounds_toArray, List.set_cons_zero, List.set_cons_succ, Array.getD_eq_getD_getElem?, List.getElem?_toArray, List.getElem?_cons_zero, List.getElem?_cons_succ, Option.getD_some]
            refine hw_skip rfl ?_
            simp only [Act.put, Act.eval, List.setIfInBounds_toArray, List.set_cons_zero, List.set_cons_succ, Array.getD_eq_getD_getElem?, List.getElem?_toArray, List.getElem?_cons_zero, List.getElem?_cons_succ, Option.getD_some]
            refine hw_skip rfl ?_
            simp only [Act.put, Act.eval, List.setIfInBounds_toArray, List.set_cons_zero, List.set_cons_succ, Array.getD_eq_getD_getElem?, List.getElem?_toArray, List.getElem?_cons_zero, List.getElem?_cons_succ, Option.getD_some]
            refine hw_skip rfl ?_
            simp only [Act.put, Act.eval, List.setIfInBounds_toArray, List.set_cons_zero, List.set_cons_succ, Array.getD_eq_getD_getElem?, List.getElem?_toArray, List.getElem?_cons_zero, List.getElem?_cons_succ, Option.getD_some]
            refine hw_skip rfl ?_
            simp only [Act.put, Act.eval, List.setIfInBounds_toArray, List.set_cons_zero, List.set_cons_succ, Array.getD_eq_getD_getElem?, List.getElem?_toArray, List.getElem?_cons_zero, List.getElem?_cons_succ, Option.getD_some]
            refine hw_skip rfl ?_
            simp only [Act.put, Act.eval, List.setIfInBounds_toArray, List.set_cons_zero, List.set_cons_succ, Array.getD_eq_getD_getElem?, List.getElem?_toArray, List.getElem?_cons_zero, List.getElem?_cons_succ, Option.getD_some]
            refine hw_skip rfl ?_
            simp only [Act.put, Act.eval, List.setIfInBounds_toArray, List.set_cons_zero, List.set_cons_succ, Array.getD_eq_getD_getElem?, List.getElem?_toArray, List.getElem?_cons_zero, List.getElem?_cons_succ, Option.getD_some]
            refine hw_skip rfl ?_
            simp only [Act.put, Act.eval, List.setIfInBounds_toArray, List.set_cons_zero, List.set_cons_succ, Array.getD_eq_getD_getElem?, List.getElem?_toArray, List.getElem?_cons_zero, List.getElem?_cons_succ, Option.getD_some]
            refine hw_ex rfl ?_; apply Exists.intro; refine ⟨fun w hSw => ?_, ?_⟩; (go_simp; first | done | (with_reducible rfl))
            simp only [Act.put, Act.eval, List.setIfInBounds_toArray, List.set_cons_zero, List.set_cons_succ, Array.getD_eq_getD_getElem?, List.getElem?_toArray, List.getElem?_cons_zero, List.getElem?_cons_succ, Option.getD_some]
            refine hw_nil ?_
            go_wp2
            go_ret
            exact ⟨m, rfl, ⟨hm, HA2.out, fun h => absurd h hlt⟩, hwW.trans (Below.mono (B := w.heap.size + 2) hb2.drew (by omega))⟩
end Go.Proofs.Qxb6603900a
