import Derived.Test.Qxb6603900aMem
import Derived.WalkSpells
import Derived.OwnWalk
namespace Go.Proofs.Qxb6603900a
open Go.ChangeShapes Go.WideShapes Go.ChangeAt Go.RowKit
set_option linter.unusedSimpArgs false
set_option linter.unusedVariables false

theorem below_setCells {B b : Nat} {a : World} (hb : B ≤ b) : ∀ (vs : List Value) (o : Nat) (w : World), Below B a w → Below B a (w.setCells b o vs)
  | [], _, _, h => h
  | v :: r, o, w, h => by
    rw [World.setCells]
    exact below_setCells hb r (o + 1) _ (h.setCell (p := ⟨b, o, none⟩) hb v)
theorem size_setCells (b : Nat) : ∀ (vs : List Value) (o : Nat) (w : World), (w.setCells b o vs).heap.size = w.heap.size
  | [], _, _ => rfl
  | v :: r, o, w => by
    rw [World.setCells, size_setCells b r (o + 1)]; simp

def zero33 : Array Value := Array.replicate 20 (.int .u8 0)
theorem Try.info33z : (Try.prog.info? 33).map (fun i => (i.zero, i.size, i.bytes)) = some (some (.agg zero33), 20, 20) := by kernel_rfl
theorem Try.info33s : (Try.prog.info? 33).map (·.size) = some 20 := by kernel_rfl
theorem Try.info22s : (Try.prog.info? 22).map (·.size) = some 20 := by kernel_rfl

/-- A row that the call owns may be written. -/
theorem owns_there {w : World} {base : Nat} {e : TypeId} {size g n cap : Nat} {xs : List Value} (h : w.ownsRow base e size (.slice (some ⟨g, 0, none⟩) n cap) n xs) : w.there g 0 (n * size) ∧ base ≤ g := by
  obtain ⟨h1, h2⟩ := h
  rcases h2 with ⟨h2, _⟩ | ⟨g', cap', cur, hv, hg, hh, hn, hm, hs, ht⟩
  · cases h2
  · simp only [Value.slice.injEq, Option.some.injEq, Addr.mk.injEq] at hv
    obtain ⟨⟨rfl, _, _⟩, _, rfl⟩ := hv
    refine ⟨fun j hj => ⟨?_, frozen_of_row _ _ _ _ _ hh⟩, hg⟩
    rw [Nat.zero_add, cell_of_row _ _ _ _ _ _ hh]
    have : j < cur.size := by rw [hs]; exact Nat.lt_of_lt_of_le hj (Nat.mul_le_mul_right _ hn)
    simp [this]

set_option maxRecDepth 100000 in
set_option maxHeartbeats 1000000 in
theorem ids_some (x : Addr) (cap : Nat) (L : List (List Value)) (w : World) (hI : IdsAt w (some x) L) (hL : ∀ cs ∈ L, IdC cs) (hl : (L.length : Int) ≤ 65536) :
    Calls Try.prog 21 #[.slice (some x) L.length cap] w fun e w' => e = .returned (.slice (some ⟨w.heap.size, 0, none⟩) L.length L.length) ∧ Below w.heap.size w w' ∧ IdsAt w' (some ⟨w.heap.size, 0, none⟩) L := by
  have hnil := fun w => Lib.run_eql_slice_nil (P := Try.prog) w 24 22 (some x) L.length cap 0 0 Try.underlying24
  obtain ⟨i0, hi, hz0, hz1, hz2⟩ := info_parts Try.info33z
  go_enter Try.func21, Try.ntmps21
  go_wp2_with (first
    | (at_make; refine wpList_make_full _ rfl (.tmp 8) (.tmp 8) 34 rfl w.heap.size 33 i0 (.agg zero33) 20 Try.underlying34 hi hz0 hz1 .i64 .i64 _ _ L.length rfl rfl rfl rfl ?_ ?_ (Nat.le_refl _) ?_))
  · rw [hz2]; omega
  · unfold maxLen; omega
  intro w1 hown hgrow
  obtain ⟨hth1, _⟩ := owns_there hown
  have hb1 : Below w.heap.size w w1 := (Below.refl _ _).grown hgrow (Nat.le_refl _) (fun k h => by cases h)
  clear hown hgrow hnil hi hz0 hz1 hz2
  go_wp2
  go_loopw [4] (fun i wr => ∃ k : Nat, k ≤ L.length ∧ i = .int .i64 k ∧ Below w.heap.size w wr ∧ wr.there w.heap.size 0 (L.length * 20) ∧ ∀ j cs, j < k → L[j]? = some cs → wr.rangeAt w.heap.size (0 + j * 20) cs) (fun i _ => L.length - (intOf i).toNat)
  case atStart => exact ⟨0, Nat.zero_le _, rfl, hb1, hth1, fun j cs hj => absurd hj (Nat.not_lt_zero _)⟩
  case round =>
    obtain ⟨k, hk, rfl, hbr, hth, hall⟩ := hrel
    have HA : Hid (∀ j cs, j < k → L[j]? = some cs → wr.rangeAt w.heap.size (0 + j * 20) cs) := hall
    clear hall hb1 hth1
    by_cases lk : k < L.length
    · obtain ⟨cs, hcs⟩ : ∃ cs, L[k]? = some cs := ⟨_, List.getElem?_eq_getElem lk⟩
      have hid := hL cs (List.mem_of_getElem? hcs)
      have hlen := hid.len
      obtain ⟨b, o, hbo, hr0⟩ := hI k cs hcs
      have hr : wr.rangeAt b (o + k * 20) cs := range_below hbr (range_lt hr0 (by omega)) hr0
      obtain rfl : x = ⟨b, o, none⟩ := by simpa using hbo
      have u22 := Try.underlying22
      have i22 : (Try.prog.info? 22).map (·.size) = some cs.length := by rw [hlen]; exact Try.info22s
      have i33 : (Try.prog.info? 33).map (·.size) = some cs.toArray.size := by rw [List.size_toArray, hlen]; exact Try.info33s
      have hone := all_oneCell_toArray hid.one
      have hth2 : wr.there w.heap.size (k * 20) cs.toArray.size := fun j hj => by
        rw [List.size_toArray, hlen] at hj
        have := hth (k * 20 + j) (by omega)
        rwa [Nat.zero_add] at this
      have hkm : (k : Int) < 65536 := by omega
      have HC : Hid (L[k]? = some cs) := hcs
      have HI : Hid (IdsAt w (some ⟨b, o, none⟩) L) := hI
      have hL2 : Hid (∀ cs ∈ L, IdC cs) := hL
      clear hcs hI hr0 hlen hL
      go_wp2_with (first
        | (refine wpList_load_g 22 (.tmp 20) rfl rfl b (o + k * 20) rfl cs _ hr u22 rfl i22 ?_; simp only [Act.put, List.setIfInBounds_toArray, List.set_cons_zero, List.set_cons_succ, World.size_alloc])
        | (refine wpList_store_mid rfl 33 (.tmp 22) (.tmp 21) rfl w.heap.size (k * 20) cs.toArray rfl rfl hth2 i33 hone ?_; simp only [Act.put, List.setIfInBounds_toArray, List.set_cons_zero, List.set_cons_succ, World.size_alloc]))
      go_roundw
      case rel =>
        refine ⟨k + 1, by omega, by go_num, below_setCells (Nat.le_refl _) _ _ _ hbr, World.there_setCells hth _ _ _, fun j ds hj hd => ?_⟩
        rcases Nat.lt_succ_iff_lt_or_eq.1 hj with h1 | h1
        · refine World.rangeAt_setCells_apart (HA.out j ds h1 hd) _ _ _ (Or.inr (Or.inl ?_))
          have := (hL2.out ds (List.mem_of_getElem? hd)).len
          omega
        · subst h1
          have : ds = cs := by have := HC.out; rw [this] at hd; simpa using hd.symm
          subst this
          rw [Nat.zero_add]
          exact World.rangeAt_setCells_same _ _ _ _ (by simpa using hth2)
      case measure => simp [intOf]; omega
    · have HF : Hid (IdsAt wr (some ⟨w.heap.size, 0, none⟩) L) := fun j cs hj => ⟨_, _, rfl, HA.out j cs (by have := (List.getElem?_eq_some_iff.1 hj).1; omega) hj⟩
      go_wp2
      go_ret
      exact ⟨rfl, hbr, HF.out⟩

/-- zzIDs: a copy in new memory; nil stays nil. -/
theorem ids_any (a : Option Addr) (cap : Nat) (L : List (List Value)) (w : World) (hI : IdsAt w a L) (hL : ∀ cs ∈ L, IdC cs) (hl : (L.length : Int) ≤ 65536) :
    Calls Try.prog 21 #[.slice a L.length cap] w fun e w' => ∃ a' c', e = .returned (.slice a' L.length c') ∧ Below w.heap.size w w' ∧ IdsAt w' a' L ∧ (∀ b o, a' = some ⟨b, o, none⟩ → w.heap.size ≤ b) ∧ L.length ≤ c' := by
  cases a with
  | none =>
    have h0 : L = [] := by
      cases L with
      | nil => rfl
      | cons c r => obtain ⟨b, o, h, _⟩ := hI 0 c rfl; cases h
    subst h0
    have hnil := fun w => Lib.run_eql_slice_nil (P := Try.prog) w 24 22 none 0 cap 0 0 Try.underlying24
    go_enter Try.func21, Try.ntmps21
    go_wp2
    go_ret
    exact ⟨none, 0, rfl, Below.refl _ _, fun i cs h => by simp at h, (fun b o h => by cases h), Nat.le_refl _⟩
  | some x =>
    refine (ids_some x cap L w hI hL hl).mono ?_
    rintro e w' ⟨rfl, h1, h2⟩
    exact ⟨_, _, rfl, h1, h2, (fun b o h => by simp at h; omega), Nat.le_refl _⟩
end Go.Proofs.Qxb6603900a
