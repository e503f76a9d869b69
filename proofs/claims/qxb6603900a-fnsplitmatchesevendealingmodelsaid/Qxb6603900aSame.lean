import Derived.Test.Qxb6603900aEqIDs
import Derived.Test.Qxb6603900aFlat
import Derived.Test.Qxb6603900aRuns
namespace Go.Proofs.Qxb6603900a
open Go.ChangeShapes Go.WideShapes Go.ChangeAt Go.RowKit
set_option linter.unusedSimpArgs false
set_option linter.unusedVariables false

set_option maxRecDepth 100000 in
set_option maxHeartbeats 2000000 in
/-- zzSameIDs: two slices that hold the same. -/
theorem same_ids (a b : Option Addr) (ca cb : Nat) (L : List (List Value)) (w : World) (ha : IdsAt w a L) (hb : IdsAt w b L) (hL : ∀ cs ∈ L, IdC cs) (hl : (L.length : Int) ≤ 65536) :
    Calls Try.prog 15 #[.slice a L.length ca, .slice b L.length cb] w fun e w' => e = .returned (.bool true) ∧ Below w.heap.size w w' := by
  have HA : Hid (IdsAt w a L) := ha
  have HB : Hid (IdsAt w b L) := hb
  have HL : Hid (∀ cs ∈ L, IdC cs) := hL
  clear ha hb hL
  go_enter Try.func15, Try.ntmps15
  go_wp2
  go_loopw [5] (fun iv wr => ∃ k : Nat, k ≤ L.length ∧ iv = .int .i64 k ∧ Below w.heap.size w wr) (fun iv _ => L.length - (intOf iv).toNat)
  case atStart => exact ⟨0, Nat.zero_le _, rfl, Below.refl _ _⟩
  case round =>
    obtain ⟨k, hk, rfl, b1⟩ := hrel
    by_cases lk : k < L.length
    · obtain ⟨cs, hcs⟩ : ∃ cs, L[k]? = some cs := ⟨_, List.getElem?_eq_getElem lk⟩
      have hid := HL.out cs (List.mem_of_getElem? hcs)
      obtain ⟨ba, oa, rfl, rA⟩ := HA.out k cs hcs
      obtain ⟨bb, ob, rfl, rB⟩ := HB.out k cs hcs
      have hba : ba < w.heap.size := range_lt rA (by rw [hid.len]; omega)
      have hbb : bb < w.heap.size := range_lt rB (by rw [hid.len]; omega)
      have i33 : (Try.prog.info? 33).map (·.size) = some cs.length := by rw [hid.len]; exact Try.info33s
      have i22 : (Try.prog.info? 22).map (·.size) = some cs.length := by rw [hid.len]; exact Try.info22s
      have lk' : (k : Int) < (L.length : Int) := by omega
      clear hcs
      go_upto_region 6 with fail
      refine wp_region_Hw (S := fun w' => Below w.heap.size w w') [(0, true), (1, true), (2, true), (3, true), (4, true), (5, true), (6, true), (7, true), (8, true)] (by kernel_rfl) (by kernel_rfl) rfl (by kernel_rfl) (fun _ _ _ _ h => h) b1.drew (fun hHeld => ?_)
      simp only [pick, List.map_cons, List.map_nil, Array.getD_eq_getD_getElem?, List.getElem?_toArray, List.getElem?_cons_zero, List.getElem?_cons_succ, Option.getD_some]
      refine hw_move _ rfl rfl ?_
      simp only [Act.put, Act.eval, List.setIfInBounds_toArray, List.set_cons_zero, List.set_cons_succ, Array.getD_eq_getD_getElem?, List.getElem?_toArray, List.getElem?_cons_zero, List.getElem?_cons_succ, Option.getD_some]
      refine hw_move _ rfl rfl ?_
      simp only [Act.put, Act.eval, List.setIfInBounds_toArray, List.set_cons_zero, List.set_cons_succ, Array.getD_eq_getD_getElem?, List.getElem?_toArray, List.getElem?_cons_zero, List.getElem?_cons_succ, Option.getD_some]
      refine hw_ex rfl ?_; apply Exists.intro; refine ⟨fun w hSw => ?_, ?_⟩; (go_simp; first | done | (with_reducible rfl))
      simp only [Act.put, Act.eval, List.setIfInBounds_toArray, List.set_cons_zero, List.set_cons_succ, Array.getD_eq_getD_getElem?, List.getElem?_toArray, List.getElem?_cons_zero, List.getElem?_cons_succ, Option.getD_some]
      refine hw_load 33 _ rfl rfl ba (oa + k * 20) rfl cs _ (fun w' h' => range_below h' hba rA) Try.underlying33 rfl i33 ?_
      simp only [Act.put, Act.eval, List.setIfInBounds_toArray, List.set_cons_zero, List.set_cons_succ, Array.getD_eq_getD_getElem?, List.getElem?_toArray, List.getElem?_cons_zero, List.getElem?_cons_succ, Option.getD_some]
      refine hw_move _ rfl rfl ?_
      simp only [Act.put, Act.eval, List.setIfInBounds_toArray, List.set_cons_zero, List.set_cons_succ, Array.getD_eq_getD_getElem?, List.getElem?_toArray, List.getElem?_cons_zero, List.getElem?_cons_succ, Option.getD_some]
      refine hw_move _ rfl rfl ?_
      simp only [Act.put, Act.eval, List.setIfInBounds_toArray, List.set_cons_zero, List.set_cons_succ, Array.getD_eq_getD_getElem?, List.getElem?_toArray, List.getElem?_cons_zero, List.getElem?_cons_succ, Option.getD_some]
      refine hw_ex rfl ?_; apply Exists.intro; refine ⟨fun w hSw => ?_, ?_⟩; (go_simp; first | done | (with_reducible rfl))
      simp only [Act.put, Act.eval, List.setIfInBounds_toArray, List.set_cons_zero, List.set_cons_succ, Array.getD_eq_getD_getElem?, List.getElem?_toArray, List.getElem?_cons_zero, List.getElem?_cons_succ, Option.getD_some]
      refine hw_load 22 _ rfl rfl bb (ob + k * 20) rfl cs _ (fun w' h' => range_below h' hbb rB) Try.underlying22 rfl i22 ?_
      simp only [Act.put, Act.eval, List.setIfInBounds_toArray, List.set_cons_zero, List.set_cons_succ, Array.getD_eq_getD_getElem?, List.getElem?_toArray, List.getElem?_cons_zero, List.getElem?_cons_succ, Option.getD_some]
      refine hw_neq _ _ _ rfl rfl cs hid rfl rfl ?_
      simp only [Act.put, Act.eval, List.setIfInBounds_toArray, List.set_cons_zero, List.set_cons_succ, Array.getD_eq_getD_getElem?, List.getElem?_toArray, List.getElem?_cons_zero, List.getElem?_cons_succ, Option.getD_some]
      refine hw_nil ?_
      have b2 : Below w.heap.size w wr.drew := b1.drew
      go_wp2
      go_roundw
      case rel => exact ⟨k + 1, by omega, by go_num, b2⟩
      case measure => simp [intOf]; omega
    · have hke : k = L.length := by omega
      subst hke
      go_wp2
      go_ret
      exact ⟨rfl, b1⟩

set_option maxRecDepth 100000 in
set_option maxHeartbeats 2000000 in
/-- zzSamePointers: two rows that say the same. -/
theorem same_ptrs (a b : Option Addr) (ca cb : Nat) (E P : List PtV) (w : World) (ha : RowAt w a E) (hb : RowAt w b P) (hE : ∀ y ∈ E, PtC y ∧ IdsAt w y.a y.hs) (hP : ∀ y ∈ P, PtC y ∧ IdsAt w y.a y.hs) (he : E.map PtV.bare = P.map PtV.bare) (hl : (P.length : Int) ≤ 65536)
    (hx : ∀ y ∈ P, (y.hs.length : Int) ≤ 65536) :
    Calls Try.prog 22 #[.slice a E.length ca, .slice b P.length cb] w fun e w' => e = .returned (.bool true) ∧ Below w.heap.size w w' := by
  have hlen : E.length = P.length := by have := congrArg List.length he; simpa using this
  have HA : Hid (RowAt w a E) := ha
  have HB : Hid (RowAt w b P) := hb
  have HE : Hid (∀ y ∈ E, PtC y ∧ IdsAt w y.a y.hs) := hE
  have HP : Hid (∀ y ∈ P, PtC y ∧ IdsAt w y.a y.hs) := hP
  have HX : Hid (∀ y ∈ P, (y.hs.length : Int) ≤ 65536) := hx
  have HEQ : Hid (E.map PtV.bare = P.map PtV.bare) := he
  rw [hlen]
  have HLN : Hid (E.length = P.length) := hlen
  clear ha hb hE hP he hx hlen
  go_enter Try.func22, Try.ntmps22
  go_wp2
  go_loopw [5] (fun iv wr => ∃ k : Nat, k ≤ P.length ∧ iv = .int .i64 k ∧ Below w.heap.size w wr) (fun iv _ => P.length - (intOf iv).toNat)
  case atStart => exact ⟨0, Nat.zero_le _, rfl, Below.refl _ _⟩
  case round =>
    obtain ⟨k, hk, rfl, b1⟩ := hrel
    by_cases lk : k < P.length
    · obtain ⟨z, hz⟩ : ∃ z, P[k]? = some z := ⟨_, List.getElem?_eq_getElem lk⟩
      obtain ⟨y, hy⟩ : ∃ y, E[k]? = some y := ⟨_, List.getElem?_eq_getElem (by rw [HLN.out]; exact lk)⟩
      have hyz : y.bare = z.bare := by
        have h1 : (E.map PtV.bare)[k]? = some y.bare := by rw [List.getElem?_map, hy]; rfl
        rw [HEQ.out, List.getElem?_map, hz] at h1
        simpa using h1.symm
      have hkey : y.key = z.key := congrArg Prod.fst hyz
      have hhs : y.hs = z.hs := congrArg Prod.snd hyz
      obtain ⟨cy, iy⟩ := HE.out y (List.mem_of_getElem? hy)
      obtain ⟨cz, iz⟩ := HP.out z (List.mem_of_getElem? hz)
      have hzl := HX.out z (List.mem_of_getElem? hz)
      obtain ⟨ba, oa, rfl, rA⟩ := HA.out k y hy
      obtain ⟨bb, ob, rfl, rB⟩ := HB.out k z hz
      have hba : ba < w.heap.size := range_lt rA (by rw [PtV.cells_len cy]; omega)
      have hbb : bb < w.heap.size := range_lt rB (by rw [PtV.cells_len cz]; omega)
      have kA : w.rangeAt ba (oa + k * 21) z.key := by rw [← hkey]; exact range_take rA
      have kB : w.rangeAt bb (ob + k * 21) z.key := range_take rB
      have cA : w.cell? ⟨ba, oa + k * 21 + 20, none⟩ = some (.slice y.a z.hs.length y.cap) := by rw [← hhs]; exact range_cell rA 20 (PtV.cells_hs cy)
      have cB : w.cell? ⟨bb, ob + k * 21 + 20, none⟩ = some (.slice z.a z.hs.length z.cap) := range_cell rB 20 (PtV.cells_hs cz)
      rw [hhs] at iy
      have HIY : Hid (IdsAt w y.a z.hs) := iy
      have HIZ : Hid (IdsAt w z.a z.hs) := iz
      have i33 : (Try.prog.info? 33).map (·.size) = some z.key.length := by rw [cz.key.len]; exact Try.info33s
      have i22 : (Try.prog.info? 22).map (·.size) = some z.key.length := by rw [cz.key.len]; exact Try.info22s
      have lk' : (k : Int) < (P.length : Int) := by omega
      clear hy hz hyz hkey hhs iy iz
      go_upto_region 6 with fail
      refine wp_region_Hw (S := fun w' => Below w.heap.size w w') [(0, true), (1, true), (2, true), (3, true), (4, true), (5, true), (6, true), (7, true), (8, true), (9, true), (10, true), (11, true), (12, true), (13, true), (14, true), (15, true), (16, true), (17, true), (18, true), (19, true), (20, true), (21, true), (22, false), (23, true), (24, true)] (by kernel_rfl) (by kernel_rfl) rfl (by kernel_rfl) (fun _ _ _ _ h => h) b1.drew (fun hHeld => ?_)
      simp only [pick, List.map_cons, List.map_nil, Array.getD_eq_getD_getElem?, List.getElem?_toArray, List.getElem?_cons_zero, List.getElem?_cons_succ, Option.getD_some]
      refine hw_move _ rfl rfl ?_
      simp only [Act.put, Act.eval, List.setIfInBounds_toArray, List.set_cons_zero, List.set_cons_succ, Array.getD_eq_getD_getElem?, List.getElem?_toArray, List.getElem?_cons_zero, List.getElem?_cons_succ, Option.getD_some]
      refine hw_move _ rfl rfl ?_
      simp only [Act.put, Act.eval, List.setIfInBounds_toArray, List.set_cons_zero, List.set_cons_succ, Array.getD_eq_getD_getElem?, List.getElem?_toArray, List.getElem?_cons_zero, List.getElem?_cons_succ, Option.getD_some]
      refine hw_ex rfl ?_; apply Exists.intro; refine ⟨fun w hSw => ?_, ?_⟩; (go_simp; first | done | (with_reducible rfl))
      simp only [Act.put, Act.eval, List.setIfInBounds_toArray, List.set_cons_zero, List.set_cons_succ, Array.getD_eq_getD_getElem?, List.getElem?_toArray, List.getElem?_cons_zero, List.getElem?_cons_succ, Option.getD_some]
      refine hw_ex rfl ?_; apply Exists.intro; refine ⟨fun w hSw => ?_, ?_⟩; (go_simp; first | done | (with_reducible rfl))
      simp only [Act.put, Act.eval, List.setIfInBounds_toArray, List.set_cons_zero, List.set_cons_succ, Array.getD_eq_getD_getElem?, List.getElem?_toArray, List.getElem?_cons_zero, List.getElem?_cons_succ, Option.getD_some]
      refine hw_load 33 _ rfl rfl ba (oa + k * 21) rfl z.key _ (fun w' h' => range_below h' hba kA) Try.underlying33 rfl i33 ?_
      simp only [Act.put, Act.eval, List.setIfInBounds_toArray, List.set_cons_zero, List.set_cons_succ, Array.getD_eq_getD_getElem?, List.getElem?_toArray, List.getElem?_cons_zero, List.getElem?_cons_succ, Option.getD_some]
      refine hw_move _ rfl rfl ?_
      simp only [Act.put, Act.eval, List.setIfInBounds_toArray, List.set_cons_zero, List.set_cons_succ, Array.getD_eq_getD_getElem?, List.getElem?_toArray, List.getElem?_cons_zero, List.getElem?_cons_succ, Option.getD_some]
      refine hw_move _ rfl rfl ?_
      simp only [Act.put, Act.eval, List.setIfInBounds_toArray, List.set_cons_zero, List.set_cons_succ, Array.getD_eq_getD_getElem?, List.getElem?_toArray, List.getElem?_cons_zero, List.getElem?_cons_succ, Option.getD_some]
      refine hw_ex rfl ?_; apply Exists.intro; refine ⟨fun w hSw => ?_, ?_⟩; (go_simp; first | done | (with_reducible rfl))
      simp only [Act.put, Act.eval, List.setIfInBounds_toArray, List.set_cons_zero, List.set_cons_succ, Array.getD_eq_getD_getElem?, List.getElem?_toArray, List.getElem?_cons_zero, List.getElem?_cons_succ, Option.getD_some]
      refine hw_ex rfl ?_; apply Exists.intro; refine ⟨fun w hSw => ?_, ?_⟩; (go_simp; first | done | (with_reducible rfl))
      simp only [Act.put, Act.eval, List.setIfInBounds_toArray, List.set_cons_zero, List.set_cons_succ, Array.getD_eq_getD_getElem?, List.getElem?_toArray, List.getElem?_cons_zero, List.getElem?_cons_succ, Option.getD_some]
      refine hw_load 22 _ rfl rfl bb (ob + k * 21) rfl z.key _ (fun w' h' => range_below h' hbb kB) Try.underlying22 rfl i22 ?_
      simp only [Act.put, Act.eval, List.setIfInBounds_toArray, List.set_cons_zero, List.set_cons_succ, Array.getD_eq_getD_getElem?, List.getElem?_toArray, List.getElem?_cons_zero, List.getElem?_cons_succ, Option.getD_some]
      refine hw_neq _ _ _ rfl rfl z.key cz.key rfl rfl ?_
      simp only [Act.put, Act.eval, List.setIfInBounds_toArray, List.set_cons_zero, List.set_cons_succ, Array.getD_eq_getD_getElem?, List.getElem?_toArray, List.getElem?_cons_zero, List.getElem?_cons_succ, Option.getD_some]
      refine hw_move _ rfl rfl ?_
      simp only [Act.put, Act.eval, List.setIfInBounds_toArray, List.set_cons_zero, List.set_cons_succ, Array.getD_eq_getD_getElem?, List.getElem?_toArray, List.getElem?_cons_zero, List.getElem?_cons_succ, Option.getD_some]
      refine hw_move _ rfl rfl ?_
      simp only [Act.put, Act.eval, List.setIfInBounds_toArray, List.set_cons_zero, List.set_cons_succ, Array.getD_eq_getD_getElem?, List.getElem?_toArray, List.getElem?_cons_zero, List.getElem?_cons_succ, Option.getD_some]
      refine hw_move _ rfl rfl ?_
      simp only [Act.put, Act.eval, List.setIfInBounds_toArray, List.set_cons_zero, List.set_cons_succ, Array.getD_eq_getD_getElem?, List.getElem?_toArray, List.getElem?_cons_zero, List.getElem?_cons_succ, Option.getD_some]
      refine hw_ex rfl ?_; apply Exists.intro; refine ⟨fun w hSw => ?_, ?_⟩; (go_simp; first | done | (with_reducible rfl))
      simp only [Act.put, Act.eval, List.setIfInBounds_toArray, List.set_cons_zero, List.set_cons_succ, Array.getD_eq_getD_getElem?, List.getElem?_toArray, List.getElem?_cons_zero, List.getElem?_cons_succ, Option.getD_some]
      refine hw_ex rfl ?_; apply Exists.intro; refine ⟨fun w hSw => ?_, ?_⟩; (go_simp; first | done | (with_reducible rfl))
      simp only [Act.put, Act.eval, List.setIfInBounds_toArray, List.set_cons_zero, List.set_cons_succ, Array.getD_eq_getD_getElem?, List.getElem?_toArray, List.getElem?_cons_zero, List.getElem?_cons_succ, Option.getD_some]
      refine hw_load1 34 _ rfl rfl ba (oa + k * 21 + 20) rfl (.slice y.a z.hs.length y.cap) _ (fun w' h' => (h'.cell (p := ⟨ba, oa + k * 21 + 20, none⟩) hba).trans cA) Try.underlying34 rfl ?_
      simp only [Act.put, Act.eval, List.setIfInBounds_toArray, List.set_cons_zero, List.set_cons_succ, Array.getD_eq_getD_getElem?, List.getElem?_toArray, List.getElem?_cons_zero, List.getElem?_cons_succ, Option.getD_some]
      refine hw_move _ rfl rfl ?_
      simp only [Act.put, Act.eval, List.setIfInBounds_toArray, List.set_cons_zero, List.set_cons_succ, Array.getD_eq_getD_getElem?, List.getElem?_toArray, List.getElem?_cons_zero, List.getElem?_cons_succ, Option.getD_some]
      refine hw_move _ rfl rfl ?_
      simp only [Act.put, Act.eval, List.setIfInBounds_toArray, List.set_cons_zero, List.set_cons_succ, Array.getD_eq_getD_getElem?, List.getElem?_toArray, List.getElem?_cons_zero, List.getElem?_cons_succ, Option.getD_some]
      refine hw_ex rfl ?_; apply Exists.intro; refine ⟨fun w hSw => ?_, ?_⟩; (go_simp; first | done | (with_reducible rfl))
      simp only [Act.put, Act.eval, List.setIfInBounds_toArray, List.set_cons_zero, List.set_cons_succ, Array.getD_eq_getD_getElem?, List.getElem?_toArray, List.getElem?_cons_zero, List.getElem?_cons_succ, Option.getD_some]
      refine hw_ex rfl ?_; apply Exists.intro; refine ⟨fun w hSw => ?_, ?_⟩; (go_simp; first | done | (with_reducible rfl))
      simp only [Act.put, Act.eval, List.setIfInBounds_toArray, List.set_cons_zero, List.set_cons_succ, Array.getD_eq_getD_getElem?, List.getElem?_toArray, List.getElem?_cons_zero, List.getElem?_cons_succ, Option.getD_some]
      refine hw_load1 24 _ rfl rfl bb (ob + k * 21 + 20) rfl (.slice z.a z.hs.length z.cap) _ (fun w' h' => (h'.cell (p := ⟨bb, ob + k * 21 + 20, none⟩) hbb).trans cB) Try.underlying24 rfl ?_
      simp only [Act.put, Act.eval, List.setIfInBounds_toArray, List.set_cons_zero, List.set_cons_succ, Array.getD_eq_getD_getElem?, List.getElem?_toArray, List.getElem?_cons_zero, List.getElem?_cons_succ, Option.getD_some]
      refine hw_do rfl (fun K hK => ?_)
      go_wp2_with (go_at_call 15; refine (same_ids y.a z.a y.cap z.cap z.hs _ (HIY.out.below cz.hs b1.drew) (HIZ.out.below cz.hs b1.drew) cz.hs hzl).mono ?_; rintro e wa ⟨rfl, ba'⟩)
      have bWa : Below w.heap.size w wa := b1.drew.trans (ba'.mono b1.size)
      refine hK.out _ _ bWa (fun hHeld => ?_)
      clear hK K
      refine hw_ex rfl ?_; apply Exists.intro; refine ⟨fun w hSw => ?_, ?_⟩; (go_simp; first | done | (with_reducible rfl))
      simp only [Act.put, Act.eval, List.setIfInBounds_toArray, List.set_cons_zero, List.set_cons_succ, Array.getD_eq_getD_getElem?, List.getElem?_toArray, List.getElem?_cons_zero, List.getElem?_cons_succ, Option.getD_some]
      refine hw_ex rfl ?_; apply Exists.intro; refine ⟨fun w hSw => ?_, ?_⟩; (go_simp; first | done | (with_reducible rfl))
      simp only [Act.put, Act.eval, List.setIfInBounds_toArray, List.set_cons_zero, List.set_cons_succ, Array.getD_eq_getD_getElem?, List.getElem?_toArray, List.getElem?_cons_zero, List.getElem?_cons_succ, Option.getD_some]
      refine hw_nil ?_
      go_wp2
      go_roundw
      case rel => exact ⟨k + 1, by omega, by go_num, bWa⟩
      case measure => simp [intOf]; omega
    · have hke : k = P.length := by omega
      subst hke
      go_wp2
      go_ret
      exact ⟨rfl, b1⟩
end Go.Proofs.Qxb6603900a
