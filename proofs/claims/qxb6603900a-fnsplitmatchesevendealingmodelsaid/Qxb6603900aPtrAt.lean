import Derived.Test.Qxb6603900aSame
namespace Go.Proofs.Qxb6603900a
open Go.ChangeShapes Go.WideShapes Go.ChangeAt Go.RowKit
set_option linter.unusedSimpArgs false
set_option linter.unusedVariables false

set_option maxRecDepth 100000 in
set_option maxHeartbeats 2000000 in
/-- zzPointerAt: pointer number u of the row is (key, hs[lo:hi]). -/
theorem ptr_at (A b : Option Addr) (C cb u lo hi : Nat) (F : List PtV) (key : List Value) (hs : List (List Value)) (w : World) (hA : RowAt w A F) (hF : ∀ y ∈ F, PtC y ∧ IdsAt w y.a y.hs) (hb : IdsAt w b hs) (hk : IdC key) (hh : ∀ cs ∈ hs, IdC cs)
    (y : PtV) (hy : F[u]? = some y) (hbare : y.bare = (key, (hs.drop lo).take (hi - lo))) (hlo : (lo : Int) ≤ (hi : Int)) (hhi : (hi : Int) ≤ (hs.length : Int)) (hFl : (F.length : Int) ≤ 65536) (hl : (hs.length : Int) ≤ 32768) :
    Calls Try.prog 16 #[.slice A F.length C, .int .i64 (u : Int), .agg key.toArray, .slice b hs.length cb, .int .i64 (lo : Int), .int .i64 (hi : Int)] w fun e w' => e = .returned (.bool true) ∧ Below w.heap.size w w' := by
  have hu : u < F.length := (List.getElem?_eq_some_iff.1 hy).1
  have hkey : y.key = key := congrArg Prod.fst hbare
  have hyh : y.hs = (hs.drop lo).take (hi - lo) := congrArg Prod.snd hbare
  obtain ⟨m, hm⟩ : ∃ m : Nat, m = hi - lo := ⟨_, rfl⟩
  have hml : y.hs.length = m := by rw [hyh, hm]; simp; omega
  obtain ⟨cy, iy⟩ := hF y (List.mem_of_getElem? hy)
  obtain ⟨ba, oa, rfl, rA⟩ := hA u y hy
  have hba : ba < w.heap.size := range_lt rA (by rw [PtV.cells_len cy]; omega)
  have hW := range_new w key 22
  have bW : Below w.heap.size w (w.alloc (.cells key.toArray 22)) := (Below.refl _ _).alloc (Nat.le_refl _) _
  have hsz : (w.alloc (.cells key.toArray 22)).heap.size = w.heap.size + 1 := by simp
  have kA : w.rangeAt ba (oa + u * 21) key := by rw [← hkey]; exact range_take rA
  have cA : w.cell? ⟨ba, oa + u * 21 + 20, none⟩ = some (.slice y.a m y.cap) := by rw [← hml]; exact range_cell rA 20 (PtV.cells_hs cy)
  have i33 : (Try.prog.info? 33).map (·.size) = some key.length := by rw [hk.len]; exact Try.info33s
  have i22 : (Try.prog.info? 22).map (·.size) = some key.length := by rw [hk.len]; exact Try.info22s
  have hu1 : (u : Int) < (F.length : Int) := by omega
  have hu2 : ¬ (F.length : Int) ≤ (u : Int) := by omega
  have hmi : (hi : Int) - (lo : Int) = (m : Int) := by omega
  have hsub : IntKind.i64.wrap ((hi : Int) - (lo : Int)) = (m : Int) := by rw [IntKind.wrap_i64]; omega
  have hwm : IntKind.i64.wrap (m : Int) = (m : Int) := by rw [IntKind.wrap_i64]; omega
  have hud : decide ((u : Int) < 0) = false := by simp
  have HHB : Hid (IdsAt w b hs) := hb
  have HHC : Hid (∀ cs ∈ hs, IdC cs) := hh
  have HIY : Hid (IdsAt w y.a y.hs) := iy
  have HYH : Hid (y.hs = (hs.drop lo).take (hi - lo)) := hyh
  have HM : Hid (m = hi - lo) := hm
  have HML : Hid (y.hs.length = m) := hml
  clear hF hb hh hbare hkey hyh hm hml iy hA rA hy
  go_enter Try.func16, Try.ntmps16
  go_upto_region 3 with fail
  generalize (w.alloc (.cells key.toArray 22)) = W at *
  refine wp_region_Hw (S := fun w' => Below (w.heap.size + 1) W w') [(0, true), (1, true), (2, true), (3, true), (4, true), (5, true), (6, true), (7, true), (8, true), (9, true), (10, true), (11, true), (12, true), (13, true), (14, true), (15, true), (16, true), (17, true), (18, true)] (by kernel_rfl) (by kernel_rfl) rfl (by kernel_rfl) (fun _ _ _ _ h => h) (Below.refl _ _).drew (fun hHeld => ?_)
  simp only [pick, List.map_cons, List.map_nil, Array.getD_eq_getD_getElem?, List.getElem?_toArray, List.getElem?_cons_zero, List.getElem?_cons_succ, Option.getD_some]
  refine hw_move _ rfl rfl ?_
  simp only [Act.put, Act.eval, List.setIfInBounds_toArray, List.set_cons_zero, List.set_cons_succ, Array.getD_eq_getD_getElem?, List.getElem?_toArray, List.getElem?_cons_zero, List.getElem?_cons_succ, Option.getD_some, hsub, hwm, bne_self_eq_false]
  refine hw_move _ rfl rfl ?_
  simp only [Act.put, Act.eval, List.setIfInBounds_toArray, List.set_cons_zero, List.set_cons_succ, Array.getD_eq_getD_getElem?, List.getElem?_toArray, List.getElem?_cons_zero, List.getElem?_cons_succ, Option.getD_some, hsub, hwm, bne_self_eq_false]
  refine hw_ex rfl ?_; apply Exists.intro; refine ⟨fun w hSw => ?_, ?_⟩; (go_simp; first | done | (with_reducible rfl))
  simp only [Act.put, Act.eval, List.setIfInBounds_toArray, List.set_cons_zero, List.set_cons_succ, Array.getD_eq_getD_getElem?, List.getElem?_toArray, List.getElem?_cons_zero, List.getElem?_cons_succ, Option.getD_some, hsub, hwm, bne_self_eq_false]
  refine hw_ex rfl ?_; apply Exists.intro; refine ⟨fun w hSw => ?_, ?_⟩; (go_simp; first | done | (with_reducible rfl))
  simp only [Act.put, Act.eval, List.setIfInBounds_toArray, List.set_cons_zero, List.set_cons_succ, Array.getD_eq_getD_getElem?, List.getElem?_toArray, List.getElem?_cons_zero, List.getElem?_cons_succ, Option.getD_some, hsub, hwm, bne_self_eq_false]
  refine hw_load 33 _ rfl rfl ba (oa + u * 21) rfl key _ (fun w' h' => range_below (bW.trans (h'.mono (Nat.le_succ _))) hba kA) Try.underlying33 rfl i33 ?_
  simp only [Act.put, Act.eval, List.setIfInBounds_toArray, List.set_cons_zero, List.set_cons_succ, Array.getD_eq_getD_getElem?, List.getElem?_toArray, List.getElem?_cons_zero, List.getElem?_cons_succ, Option.getD_some, hsub, hwm, bne_self_eq_false]
  refine hw_load 22 _ rfl rfl w.heap.size 0 rfl key _ (fun w' h' => range_below h' (Nat.lt_succ_self _) hW) Try.underlying22 rfl i22 ?_
  simp only [Act.put, Act.eval, List.setIfInBounds_toArray, List.set_cons_zero, List.set_cons_succ, Array.getD_eq_getD_getElem?, List.getElem?_toArray, List.getElem?_cons_zero, List.getElem?_cons_succ, Option.getD_some, hsub, hwm, bne_self_eq_false]
  refine hw_neq _ _ _ rfl rfl key hk rfl rfl ?_
  simp only [Act.put, Act.eval, List.setIfInBounds_toArray, List.set_cons_zero, List.set_cons_succ, Array.getD_eq_getD_getElem?, List.getElem?_toArray, List.getElem?_cons_zero, List.getElem?_cons_succ, Option.getD_some, hsub, hwm, bne_self_eq_false]
  refine hw_move _ rfl rfl ?_
  simp only [Act.put, Act.eval, List.setIfInBounds_toArray, List.set_cons_zero, List.set_cons_succ, Array.getD_eq_getD_getElem?, List.getElem?_toArray, List.getElem?_cons_zero, List.getElem?_cons_succ, Option.getD_some, hsub, hwm, bne_self_eq_false]
  refine hw_move _ rfl rfl ?_
  simp only [Act.put, Act.eval, List.setIfInBounds_toArray, List.set_cons_zero, List.set_cons_succ, Array.getD_eq_getD_getElem?, List.getElem?_toArray, List.getElem?_cons_zero, List.getElem?_cons_succ, Option.getD_some, hsub, hwm, bne_self_eq_false]
  refine hw_move _ rfl rfl ?_
  simp only [Act.put, Act.eval, List.setIfInBounds_toArray, List.set_cons_zero, List.set_cons_succ, Array.getD_eq_getD_getElem?, List.getElem?_toArray, List.getElem?_cons_zero, List.getElem?_cons_succ, Option.getD_some, hsub, hwm, bne_self_eq_false]
  refine hw_ex rfl ?_; apply Exists.intro; refine ⟨fun w hSw => ?_, ?_⟩; (go_simp; first | done | (with_reducible rfl))
  simp only [Act.put, Act.eval, List.setIfInBounds_toArray, List.set_cons_zero, List.set_cons_succ, Array.getD_eq_getD_getElem?, List.getElem?_toArray, List.getElem?_cons_zero, List.getElem?_cons_succ, Option.getD_some, hsub, hwm, bne_self_eq_false]
  refine hw_ex rfl ?_; apply Exists.intro; refine ⟨fun w hSw => ?_, ?_⟩; (go_simp; first | done | (with_reducible rfl))
  simp only [Act.put, Act.eval, List.setIfInBounds_toArray, List.set_cons_zero, List.set_cons_succ, Array.getD_eq_getD_getElem?, List.getElem?_toArray, List.getElem?_cons_zero, List.getElem?_cons_succ, Option.getD_some, hsub, hwm, bne_self_eq_false]
  refine hw_load1 34 _ rfl rfl ba (oa + u * 21 + 20) rfl (.slice y.a m y.cap) _ (fun w' h' => ((bW.trans (h'.mono (Nat.le_succ _))).cell (p := ⟨ba, oa + u * 21 + 20, none⟩) hba).trans cA) Try.underlying34 rfl ?_
  simp only [Act.put, Act.eval, List.setIfInBounds_toArray, List.set_cons_zero, List.set_cons_succ, Array.getD_eq_getD_getElem?, List.getElem?_toArray, List.getElem?_cons_zero, List.getElem?_cons_succ, Option.getD_some, hsub, hwm, bne_self_eq_false]
  refine hw_ex rfl ?_; apply Exists.intro; refine ⟨fun w hSw => ?_, ?_⟩; (go_simp; first | done | (with_reducible rfl))
  simp only [Act.put, Act.eval, List.setIfInBounds_toArray, List.set_cons_zero, List.set_cons_succ, Array.getD_eq_getD_getElem?, List.getElem?_toArray, List.getElem?_cons_zero, List.getElem?_cons_succ, Option.getD_some, hsub, hwm, bne_self_eq_false]
  refine hw_move _ rfl rfl ?_
  simp only [Act.put, Act.eval, List.setIfInBounds_toArray, List.set_cons_zero, List.set_cons_succ, Array.getD_eq_getD_getElem?, List.getElem?_toArray, List.getElem?_cons_zero, List.getElem?_cons_succ, Option.getD_some, hsub, hwm, bne_self_eq_false]
  refine hw_move _ rfl rfl ?_
  simp only [Act.put, Act.eval, List.setIfInBounds_toArray, List.set_cons_zero, List.set_cons_succ, Array.getD_eq_getD_getElem?, List.getElem?_toArray, List.getElem?_cons_zero, List.getElem?_cons_succ, Option.getD_some, hsub, hwm, bne_self_eq_false]
  refine hw_ex rfl ?_; apply Exists.intro; refine ⟨fun w hSw => ?_, ?_⟩; (go_simp; first | done | (with_reducible rfl))
  simp only [Act.put, Act.eval, List.setIfInBounds_toArray, List.set_cons_zero, List.set_cons_succ, Array.getD_eq_getD_getElem?, List.getElem?_toArray, List.getElem?_cons_zero, List.getElem?_cons_succ, Option.getD_some, hsub, hwm, bne_self_eq_false]
  refine hw_ex rfl ?_; apply Exists.intro; refine ⟨fun w hSw => ?_, ?_⟩; (go_simp; first | done | (with_reducible rfl))
  simp only [Act.put, Act.eval, List.setIfInBounds_toArray, List.set_cons_zero, List.set_cons_succ, Array.getD_eq_getD_getElem?, List.getElem?_toArray, List.getElem?_cons_zero, List.getElem?_cons_succ, Option.getD_some, hsub, hwm, bne_self_eq_false]
  refine hw_ex rfl ?_; apply Exists.intro; refine ⟨fun w hSw => ?_, ?_⟩; (go_simp; first | done | (with_reducible rfl))
  simp only [Act.put, Act.eval, List.setIfInBounds_toArray, List.set_cons_zero, List.set_cons_succ, Array.getD_eq_getD_getElem?, List.getElem?_toArray, List.getElem?_cons_zero, List.getElem?_cons_succ, Option.getD_some, hsub, hwm, bne_self_eq_false]
  refine hw_nil ?_
  have b1 : Below (w.heap.size + 1) W W.drew := (Below.refl _ _).drew
  have bWW : Below w.heap.size w W.drew := bW.drew
  go_wp2
  go_loopw [13] (fun iv wr => ∃ k : Nat, k ≤ m ∧ iv = .int .i64 k ∧ Below w.heap.size w wr) (fun iv _ => m - (intOf iv).toNat)
  case atStart => exact ⟨0, Nat.zero_le _, rfl, bWW⟩
  case round =>
    obtain ⟨k, hk', rfl, b2⟩ := hrel
    by_cases lk : k < m
    · obtain ⟨q, hq⟩ : ∃ q : Nat, q = lo + k := ⟨_, rfl⟩
      have hqh : q < hs.length := by have := HM.out; omega
      obtain ⟨cs, hcs⟩ : ∃ cs, hs[q]? = some cs := ⟨_, List.getElem?_eq_getElem hqh⟩
      have hcy : y.hs[k]? = some cs := by
        rw [HYH.out, List.getElem?_take_of_lt (by rw [← HM.out]; exact lk), List.getElem?_drop, ← hq]; exact hcs
      have hid := HHC.out cs (List.mem_of_getElem? hcs)
      obtain ⟨b3, o3, hya, rY⟩ := HIY.out k cs hcy
      obtain ⟨b4, o4, rfl, rH⟩ := HHB.out q cs hcs
      have hb3 : b3 < w.heap.size := range_lt rY (by rw [hid.len]; omega)
      have hb4 : b4 < w.heap.size := range_lt rH (by rw [hid.len]; omega)
      have j33 : (Try.prog.info? 33).map (·.size) = some cs.length := by rw [hid.len]; exact Try.info33s
      have j22 : (Try.prog.info? 22).map (·.size) = some cs.length := by rw [hid.len]; exact Try.info22s
      have lk' : (k : Int) < (m : Int) := by omega
      have hqi : (q : Int) < (hs.length : Int) := by omega
      have hadd : IntKind.i64.wrap ((lo : Int) + (k : Int)) = (q : Int) := by rw [IntKind.wrap_i64]; omega
      rw [hya] at cA
      clear hcs hcy hq
      go_upto_region 8 with fail
      refine wp_region_Hw (S := fun w' => Below w.heap.size w w') [(0, true), (1, true), (2, true), (3, true), (4, true), (5, true), (6, true), (7, true), (8, true), (9, true), (10, true), (11, true), (12, true), (13, true), (14, true)] (by kernel_rfl) (by kernel_rfl) rfl (by kernel_rfl) (fun _ _ _ _ h => h) b2.drew (fun hHeld => ?_)
      simp only [pick, List.map_cons, List.map_nil, Array.getD_eq_getD_getElem?, List.getElem?_toArray, List.getElem?_cons_zero, List.getElem?_cons_succ, Option.getD_some]
      refine hw_move _ rfl rfl ?_
      simp only [Act.put, Act.eval, List.setIfInBounds_toArray, List.set_cons_zero, List.set_cons_succ, Array.getD_eq_getD_getElem?, List.getElem?_toArray, List.getElem?_cons_zero, List.getElem?_cons_succ, Option.getD_some, hadd]
      refine hw_move _ rfl rfl ?_
      simp only [Act.put, Act.eval, List.setIfInBounds_toArray, List.set_cons_zero, List.set_cons_succ, Array.getD_eq_getD_getElem?, List.getElem?_toArray, List.getElem?_cons_zero, List.getElem?_cons_succ, Option.getD_some, hadd]
      refine hw_ex rfl ?_; apply Exists.intro; refine ⟨fun w hSw => ?_, ?_⟩; (go_simp; first | done | (with_reducible rfl))
      simp only [Act.put, Act.eval, List.setIfInBounds_toArray, List.set_cons_zero, List.set_cons_succ, Array.getD_eq_getD_getElem?, List.getElem?_toArray, List.getElem?_cons_zero, List.getElem?_cons_succ, Option.getD_some, hadd]
      refine hw_ex rfl ?_; apply Exists.intro; refine ⟨fun w hSw => ?_, ?_⟩; (go_simp; first | done | (with_reducible rfl))
      simp only [Act.put, Act.eval, List.setIfInBounds_toArray, List.set_cons_zero, List.set_cons_succ, Array.getD_eq_getD_getElem?, List.getElem?_toArray, List.getElem?_cons_zero, List.getElem?_cons_succ, Option.getD_some, hadd]
      refine hw_load1 34 _ rfl rfl ba (oa + u * 21 + 20) rfl (.slice (some ⟨b3, o3, none⟩) m y.cap) _ (fun w' h' => (h'.cell (p := ⟨ba, oa + u * 21 + 20, none⟩) hba).trans cA) Try.underlying34 rfl ?_
      simp only [Act.put, Act.eval, List.setIfInBounds_toArray, List.set_cons_zero, List.set_cons_succ, Array.getD_eq_getD_getElem?, List.getElem?_toArray, List.getElem?_cons_zero, List.getElem?_cons_succ, Option.getD_some, hadd]
      refine hw_move _ rfl rfl ?_
      simp only [Act.put, Act.eval, List.setIfInBounds_toArray, List.set_cons_zero, List.set_cons_succ, Array.getD_eq_getD_getElem?, List.getElem?_toArray, List.getElem?_cons_zero, List.getElem?_cons_succ, Option.getD_some, hadd]
      refine hw_ex rfl ?_; apply Exists.intro; refine ⟨fun w hSw => ?_, ?_⟩; (go_simp; first | done | (with_reducible rfl))
      simp only [Act.put, Act.eval, List.setIfInBounds_toArray, List.set_cons_zero, List.set_cons_succ, Array.getD_eq_getD_getElem?, List.getElem?_toArray, List.getElem?_cons_zero, List.getElem?_cons_succ, Option.getD_some, hadd]
      refine hw_load 33 _ rfl rfl b3 (o3 + k * 20) rfl cs _ (fun w' h' => range_below h' hb3 rY) Try.underlying33 rfl j33 ?_
      simp only [Act.put, Act.eval, List.setIfInBounds_toArray, List.set_cons_zero, List.set_cons_succ, Array.getD_eq_getD_getElem?, List.getElem?_toArray, List.getElem?_cons_zero, List.getElem?_cons_succ, Option.getD_some, hadd]
      refine hw_move _ rfl rfl ?_
      simp only [Act.put, Act.eval, List.setIfInBounds_toArray, List.set_cons_zero, List.set_cons_succ, Array.getD_eq_getD_getElem?, List.getElem?_toArray, List.getElem?_cons_zero, List.getElem?_cons_succ, Option.getD_some, hadd]
      refine hw_move _ rfl rfl ?_
      simp only [Act.put, Act.eval, List.setIfInBounds_toArray, List.set_cons_zero, List.set_cons_succ, Array.getD_eq_getD_getElem?, List.getElem?_toArray, List.getElem?_cons_zero, List.getElem?_cons_succ, Option.getD_some, hadd]
      refine hw_move _ rfl rfl ?_
      simp only [Act.put, Act.eval, List.setIfInBounds_toArray, List.set_cons_zero, List.set_cons_succ, Array.getD_eq_getD_getElem?, List.getElem?_toArray, List.getElem?_cons_zero, List.getElem?_cons_succ, Option.getD_some, hadd]
      refine hw_ex rfl ?_; apply Exists.intro; refine ⟨fun w hSw => ?_, ?_⟩; (go_simp; first | done | (with_reducible rfl))
      simp only [Act.put, Act.eval, List.setIfInBounds_toArray, List.set_cons_zero, List.set_cons_succ, Array.getD_eq_getD_getElem?, List.getElem?_toArray, List.getElem?_cons_zero, List.getElem?_cons_succ, Option.getD_some, hadd]
      refine hw_ex rfl ?_; apply Exists.intro; refine ⟨fun w hSw => ?_, ?_⟩; (go_simp; first | done | (with_reducible rfl))
      simp only [Act.put, Act.eval, List.setIfInBounds_toArray, List.set_cons_zero, List.set_cons_succ, Array.getD_eq_getD_getElem?, List.getElem?_toArray, List.getElem?_cons_zero, List.getElem?_cons_succ, Option.getD_some, hadd]
      refine hw_load 22 _ rfl rfl b4 (o4 + q * 20) rfl cs _ (fun w' h' => range_below h' hb4 rH) Try.underlying22 rfl j22 ?_
      simp only [Act.put, Act.eval, List.setIfInBounds_toArray, List.set_cons_zero, List.set_cons_succ, Array.getD_eq_getD_getElem?, List.getElem?_toArray, List.getElem?_cons_zero, List.getElem?_cons_succ, Option.getD_some, hadd]
      refine hw_neq _ _ _ rfl rfl cs hid rfl rfl ?_
      simp only [Act.put, Act.eval, List.setIfInBounds_toArray, List.set_cons_zero, List.set_cons_succ, Array.getD_eq_getD_getElem?, List.getElem?_toArray, List.getElem?_cons_zero, List.getElem?_cons_succ, Option.getD_some, hadd]
      refine hw_nil ?_
      have b5 : Below w.heap.size w wr.drew := b2.drew
      go_wp2
      go_roundw
      case rel => exact ⟨k + 1, by omega, by go_num, b5⟩
      case measure => simp [intOf]; omega
    · have hke : k = m := by omega
      subst hke
      go_wp2
      go_ret
      exact ⟨rfl, b2⟩
end Go.Proofs.Qxb6603900a
