import Derived.Test.Qxb6603900aDigits
import Derived.ShutString
import Derived.ChangeOld
import Derived.Below
namespace Go.Proofs.Qxb6603900a
open Go.ChangeShapes Go.WideShapes Go.ChangeAt Go.RowKit

theorem Try.own : ownKnob Try.prog.godebug = none := by kernel_rfl
theorem Try.laidOut : laidOutB Try.prog = true := by kernel_rfl
theorem Try.cells22 : Try.prog.cellsOf 22 = 20 := by kernel_rfl
theorem Try.cells5 : Try.prog.cellsOf 5 = 1 := by kernel_rfl

section
variable {H : Type} {enc : TypeId × Value → H} {w : World} {base : Nat} {spare : Nat → Bool} {held : Bool}

/-- Twenty cells that read as a [20]byte are an ID. -/
theorem id_of_trod {fuel : Nat} {cs : List Value} {x : DataW H × List MemPlace} (h : DataW.trod enc Try.prog w base spare held fuel 22 cs = some x) : ∃ b, IsID cs b := by
  obtain ⟨xs, m, _, _, hl, hn, hf⟩ := DataW.trod_array Try.underlying22 h
  rw [Try.cells22] at hl
  have key : ∀ i, i < 20 → ∃ n : Int, cs[i]? = some (.int .u8 n) ∧ 0 ≤ n ∧ n ≤ 255 := fun i hi => by
    have h1 := hf i hi
    rw [Try.cells5, Nat.mul_one, List.getElem?_eq_getElem (by omega)] at h1
    obtain ⟨n, e0, _, wn⟩ := DataW.trod_int Try.underlying5 h1
    have hb := bounds_u8 wn
    have h2 : (cs.drop i).take 1 = [cs[i]'(by omega)] := by
      rw [List.drop_eq_getElem_cons (by omega), List.take_succ_cons, List.take_zero]
    rw [h2] at e0
    simp at e0
    exact ⟨n, by rw [List.getElem?_eq_getElem (by omega), e0], hb⟩
  refine ⟨fun i => if hi : i < 20 then Classical.choose (key i hi) else 0, hl, fun i hi => ?_, fun i => ?_, fun i => ?_⟩
  · rw [dif_pos hi]; exact (Classical.choose_spec (key i hi)).1
  · by_cases hi : i < 20
    · simp only [dif_pos hi]; exact (Classical.choose_spec (key i hi)).2.1
    · simp only [dif_neg hi]; omega
  · by_cases hi : i < 20
    · simp only [dif_pos hi]; exact (Classical.choose_spec (key i hi)).2.2
    · simp only [dif_neg hi]; omega

theorem okWide_array {P : Program} {w : World} {r : Reach} {base : Nat} {t e : TypeId} {n : Nat} {v : Value} (ht : P.underlying t = some (.array n e)) (h : Value.okWide P w r base t v) : ∃ cs, v = .agg cs := by
  unfold Value.okWide at h
  rw [ht] at h
  obtain ⟨cs, rfl, _⟩ := h
  exact ⟨cs, rfl⟩

theorem open_id {r : Reach} {b0 : Nat} {v : Value} {d : DataW H} {p : List MemPlace} (hv : Value.okWide Try.prog w r b0 22 v) (h : DataW.Trod enc Try.prog w base spare held 22 v d p) :
    ∃ (cs : List Value) (b : Nat → Int), v = .agg cs.toArray ∧ IsID cs b := by
  obtain ⟨cs, rfl⟩ := okWide_array Try.underlying22 hv
  obtain ⟨fuel, hf⟩ := h
  obtain ⟨b, hb⟩ := id_of_trod (cs := cs.toList) (by simpa [Value.cells] using hf)
  exact ⟨cs.toList, b, by simp, hb⟩
end

end Go.Proofs.Qxb6603900a
