import Derived.Test.Qxb6603928aAlpha
import Derived.Laws.IdiomStrings
namespace Go.Proofs.Qxb6603928a
open Go.ChangeShapes Go.WideShapes Go.ChangeAt Go.RowKit

/-- Byte number k of a text. -/
def byteAt (s : ByteArray) (k : Nat) : Int := ((s.data.getD k 0).toNat : Int)
theorem byteAt_lo (s : ByteArray) (k : Nat) : 0 ≤ byteAt s k := by unfold byteAt; omega
theorem byteAt_hi (s : ByteArray) (k : Nat) : byteAt s k ≤ 255 := by
  unfold byteAt
  have := (s.data.getD k 0).toNat_lt
  omega
theorem byteAt_eq (s : ByteArray) (k : Nat) (h : k < s.size) : ((s[k]'h).toNat : Int) = byteAt s k := by
  unfold byteAt
  have : s.data.getD k 0 = s[k]'h := by
    show s.data.getD k 0 = s.data[k]'h
    rw [Array.getD_eq_getD_getElem?, Array.getElem?_eq_getElem h]; rfl
  rw [this]

/-- The first k bytes are letters, digits or hyphens. -/
def okTo (s : ByteArray) : Nat → Bool
  | 0 => true
  | k + 1 => okTo s k && okB (byteAt s k)

theorem okTo_le (s : ByteArray) {k : Nat} (hk : okB (byteAt s k) = false) : ∀ n, k < n → okTo s n = false
  | 0, h => absurd h (Nat.not_lt_zero _)
  | n + 1, h => by
    unfold okTo
    rcases Nat.lt_succ_iff_lt_or_eq.1 h with h1 | h1
    · rw [okTo_le s hk n h1]; rfl
    · subst h1; rw [hk]; simp

def validB (s : ByteArray) : Bool := decide (0 < s.size) && okTo s s.size

theorem okB_cases (c : Int) : (c < 45 ∧ okB c = false) ∨ (c = 45 ∧ okB c = true) ∨ (45 < c ∧ c < 48 ∧ okB c = false) ∨ (48 ≤ c ∧ c ≤ 57 ∧ okB c = true) ∨ (57 < c ∧ c < 65 ∧ okB c = false) ∨ (65 ≤ c ∧ c ≤ 90 ∧ okB c = true) ∨ (90 < c ∧ c < 97 ∧ okB c = false) ∨ (97 ≤ c ∧ c ≤ 122 ∧ okB c = true) ∨ (122 < c ∧ okB c = false) := by
  unfold okB
  simp only [Bool.or_eq_true, Bool.or_eq_false_iff, decide_eq_true_eq, decide_eq_false_iff_not]
  omega

theorem cell_bytes (w : World) (s : ByteArray) (cap : Nat) (e : TypeId) (fr : Nat × Nat) (k : Nat) (hk : k < s.size) :
    (w.alloc (.cells (bytesRow s cap) e fr)).cell? ⟨w.heap.size, k, none⟩ = some (.int .u8 (byteAt s k)) := by
  rw [cell_of_row _ _ _ _ _ _ (heap_alloc_new w _)]
  unfold bytesRow
  rw [Array.getElem?_append_left (by simpa using hk)]
  have hk' : k < s.data.size := hk
  rw [← byteAt_eq s k hk]
  rw [Array.getElem?_map, Array.getElem?_eq_getElem hk']
  rfl

set_option maxHeartbeats 1000000 in
theorem valid_any (s : ByteArray) (hs : s.size ≤ 1048576) (w : World) :
    Calls Try.prog 15 #[.string s] w fun e w' => e = .returned (.bool (validB s)) ∧ Below w.heap.size w w' := by
  have hcv := fun w s => run_bytes_of_string (P := Try.prog) w 9 28 5 s Try.underlying9 Try.underlying28 Try.underlying5
  by_cases h0 : s.size = 0
  · have he : s.toList.isEmpty = true := by
      rw [ByteArray.toList_eq]; simp; exact Array.eq_empty_of_size_eq_zero h0
    have HV : Hid (validB s = false) := by show validB s = false; unfold validB; simp [h0]
    go_enter Try.func15, Try.ntmps15
    go_wp2
    go_ret
    exact ⟨by rw [HV.out]; rfl, Below.refl _ _⟩
  · have he : s.toList.isEmpty = false := by
      rw [ByteArray.toList_eq]
      cases hd : s.data.toList with
      | nil => exact absurd (by show s.data.size = 0; rw [← Array.length_toList, hd]; rfl) h0
      | cons a l => rfl
    go_enter Try.func15, Try.ntmps15
    go_wp2
    generalize grownCap w s.size 0 5 = cap at *
    have BW : Below w.heap.size w (w.alloc (.cells (bytesRow s cap) 5 ((bytesRow s cap).size, (bytesRow s cap).size + 1))).drew := ((Below.refl _ _).alloc (Nat.le_refl _) _).drew
    go_loop [10] (fun i => ∃ k : Nat, k ≤ s.size ∧ i = .int .i64 k ∧ okTo s k = true) (fun i => s.size - (intOf i).toNat)
    case atStart => exact ⟨0, Nat.zero_le _, rfl, rfl⟩
    case round =>
      obtain ⟨k, hk, rfl, hok⟩ := hrel
      have HK : Hid (okTo s k = true) := hok
      clear hok
      by_cases hlt : k < s.size
      · have hcell := cell_bytes w s cap 5 ((bytesRow s cap).size, (bytesRow s cap).size + 1) k hlt
        have HF0 : Hid (okB (byteAt s k) = false → validB s = false) := fun h => by unfold validB; rw [okTo_le s h s.size hlt]; simp
        have HT0 : Hid (okB (byteAt s k) = true → okTo s (k + 1) = true) := fun h => by unfold okTo; rw [HK.out, h]; rfl
        have c0 := byteAt_lo s k
        have c1 := byteAt_hi s k
        have hcs := okB_cases (byteAt s k)
        generalize byteAt s k = c at *
        rcases hcs with ⟨g1, hb⟩ | ⟨g1, hb⟩ | ⟨g1, g2, hb⟩ | ⟨g1, g2, hb⟩ | ⟨g1, g2, hb⟩ | ⟨g1, g2, hb⟩ | ⟨g1, g2, hb⟩ | ⟨g1, g2, hb⟩ | ⟨g1, hb⟩
        · have HF : Hid (validB s = false) := HF0.out hb
          have hq : (c == 45) = false := by simp; omega
          clear hb
          go_wp2
          go_ret
          exact ⟨by rw [HF.out]; rfl, BW⟩
        · have HT : Hid (okTo s (k + 1) = true) := HT0.out hb
          have hq : (c == 45) = true := by simp [g1]
          have g2 : c ≤ 45 := by omega
          have g3 : 45 ≤ c := by omega
          clear hb g1
          go_wp2
          go_round
          case rel => exact ⟨k + 1, by omega, by go_num, HT.out⟩
          case measure => simp [intOf]; omega
        · have HF : Hid (validB s = false) := HF0.out hb
          have hq : (c == 45) = false := by simp; omega
          clear hb
          go_wp2
          go_ret
          exact ⟨by rw [HF.out]; rfl, BW⟩
        · have HT : Hid (okTo s (k + 1) = true) := HT0.out hb
          have hq : (c == 45) = false := by simp; omega
          clear hb
          go_wp2
          go_round
          case rel => exact ⟨k + 1, by omega, by go_num, HT.out⟩
          case measure => simp [intOf]; omega
        · have HF : Hid (validB s = false) := HF0.out hb
          have hq : (c == 45) = false := by simp; omega
          have q57 : decide (c ≤ 57) = false := by simp; omega
          clear hb
          go_wp2
          go_ret
          exact ⟨by rw [HF.out]; rfl, BW⟩
        · have HT : Hid (okTo s (k + 1) = true) := HT0.out hb
          have hq : (c == 45) = false := by simp; omega
          clear hb
          go_wp2
          go_round
          case rel => exact ⟨k + 1, by omega, by go_num, HT.out⟩
          case measure => simp [intOf]; omega
        · have HF : Hid (validB s = false) := HF0.out hb
          have hq : (c == 45) = false := by simp; omega
          have q57 : decide (c ≤ 57) = false := by simp; omega
          have q90 : decide (c ≤ 90) = false := by simp; omega
          clear hb
          go_wp2
          go_ret
          exact ⟨by rw [HF.out]; rfl, BW⟩
        · have HT : Hid (okTo s (k + 1) = true) := HT0.out hb
          have hq : (c == 45) = false := by simp; omega
          clear hb
          go_wp2
          go_round
          case rel => exact ⟨k + 1, by omega, by go_num, HT.out⟩
          case measure => simp [intOf]; omega
        · have HF : Hid (validB s = false) := HF0.out hb
          have hq : (c == 45) = false := by simp; omega
          have q57 : decide (c ≤ 57) = false := by simp; omega
          have q90 : decide (c ≤ 90) = false := by simp; omega
          have q122 : decide (c ≤ 122) = false := by simp; omega
          clear hb
          go_wp2
          go_ret
          exact ⟨by rw [HF.out]; rfl, BW⟩
      · have HV : Hid (validB s = true) := by
          have : k = s.size := by omega
          show validB s = true
          unfold validB
          rw [← this, HK.out]
          simp; omega
        go_wp2
        go_ret
        exact ⟨by rw [HV.out]; rfl, BW⟩
end Go.Proofs.Qxb6603928a
