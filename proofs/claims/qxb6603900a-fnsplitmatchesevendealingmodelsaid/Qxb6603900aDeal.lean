namespace Go.Proofs.Qxb6603900a

/-! THE PLAIN DEALING: no Go in sight. A list of pointers is a list of (key, holders). -/
section
variable {α β : Type}

/-- How many holders. -/
def cnt : List (α × List β) → Nat
  | [] => 0
  | x :: r => x.2.length + cnt r

/-- q holders are dealt: what is handed out, what is left. -/
def deal : List (α × List β) → Nat → List (α × List β) × List (α × List β)
  | [], _ => ([], [])
  | x :: r, q => if q = 0 then ([], x :: r) else if x.2.length ≤ q then (x :: (deal r (q - x.2.length)).1, (deal r (q - x.2.length)).2) else ([(x.1, x.2.take q)], (x.1, x.2.drop q) :: r)

theorem deal_zero (l : List (α × List β)) : deal l 0 = ([], l) := by
  cases l with
  | nil => rfl
  | cons x r => unfold deal; rfl
theorem deal_whole {x : α × List β} {r : List (α × List β)} {q : Nat} (h0 : 0 < q) (h : x.2.length ≤ q) : deal (x :: r) q = (x :: (deal r (q - x.2.length)).1, (deal r (q - x.2.length)).2) := by
  rw [deal, if_neg (by omega), if_pos h]
theorem deal_part {x : α × List β} {r : List (α × List β)} {q : Nat} (h0 : 0 < q) (h : q < x.2.length) : deal (x :: r) q = ([(x.1, x.2.take q)], (x.1, x.2.drop q) :: r) := by
  rw [deal, if_neg (by omega), if_neg (by omega)]

theorem cnt_deal : ∀ (l : List (α × List β)) (q : Nat), q ≤ cnt l → cnt (deal l q).1 = q ∧ cnt (deal l q).2 + q = cnt l
  | [], q, h => by simp [cnt] at h; subst h; simp [deal, cnt]
  | x :: r, q, h => by
    by_cases h0 : q = 0
    · subst h0; rw [deal_zero]; simp [cnt]
    · by_cases h1 : x.2.length ≤ q
      · rw [deal_whole (by omega) h1]
        simp only [cnt] at h ⊢
        have := cnt_deal r (q - x.2.length) (by omega)
        omega
      · rw [deal_part (by omega) (by omega)]
        simp only [cnt, List.length_take, List.length_drop]
        omega

/-- The state of the dealer: the next holder is number h of pointer p. -/
def remPH (L : List (α × List β)) (p h : Nat) : List (α × List β) :=
  match L.drop p with
  | [] => []
  | x :: r => (x.1, x.2.drop h) :: r

theorem remPH_some {L : List (α × List β)} {p h : Nat} {x : α × List β} (hx : L[p]? = some x) : remPH L p h = (x.1, x.2.drop h) :: L.drop (p + 1) := by
  unfold remPH
  have hp := (List.getElem?_eq_some_iff.1 hx).1
  rw [List.drop_eq_getElem_cons hp]
  have : L[p] = x := by simpa [List.getElem?_eq_getElem hp] using hx
  rw [this]
theorem remPH_zero (L : List (α × List β)) (p : Nat) : remPH L p 0 = L.drop p := by
  unfold remPH
  cases h : L.drop p with
  | nil => rfl
  | cons x r => simp
theorem remPH_none {L : List (α × List β)} {p h : Nat} (hp : L.length ≤ p) : remPH L p h = [] := by
  unfold remPH; rw [List.drop_eq_nil_of_le hp]

/-- ONE STEP OF THE DEALER. -/
theorem deal_step {L : List (α × List β)} {p h q : Nat} {x : α × List β} (hx : L[p]? = some x) (hh : h ≤ x.2.length) (hq : 0 < q) :
    (x.2.length - h ≤ q → deal (remPH L p h) q = ((x.1, (x.2.drop h).take (x.2.length - h)) :: (deal (remPH L (p + 1) 0) (q - (x.2.length - h))).1, (deal (remPH L (p + 1) 0) (q - (x.2.length - h))).2)) ∧
    (q < x.2.length - h → deal (remPH L p h) q = ((x.1, (x.2.drop h).take q) :: (deal (remPH L p (h + q)) 0).1, (deal (remPH L p (h + q)) 0).2)) := by
  refine ⟨fun h1 => ?_, fun h1 => ?_⟩
  · rw [remPH_some hx, remPH_zero, deal_whole hq (by simp; omega)]
    simp [List.take_of_length_le]
  · rw [remPH_some hx, deal_part hq (by simp; omega), remPH_some hx, deal_zero]
    simp [List.drop_drop]

/-- Where part number i ends. -/
def ends (total n i : Nat) : Nat := i * total / n

/-- What is left behind i parts. -/
def left (L : List (α × List β)) (total n : Nat) : Nat → List (α × List β)
  | 0 => L
  | i + 1 => (deal (left L total n i) (ends total n (i + 1) - ends total n i)).2
/-- Part number i. -/
def part (L : List (α × List β)) (total n i : Nat) : List (α × List β) := (deal (left L total n i) (ends total n (i + 1) - ends total n i)).1

theorem ends_mono {total n i : Nat} : ends total n i ≤ ends total n (i + 1) := by
  unfold ends
  exact Nat.div_le_div_right (Nat.mul_le_mul_right _ (by omega))
theorem ends_le {total n i : Nat} (hn : 0 < n) (hi : i ≤ n) : ends total n i ≤ total := by
  unfold ends
  calc i * total / n ≤ n * total / n := Nat.div_le_div_right (Nat.mul_le_mul_right _ hi)
    _ = total := Nat.mul_div_cancel_left _ hn
theorem ends_zero {total n : Nat} : ends total n 0 = 0 := by unfold ends; simp
theorem ends_last {total n : Nat} (hn : 0 < n) : ends total n n = total := by unfold ends; exact Nat.mul_div_cancel_left _ hn

theorem cnt_left {L : List (α × List β)} {n : Nat} (hn : 0 < n) : ∀ i, i ≤ n → cnt (left L (cnt L) n i) + ends (cnt L) n i = cnt L
  | 0, _ => by rw [ends_zero]; rfl
  | i + 1, hi => by
    have ih := cnt_left hn (L := L) i (by omega)
    have h1 := ends_mono (total := cnt L) (n := n) (i := i)
    have h2 := ends_le (total := cnt L) hn hi
    have := (cnt_deal (left L (cnt L) n i) (ends (cnt L) n (i + 1) - ends (cnt L) n i) (by omega)).2
    show cnt (deal (left L (cnt L) n i) (ends (cnt L) n (i + 1) - ends (cnt L) n i)).2 + _ = _
    omega
theorem cnt_part {L : List (α × List β)} {n : Nat} (hn : 0 < n) {i : Nat} (hi : i < n) : cnt (part L (cnt L) n i) = ends (cnt L) n (i + 1) - ends (cnt L) n i := by
  have ih := cnt_left hn (L := L) i (by omega)
  have h1 := ends_mono (total := cnt L) (n := n) (i := i)
  have h2 := ends_le (total := cnt L) hn (show i + 1 ≤ n by omega)
  exact (cnt_deal (left L (cnt L) n i) (ends (cnt L) n (i + 1) - ends (cnt L) n i) (by omega)).1

theorem cnt_drop {L : List (α × List β)} {p : Nat} {x : α × List β} (hx : L[p]? = some x) : cnt (L.drop p) = x.2.length + cnt (L.drop (p + 1)) := by
  have hp := (List.getElem?_eq_some_iff.1 hx).1
  rw [List.drop_eq_getElem_cons hp]
  have : L[p] = x := by simpa [List.getElem?_eq_getElem hp] using hx
  rw [this, cnt]
theorem cnt_rem {L : List (α × List β)} {p h : Nat} {x : α × List β} (hx : L[p]? = some x) : cnt (remPH L p h) = (x.2.length - h) + cnt (L.drop (p + 1)) := by
  rw [remPH_some hx, cnt]; simp
end
end Go.Proofs.Qxb6603900a
