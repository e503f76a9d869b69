import Derived.Test.Qxb6603900aHeld2
namespace Go.Proofs.Qxb6603900a
open Go.RowKit
set_option linter.unusedSimpArgs false
set_option linter.unusedVariables false

/-! THE SAME WALK, BUT BEHIND THE OPERATIONS 'T' NOTHING IS ASKED OF THE WORLD: each of them waits for every operation that is taken first, so none of those can come behind it. -/
section
variable {P : Program} {ops : Array Oper} {Q : Exit → Act → World → Prop} {S : World → Prop}

/-- Whatever order is picked; S behind every operation that is not among T. -/
def AnyT (P : Program) (ops : Array Oper) (Q : Exit → Act → World → Prop) (S : World → Prop) (T : Nat → Bool) : Nat → Array Bool → Act → World → Prop
  | 0, listed, a, w => Region.ready .any ops listed = [] ∧ Q .normal a w
  | n + 1, listed, a, w => (Region.ready .any ops listed = [] → Q .normal a w) ∧
      ∀ i ∈ Region.ready .any ops listed, wpOp P ops Q i (fun a' w' => (T i = false → S w') ∧ AnyT P ops Q S T n (listed.setIfInBounds i true) a' w') a w

theorem any_of_T {T : Nat → Bool} : ∀ (n : Nat) (listed : Array Bool) (a : Act) (w : World), AnyT P ops Q S T n listed a w → wpAny P .any ops Q n listed a w
  | 0, _, _, _, h => h
  | n + 1, _, _, _, h => ⟨h.1, fun i hi => wpOp_mono (fun a' w' h' => any_of_T n _ a' w' h'.2) (h.2 i hi)⟩

/-- j waits for i. -/
def waitsB (ops : Array Oper) (j i : Nat) : Bool := ((ops[j]?).map fun o => o.after.any fun e => Region.binds .any e && e.on == i).getD false

theorem not_ready {listed : Array Bool} {i j : Nat} (hw : waitsB ops j i = true) (hi : i ∈ Region.ready .any ops listed) : j ∉ Region.ready .any ops listed := fun hj => by
  obtain ⟨_, oj, hoj, hall⟩ := mem_ready.1 hj
  unfold waitsB at hw
  rw [hoj] at hw
  simp only [Option.map_some, Option.getD_some] at hw
  obtain ⟨e, he, hb⟩ := Array.any_eq_true'.1 hw
  simp only [Bool.and_eq_true, beq_iff_eq] at hb
  have h1 := hall e he hb.1
  have h0 := (mem_ready.1 hi).1
  rw [hb.2] at h1
  rcases Nat.lt_or_ge i listed.size with h' | h'
  · simp [h'] at h0 h1; rw [h0] at h1; cases h1
  · simp [Array.getElem?_eq_none h'] at h1

theorem takeT {T : Nat → Bool} {i : Nat} {oi : Oper} {v : Value} (hi : ops[i]? = some oi) (hs : Region.noSelect ops = true) (hQ : ∀ c a t w, Q (.panic c) (Act.mk t a.defers) w → Q (.panic c) a w)
    (hT : ∀ j, T j = true → waitsB ops j i = true) : ∀ (n : Nat) (listed : Array Bool) (a : Act) (w : World),
      (∀ j oj, ops[j]? = some oj → j ≠ i → listed.getD j true = false → (∀ e ∈ oj.after, Region.binds .any e = true → e.on ≠ i) → oi.apart ops oj = true) →
      i ∈ Region.ready .any ops listed → YieldsIf P ops S oi v a → S w → AnyT P ops Q S T n (listed.setIfInBounds i true) (a.put oi.dst v) w → AnyT P ops Q S T (n + 1) listed a w
  | 0, listed, a, w, _, hr, hy, hS, H => by
    refine ⟨fun h => (by rw [h] at hr; cases hr), fun j hj => ?_⟩
    by_cases hji : j = i
    · subst hji; exact hy.wpOp hi hS ⟨fun _ => hS, H⟩
    · have := ready_mono hj hji
      rw [H.1] at this
      cases this
  | n + 1, listed, a, w, hfree, hr, hy, hS, H => by
    refine ⟨fun h => (by rw [h] at hr; cases hr), fun j hj => ?_⟩
    by_cases hji : j = i
    · subst hji; exact hy.wpOp hi hS ⟨fun _ => hS, H⟩
    · have hTj : T j = false := by
        cases hc : T j with
        | false => rfl
        | true => exact absurd hj (not_ready (hT j hc) hr)
      obtain ⟨hjun, oj, hoj, hall⟩ := mem_ready.1 hj
      have hno : ∀ e ∈ oj.after, Region.binds .any e = true → e.on ≠ i := fun e he hb heq =>
        not_ready (i := i) (j := j) (by unfold waitsB; rw [hoj]; simp only [Option.map_some, Option.getD_some]; exact Array.any_eq_true'.2 ⟨e, he, by simp [hb, heq]⟩) hr hj
      have hap := hfree j oj hoj hji hjun hno
      have h2 := wpOp_putIf hoj hap (fun cs b => Region.noSelect_spec hs i oi cs b hi) (fun cs b => Region.noSelect_spec hs j oj cs b hoj) (fun c a w h => put_panic hQ h) hy (H.2 j (ready_mono hj hji))
      refine wpOp_mono (fun a' w' h3 => ⟨h3.2.1, ?_⟩) h2
      refine takeT hi hs hQ hT n (listed.setIfInBounds j true) a' w' (fun k ok hk hki hun hno' => ?_) (ready_mono hr (Ne.symm hji)) h3.1 (h3.2.1 hTj) ?_
      · refine hfree k ok hk hki ?_ hno'
        by_cases hjk : j = k
        · subst hjk; exact hjun
        · rw [getD_set_ne true hjk] at hun; exact hun
      · rw [Array.setIfInBounds_comm _ _ hji]
        exact h3.2.2

/-- The tail: one operation after the other, nothing asked. -/
def Tl (P : Program) (ops : Array Oper) (Q : Exit → Act → World → Prop) : List Oper → Act → World → Prop
  | [], a, w => Q .normal a w
  | o :: l, a, w => ∀ K : Act → World → Prop, Shut (∀ a' w', Tl P ops Q l a' w' → K a' w') →
      if Region.wanted o (yielded ops a.tmps) = true then Oper.wp P o a w K Q else K (a.put o.dst undef) w

def tailB (ops : Array Oper) : List Nat → Array Bool → Bool
  | [], listed => (Region.ready .any ops listed).isEmpty
  | i :: l, listed => (Region.ready .any ops listed == [i]) && tailB ops l (listed.setIfInBounds i true)

/-- The head: 'true': what is taken first; 'false': what is carried out, S behind it. -/
def Hq (P : Program) (ops : Array Oper) (Q : Exit → Act → World → Prop) (S : World → Prop) (t : List Oper) : List (Oper × Bool) → Act → World → Prop
  | [], a, w => Tl P ops Q t a w
  | (o, true) :: l, a, w => ∃ v, YieldsIf P ops S o v a ∧ Hq P ops Q S t l (a.put o.dst v) w
  | (o, false) :: l, a, w => ∀ K : Act → World → Prop, Shut (∀ a' w', S w' → (S w' → Hq P ops Q S t l a' w') → K a' w') →
      if Region.wanted o (yielded ops a.tmps) = true then Oper.wp P o a w K Q else K (a.put o.dst undef) w

def headB (ops : Array Oper) (t : List Nat) : List (Nat × Bool) → Array Bool → Bool
  | [], listed => tailB ops t listed
  | (i, true) :: l, listed => Region.free .any ops listed i && (Region.ready .any ops listed).contains i && t.all (fun j => waitsB ops j i) && headB ops t l (listed.setIfInBounds i true)
  | (i, false) :: l, listed => (Region.ready .any ops listed == [i]) && headB ops t l (listed.setIfInBounds i true)

theorem AnyT_tail (T : Nat → Bool) : ∀ (l : List Nat) (listed : Array Bool) (a : Act) (w : World), (∀ i ∈ l, T i = true) → tailB ops l listed = true →
    Tl P ops Q (l.map fun i => ops.getD i default) a w → AnyT P ops Q S T l.length listed a w
  | [], listed, a, w, _, hB, h => ⟨by simpa [tailB] using hB, h⟩
  | i :: l, listed, a, w, hT, hB, h => by
    simp only [tailB, Bool.and_eq_true, beq_iff_eq] at hB
    obtain ⟨hr, hB⟩ := hB
    have hi : ops[i]? = some (ops.getD i default) := by
      have := lt_of_ready (ops := ops) (listed := listed) (i := i) (by rw [hr]; simp)
      simp [this]
    refine ⟨fun h0 => (by rw [hr] at h0; cases h0), fun j hj => ?_⟩
    rw [hr] at hj
    obtain rfl := List.mem_singleton.1 hj
    refine wpOp_step hi fun K' hK' => ?_
    exact h K' (fun a' w' hW' => hK' a' w' ⟨fun hc => (by rw [hT j (List.mem_cons_self ..)] at hc; cases hc), AnyT_tail T l _ a' w' (fun k hk => hT k (List.mem_cons_of_mem _ hk)) hB hW'⟩)

theorem AnyT_head (hs : Region.noSelect ops = true) (hQ : ∀ c a t w, Q (.panic c) (Act.mk t a.defers) w → Q (.panic c) a w) (t : List Nat) : ∀ (l : List (Nat × Bool)) (listed : Array Bool) (a : Act) (w : World), headB ops t l listed = true → S w →
    Hq P ops Q S (t.map fun i => ops.getD i default) (pick ops l) a w → AnyT P ops Q S (fun j => t.contains j) (l.length + t.length) listed a w
  | [], listed, a, w, hB, _, h => by
    rw [List.length_nil, Nat.zero_add]
    exact AnyT_tail _ t listed a w (fun i hi => by simpa using hi) hB h
  | (i, true) :: l, listed, a, w, hB, hS, h => by
    simp only [headB, Bool.and_eq_true] at hB
    obtain ⟨⟨⟨hf, hr⟩, ht⟩, hB⟩ := hB
    obtain ⟨v, hy, hK⟩ := h
    have hi : ops[i]? = some (ops.getD i default) := by
      have := lt_of_ready (by simpa using hr)
      simp [this]
    rw [List.length_cons, Nat.add_right_comm]
    refine takeT hi hs hQ (fun j hj => List.all_eq_true.1 ht j (by simpa using hj)) _ listed a w (Region.free_spec hi hf) (by simpa using hr) hy hS ?_
    exact AnyT_head hs hQ t l _ _ _ hB hS hK
  | (i, false) :: l, listed, a, w, hB, hS, h => by
    simp only [headB, Bool.and_eq_true, beq_iff_eq] at hB
    obtain ⟨hr, hB⟩ := hB
    have hi : ops[i]? = some (ops.getD i default) := by
      have := lt_of_ready (ops := ops) (listed := listed) (i := i) (by rw [hr]; simp)
      simp [this]
    rw [List.length_cons, Nat.add_right_comm]
    refine ⟨fun h0 => (by rw [hr] at h0; cases h0), fun j hj => ?_⟩
    rw [hr] at hj
    obtain rfl := List.mem_singleton.1 hj
    refine wpOp_step hi fun K' hK' => ?_
    exact h K' (fun a' w' hS' hW' => hK' a' w' ⟨fun _ => hS', AnyT_head hs hQ t l _ a' w' hB hS' (hW' hS')⟩)

/-- THE REGION: the operations 'l' in their order, those of 't' behind them. -/
theorem wp_region_T {id : Nat} {a : Act} {w : World} (l : List (Nat × Bool)) (t : List Nat) (hm : P.follows .mixedOrders = true) (hs : Region.noSelect ops = true) (hlen : l.length + t.length = ops.size)
    (hB : headB ops t l (Array.replicate ops.size false) = true) (hQ : ∀ c a t w, Q (.panic c) (Act.mk t a.defers) w → Q (.panic c) a w) (hS : S w.drew)
    (h : Hq P ops Q S (t.map fun i => ops.getD i default) (pick ops l) a w.drew) : (Code.region id ops true).wp P Q a w := by
  refine wp_region_any hm ?_
  have := any_of_T _ _ _ _ (AnyT_head (P := P) (S := S) hs hQ t l (Array.replicate ops.size false) a w.drew hB hS h)
  rw [hlen] at this
  exact this

theorem hq_nil {t : List Oper} {a : Act} {w : World} (h : Tl P ops Q t a w) : Hq P ops Q S t [] a w := h
theorem hq_take {t : List Oper} {o : Oper} {l : List (Oper × Bool)} {a : Act} {w : World} (v : Value) (hw : Region.wanted o (yielded ops a.tmps) = true)
    (hy : ∀ w, S w → (execOp a.eval o).run P w = .ok (.value v) w) (h : Hq P ops Q S t l (a.put o.dst v) w) : Hq P ops Q S t ((o, true) :: l) a w :=
  ⟨v, Or.inl ⟨hw, hy⟩, h⟩
theorem hq_ex {t : List Oper} {o : Oper} {l : List (Oper × Bool)} {a : Act} {w : World} (hw : Region.wanted o (yielded ops a.tmps) = true)
    (h : ∃ v, (∀ w, S w → (execOp a.eval o).run P w = .ok (.value v) w) ∧ Hq P ops Q S t l (a.put o.dst v) w) : Hq P ops Q S t ((o, true) :: l) a w :=
  let ⟨v, h1, h2⟩ := h
  hq_take v hw h1 h2
theorem hq_move {t : List Oper} {o : Oper} {l : List (Oper × Bool)} {a : Act} {w : World} (x : Operand) (ho : o.op = .move x) (hw : Region.wanted o (yielded ops a.tmps) = true)
    (h : Hq P ops Q S t l (a.put o.dst (a.eval x)) w) : Hq P ops Q S t ((o, true) :: l) a w :=
  hq_take _ hw (fun w _ => by unfold execOp; simp only [ho]; rfl) h
theorem hq_load {t : List Oper} {o : Oper} {l : List (Oper × Bool)} {a : Act} {w : World} (ty : TypeId) (x : Operand) (ho : o.op = .load ty x) (hw : Region.wanted o (yielded ops a.tmps) = true)
    (b off : Nat) (hx : a.eval x = .pointer (some ⟨b, off, none⟩)) (cs : List Value) (d : TypeDesc) (hS : ∀ w, S w → w.rangeAt b off cs)
    (hu : P.underlying ty = some d) (hd : d.isRow = true) (hi : (P.info? ty).map (·.size) = some cs.length)
    (h : Hq P ops Q S t l (a.put o.dst (.agg cs.toArray)) w) : Hq P ops Q S t ((o, true) :: l) a w :=
  ⟨_, yieldsIf_load_mid hw ty x ho b off hx cs d hS hu hd hi, h⟩
theorem hq_load1 {t : List Oper} {o : Oper} {l : List (Oper × Bool)} {a : Act} {w : World} (ty : TypeId) (x : Operand) (ho : o.op = .load ty x) (hw : Region.wanted o (yielded ops a.tmps) = true)
    (b off : Nat) (hx : a.eval x = .pointer (some ⟨b, off, none⟩)) (v : Value) (d : TypeDesc) (hS : ∀ w, S w → w.cell? ⟨b, off, none⟩ = some v)
    (hu : P.underlying ty = some d) (hd : d.isRow = false)
    (h : Hq P ops Q S t l (a.put o.dst v) w) : Hq P ops Q S t ((o, true) :: l) a w :=
  hq_take v hw (fun w hw' => by
    unfold execOp
    simp only [ho, hx, Instr.loadAt, Instr.sureAddr, Sem.run_bind, Sem.run_pure, Result.andThen_ok, run_loadVar_one w _ ty v d (hS w hw') hu hd]) h
theorem hq_build {t : List Oper} {o : Oper} {l : List (Oper × Bool)} {a : Act} {w : World} (ty : TypeId) (ps : Array (Nat × Operand)) (vs : Array (Nat × Value)) (v : Value) (ho : o.op = .build ty ps) (hw : Region.wanted o (yielded ops a.tmps) = true)
    (hr : ∀ w, (Instr.build ty vs).run P w = .ok v w) (hv : (ps.map fun (i, x) => (i, a.eval x)) = vs)
    (h : Hq P ops Q S t l (a.put o.dst v) w) : Hq P ops Q S t ((o, true) :: l) a w :=
  hq_take v hw (fun w _ => by
    unfold execOp
    simp only [ho, hv, Sem.run_bind, Sem.run_pure, hr w, Result.andThen_ok]) h
theorem hq_do {t : List Oper} {o : Oper} {l : List (Oper × Bool)} {a : Act} {w : World} (hw : Region.wanted o (yielded ops a.tmps) = true)
    (h : ∀ K : Act → World → Prop, Shut (∀ a' w', S w' → (S w' → Hq P ops Q S t l a' w') → K a' w') → Oper.wp P o a w K Q) : Hq P ops Q S t ((o, false) :: l) a w := by
  intro K hK
  rw [if_pos hw]
  exact h K hK
theorem tl_nil {a : Act} {w : World} (h : Q .normal a w) : Tl P ops Q [] a w := h
theorem tl_do {o : Oper} {l : List Oper} {a : Act} {w : World} (hw : Region.wanted o (yielded ops a.tmps) = true)
    (h : ∀ K : Act → World → Prop, Shut (∀ a' w', Tl P ops Q l a' w' → K a' w') → Oper.wp P o a w K Q) : Tl P ops Q (o :: l) a w := by
  intro K hK
  rw [if_pos hw]
  exact h K hK
end
end Go.Proofs.Qxb6603900a
