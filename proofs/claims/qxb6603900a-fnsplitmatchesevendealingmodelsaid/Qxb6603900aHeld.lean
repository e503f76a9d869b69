import Derived.Test.Qxb6603900aKit
namespace Go.Proofs.Qxb6603900a
open Go.RowKit

/-! A REGION THAT DRAWS ITS ORDER, WALKED ONCE, IN AN ORDER THAT THE PROVER NAMES: 'true': an operation that yields its value in every world that meets S (it may be taken first: 'wpAnyH_take'); 'false': an operation that is carried out when nothing else may come up. -/
section
variable {P : Program} {ops : Array Oper} {Q : Exit → Act → World → Prop} {S : World → Prop}

def Hw (P : Program) (ops : Array Oper) (Q : Exit → Act → World → Prop) (S : World → Prop) : List (Oper × Bool) → Act → World → Prop
  | [], a, w => Q .normal a w
  | (o, true) :: l, a, w => ∃ v, YieldsIf P ops S o v a ∧ Hw P ops Q S l (a.put o.dst v) w
  | (o, false) :: l, a, w => ∀ K : Act → World → Prop, Shut (∀ a' w', S w' → (S w' → Hw P ops Q S l a' w') → K a' w') →
      if Region.wanted o (yielded ops a.tmps) = true then Oper.wp P o a w K Q else K (a.put o.dst undef) w

def pick (ops : Array Oper) (l : List (Nat × Bool)) : List (Oper × Bool) := l.map fun p => (ops.getD p.1 default, p.2)

def ordB (ops : Array Oper) : List (Nat × Bool) → Array Bool → Bool
  | [], listed => (Region.ready .any ops listed).isEmpty
  | (i, true) :: l, listed => Region.free .any ops listed i && (Region.ready .any ops listed).contains i && ordB ops l (listed.setIfInBounds i true)
  | (i, false) :: l, listed => (Region.ready .any ops listed == [i]) && ordB ops l (listed.setIfInBounds i true)

theorem lt_of_ready {ops : Array Oper} {listed : Array Bool} {i : Nat} (h : i ∈ Region.ready .any ops listed) : i < ops.size := by
  have := (List.mem_filter.1 h).1
  simpa using this

theorem put_panic (hQ : ∀ c a t w, Q (.panic c) (Act.mk t a.defers) w → Q (.panic c) a w) {c : List PanicEntry} {a : Act} {d : Option Tmp} {v : Value} {w : World} (h : Q (.panic c) (a.put d v) w) : Q (.panic c) a w := by
  cases d with
  | none => exact h
  | some d => exact hQ _ _ _ _ h

theorem wpAnyH_of_Hw (hs : Region.noSelect ops = true) (hQ : ∀ c a t w, Q (.panic c) (Act.mk t a.defers) w → Q (.panic c) a w) : ∀ (l : List (Nat × Bool)) (listed : Array Bool) (a : Act) (w : World),
    ordB ops l listed = true → S w → Hw P ops Q S (pick ops l) a w → wpAnyH P .any ops Q S l.length listed a w
  | [], listed, a, w, hB, _, h => ⟨by simpa [ordB] using hB, h⟩
  | (i, true) :: l, listed, a, w, hB, hS, h => by
    simp only [ordB, Bool.and_eq_true] at hB
    obtain ⟨⟨hf, hr⟩, hB⟩ := hB
    obtain ⟨v, hy, hK⟩ := h
    have hi : ops[i]? = some (ops.getD i default) := by
      have := lt_of_ready (by simpa using hr)
      simp [this]
    exact wpAnyH_take hi hs hf hr (fun c a w h => put_panic hQ h) hy hS (wpAnyH_of_Hw hs hQ l _ _ _ hB hS hK)
  | (i, false) :: l, listed, a, w, hB, hS, h => by
    simp only [ordB, Bool.and_eq_true, beq_iff_eq] at hB
    obtain ⟨hr, hB⟩ := hB
    have hi : ops[i]? = some (ops.getD i default) := by
      have := lt_of_ready (ops := ops) (listed := listed) (i := i) (by rw [hr]; simp)
      simp [this]
    refine wpAnyH_all hr (by simp) fun j hj => ?_
    rw [List.mem_singleton.1 hj]
    refine wpOp_step hi fun K' hK' => ?_
    exact h K' (fun a' w' hS' hW' => hK' a' w' ⟨hS', wpAnyH_of_Hw hs hQ l _ _ _ hB hS' (hW' hS')⟩)

/-- THE REGION. -/
theorem wp_region_Hw {id : Nat} {a : Act} {w : World} (l : List (Nat × Bool)) (hm : P.follows .mixedOrders = true) (hs : Region.noSelect ops = true) (hlen : l.length = ops.size)
    (hB : ordB ops l (Array.replicate ops.size false) = true) (hQ : ∀ c a t w, Q (.panic c) (Act.mk t a.defers) w → Q (.panic c) a w)
    (hS : S w.drew) (h : S w.drew → Hw P ops Q S (pick ops l) a w.drew) : (Code.region id ops true).wp P Q a w :=
  wp_region_held_drew hm hS fun hS' => by
    have := wpAnyH_of_Hw hs hQ l _ a w.drew hB hS' (h hS')
    rwa [hlen] at this

theorem hw_nil {a : Act} {w : World} (h : Q .normal a w) : Hw P ops Q S [] a w := h

/-- A quiet operation. -/
theorem hw_take {o : Oper} {l : List (Oper × Bool)} {a : Act} {w : World} (v : Value) (hw : Region.wanted o (yielded ops a.tmps) = true)
    (hy : ∀ w, S w → (execOp a.eval o).run P w = .ok (.value v) w) (h : Hw P ops Q S l (a.put o.dst v) w) : Hw P ops Q S ((o, true) :: l) a w :=
  ⟨v, Or.inl ⟨hw, hy⟩, h⟩

theorem hw_ex {o : Oper} {l : List (Oper × Bool)} {a : Act} {w : World} (hw : Region.wanted o (yielded ops a.tmps) = true)
    (h : ∃ v, (∀ w, S w → (execOp a.eval o).run P w = .ok (.value v) w) ∧ Hw P ops Q S l (a.put o.dst v) w) : Hw P ops Q S ((o, true) :: l) a w :=
  let ⟨v, h1, h2⟩ := h
  hw_take v hw h1 h2

theorem hw_move {o : Oper} {l : List (Oper × Bool)} {a : Act} {w : World} (x : Operand) (ho : o.op = .move x) (hw : Region.wanted o (yielded ops a.tmps) = true)
    (h : Hw P ops Q S l (a.put o.dst (a.eval x)) w) : Hw P ops Q S ((o, true) :: l) a w :=
  hw_take _ hw (fun w _ => by unfold execOp; simp only [ho]; rfl) h

/-- A guarded operation that is passed over. -/
theorem hw_skip {o : Oper} {l : List (Oper × Bool)} {a : Act} {w : World} (hw : Region.wanted o (yielded ops a.tmps) = false)
    (h : Hw P ops Q S l (a.put o.dst undef) w) : Hw P ops Q S ((o, true) :: l) a w :=
  ⟨undef, Or.inr ⟨hw, rfl⟩, h⟩

/-- A load of an array or a struct. -/
theorem hw_load {o : Oper} {l : List (Oper × Bool)} {a : Act} {w : World} (ty : TypeId) (x : Operand) (ho : o.op = .load ty x) (hw : Region.wanted o (yielded ops a.tmps) = true)
    (b off : Nat) (hx : a.eval x = .pointer (some ⟨b, off, none⟩)) (cs : List Value) (d : TypeDesc) (hS : ∀ w, S w → w.rangeAt b off cs)
    (hu : P.underlying ty = some d) (hd : d.isRow = true) (hi : (P.info? ty).map (·.size) = some cs.length)
    (h : Hw P ops Q S l (a.put o.dst (.agg cs.toArray)) w) : Hw P ops Q S ((o, true) :: l) a w :=
  ⟨_, yieldsIf_load_mid hw ty x ho b off hx cs d hS hu hd hi, h⟩

/-- An operation that is carried out. -/
theorem hw_do {o : Oper} {l : List (Oper × Bool)} {a : Act} {w : World} (hw : Region.wanted o (yielded ops a.tmps) = true)
    (h : ∀ K : Act → World → Prop, Shut (∀ a' w', S w' → (S w' → Hw P ops Q S l a' w') → K a' w') → Oper.wp P o a w K Q) : Hw P ops Q S ((o, false) :: l) a w := by
  intro K hK
  rw [if_pos hw]
  exact h K hK
end
end Go.Proofs.Qxb6603900a
