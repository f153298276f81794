/-
  A drawn region as a plan of steps, where two operations that turn memory may come in either order.
-/
import Derived.Test.YtlbhadggfipckaaSq
set_option linter.unusedVariables false
set_option linter.unusedSimpArgs false
namespace Go.Proofs.Ytlbhadggfipckaa

/-- quiet: only reads; eff: turns memory, alone; fork: two of them, in either order. -/
inductive Plan where
  | done
  | quiet (i : Nat) (p : Plan)
  | eff (i : Nat) (p : Plan)
  | fork (i j : Nat) (p q : Plan)

def Plan.size : Plan → Nat
  | .done => 0
  | .quiet _ p => p.size + 1
  | .eff _ p => p.size + 1
  | .fork _ _ p _ => p.size + 1

def Plan.isDone : Plan → Bool
  | .done => true
  | _ => false

section
variable {P : Program} {ops : Array Oper} {Q : Exit → Act → World → Prop} {S : World → Prop} {L : Nat}

def opAt (ops : Array Oper) (i : Nat) : Oper := (ops[i]?).getD { dst := none, op := .move (.const undef), type := 0, pos := "", after := #[], guard := none }

def stepT (P : Program) (ops : Array Oper) (Q : Exit → Act → World → Prop) (o : Oper) (K : Act → World → Prop) (a : Act) (w : World) : Prop :=
  if Region.wanted o (yielded ops a.tmps) = true then o.wp P a w K Q else K (a.put o.dst undef) w

inductive PlanO where
  | done
  | quiet (o : Oper) (p : PlanO)
  | eff (b : Bool) (o : Oper) (p : PlanO)
  | fork (o o2 : Oper) (p q : PlanO)

def planO (ops : Array Oper) (L : Nat) : Plan → PlanO
  | .done => .done
  | .quiet i p => .quiet (opAt ops i) (planO ops L p)
  | .eff i p => .eff (i == L) (opAt ops i) (planO ops L p)
  | .fork i j p q => .fork (opAt ops i) (opAt ops j) (planO ops L p) (planO ops L q)

def seqT (P : Program) (ops : Array Oper) (Q : Exit → Act → World → Prop) (S : World → Prop) : PlanO → Act → World → Prop
  | .done, a, w => Q .normal a w
  | .quiet o p, a, w => ∃ v, YieldsIf P ops S o v a ∧ seqT P ops Q S p (a.put o.dst v) w
  | .eff b o p, a, w => ∀ K : Act → World → Prop, (∀ a' w', (b = true ∨ S w') → seqT P ops Q S p a' w' → K a' w') → stepT P ops Q o K a w
  | .fork o o2 p q, a, w => (∀ K : Act → World → Prop, (∀ a' w', S w' → seqT P ops Q S p a' w' → K a' w') → stepT P ops Q o K a w) ∧
      (∀ K : Act → World → Prop, (∀ a' w', S w' → seqT P ops Q S q a' w' → K a' w') → stepT P ops Q o2 K a w)

def chkT (ops : Array Oper) (L : Nat) : Array Bool → Plan → Bool
  | listed, .done => (Region.ready .any ops listed).isEmpty
  | listed, .quiet i p => (ops[i]?).isSome && ((Region.ready .any ops listed).contains i && Region.free .any ops listed i && (Nat.ble ops.size L || reach ops i ops.size L && i != L)) && chkT ops L (listed.setIfInBounds i true) p
  | listed, .eff i p => (ops[i]?).isSome && (Region.ready .any ops listed == [i] && (i != L || p.isDone)) && chkT ops L (listed.setIfInBounds i true) p
  | listed, .fork i j p q => (ops[i]?).isSome && (ops[j]?).isSome && (Region.ready .any ops listed == [i, j] && i != L && j != L && p.size == q.size) && chkT ops L (listed.setIfInBounds i true) p && chkT ops L (listed.setIfInBounds j true) q

theorem opAt_of {i : Nat} {o : Oper} (h : ops[i]? = some o) : opAt ops i = o := by simp [opAt, h]

theorem stepT_op {i : Nat} {o : Oper} (ho : ops[i]? = some o) {K : Act → World → Prop} {a : Act} {w : World} (h : stepT P ops Q o K a w) : wpOp P ops Q i K a w := by
  unfold wpOp
  unfold stepT at h
  simp only [ho]
  split
  · rename_i hw
    rw [if_pos hw] at h
    exact .inl h
  · rename_i hw
    rw [if_neg hw] at h
    exact h

theorem wpAnyC_firstN {i : Nat} {oi : Oper} {v : Value} (hi : ops[i]? = some oi) (hsel : ∀ (j : Nat) (o : Oper) cs b, ops[j]? = some o → o.op ≠ .select cs b)
    (hQ : ∀ c a d v w, Q (.panic c) (a.put d v) w → Q (.panic c) a w) (hL : ops.size ≤ L) :
    ∀ (fuel : Nat) (listed : Array Bool) (a : Act) (w : World), Closed ops listed →
      (∀ j oj, ops[j]? = some oj → j ≠ i → listed.getD j true = false → (∀ e ∈ oj.after, Region.binds .any e = true → e.on ≠ i) → oi.apart ops oj = true) →
      i ∈ Region.ready .any ops listed → YieldsIf P ops S oi v a → S w →
      wpAnyC P ops Q S L fuel (listed.setIfInBounds i true) (a.put oi.dst v) w → wpAnyC P ops Q S L (fuel + 1) listed a w := by
  intro fuel
  induction fuel with
  | zero =>
    intro listed a w _ _ hr hy hS H
    refine ⟨fun h => (by rw [h] at hr; cases hr), fun j hj => ?_⟩
    by_cases hji : j = i
    · subst hji; exact hy.wpOp hi hS ⟨.inr hS, H⟩
    · have := ready_mono hj hji
      rw [H.1] at this
      cases this
  | succ fuel ih =>
    intro listed a w hc hfree hr hy hS H
    refine ⟨fun h => (by rw [h] at hr; cases hr), fun j hj => ?_⟩
    by_cases hji : j = i
    · subst hji; exact hy.wpOp hi hS ⟨.inr hS, H⟩
    · have h1 := H.2 j (ready_mono hj hji)
      obtain ⟨hjun, oj, hoj, hall⟩ := mem_ready.1 hj
      have hi0 : ¬ listed.getD i false = true := fun h1 => by
        have h0 := (mem_ready.1 hr).1
        rcases Nat.lt_or_ge i listed.size with h' | h'
        · simp [h'] at h0 h1; rw [h0] at h1; cases h1
        · simp [Array.getElem?_eq_none h'] at h1
      have hjL : j ≠ L := fun e => by
        have := (Array.getElem?_eq_some_iff.1 hoj).1
        omega
      have hnot : ∀ e ∈ oj.after, Region.binds .any e = true → e.on ≠ i := fun e he hb heq => hi0 (heq ▸ hall e he hb)
      have h2 := wpOp_putIf hoj (hfree j oj hoj hji hjun hnot) (fun cs b => hsel i oi cs b hi) (fun cs b => hsel j oj cs b hoj) (fun c a w => hQ c a _ _ w) hy h1
      have hfree' : ∀ k ok, ops[k]? = some ok → k ≠ i → (listed.setIfInBounds j true).getD k true = false →
          (∀ e ∈ ok.after, Region.binds .any e = true → e.on ≠ i) → oi.apart ops ok = true := fun k ok hk hki hun hno => by
        refine hfree k ok hk hki ?_ hno
        by_cases hjk : j = k
        · subst hjk; exact hjun
        · rw [getD_set_ne true hjk] at hun; exact hun
      refine wpOp_mono (fun a' w' h3 => ⟨.inr (h3.2.1.resolve_left hjL), ih (listed.setIfInBounds j true) a' w' (hc.set_ hj) hfree' (ready_mono hr (Ne.symm hji)) h3.1 (h3.2.1.resolve_left hjL) ?_⟩) h2
      rw [Array.setIfInBounds_comm _ _ hji]
      exact h3.2.2

theorem seqT_sound (hs : Region.noSelect ops = true) (hQ : ∀ c a d v w, Q (.panic c) (a.put d v) w → Q (.panic c) a w) :
    ∀ (p : Plan) (listed : Array Bool) (a : Act) (w : World), Closed ops listed → chkT ops L listed p = true → (p = .done ∨ S w) → seqT P ops Q S (planO ops L p) a w → wpAnyC P ops Q S L p.size listed a w
  | .done, listed, a, w, hc, hk, hS, h => ⟨by simpa [chkT] using hk, h⟩
  | .quiet i p, listed, a, w, hc, hk, hS, h => by
    replace hS := hS.resolve_left (by simp)
    simp only [chkT, Bool.and_eq_true, Bool.or_eq_true, bne_iff_ne] at hk
    obtain ⟨⟨hk1, ⟨h1, h2⟩, h34⟩, hk3⟩ := hk
    obtain ⟨o, ho⟩ := Option.isSome_iff_exists.1 hk1
    have h1 : i ∈ Region.ready .any ops listed := by simpa using h1
    simp only [planO, seqT, opAt_of ho] at h
    obtain ⟨v, hy, h⟩ := h
    rcases h34 with hN | ⟨h3, h4⟩
    · exact wpAnyC_firstN ho (Region.noSelect_spec hs) hQ (Nat.le_of_ble_eq_true hN) p.size listed a w hc (Region.free_spec ho h2) h1 hy hS (seqT_sound hs hQ p _ _ w (hc.set_ h1) hk3 (.inr hS) h)
    exact wpAnyC_first ho (Region.noSelect_spec hs) hQ h3 h4 p.size listed a w hc (Region.free_spec ho h2) h1 hy hS (seqT_sound hs hQ p _ _ w (hc.set_ h1) hk3 (.inr hS) h)
  | .eff i p, listed, a, w, hc, hk, hS, h => by
    simp only [chkT, Bool.and_eq_true, beq_iff_eq, Bool.or_eq_true, bne_iff_ne] at hk
    obtain ⟨⟨hk1, h1, h2⟩, hk3⟩ := hk
    obtain ⟨o, ho⟩ := Option.isSome_iff_exists.1 hk1
    simp only [planO, seqT, opAt_of ho] at h
    have hir : i ∈ Region.ready .any ops listed := by rw [h1]; simp
    refine ⟨fun h0 => (by rw [h1] at h0; cases h0), fun j hj => ?_⟩
    rw [h1] at hj
    obtain rfl : j = i := by simpa using hj
    refine stepT_op ho (h (fun a' w' => (j = L ∨ S w') ∧ wpAnyC P ops Q S L p.size (listed.setIfInBounds j true) a' w') (fun a' w' hb hr => ⟨hb.imp (fun h => by simpa using h) id, seqT_sound hs hQ p _ a' w' (hc.set_ hir) hk3 (by
        rcases hb with hb | hb
        · refine .inl ?_
          have := h2.resolve_left (fun hn => hn (by simpa using hb))
          cases p <;> simp [Plan.isDone] at this ⊢
        · exact .inr hb) hr⟩))
  | .fork i j p q, listed, a, w, hc, hk, hS, h => by
    simp only [chkT, Bool.and_eq_true, beq_iff_eq, bne_iff_ne] at hk
    obtain ⟨⟨⟨⟨hk1, hk2⟩, ⟨⟨h1, h2⟩, h3⟩, h4⟩, hk3⟩, hk4⟩ := hk
    obtain ⟨o, ho⟩ := Option.isSome_iff_exists.1 hk1
    obtain ⟨o2, ho2⟩ := Option.isSome_iff_exists.1 hk2
    simp only [planO, seqT, opAt_of ho, opAt_of ho2] at h
    have hir : i ∈ Region.ready .any ops listed := by rw [h1]; simp
    have hjr : j ∈ Region.ready .any ops listed := by rw [h1]; simp
    refine ⟨fun h0 => (by rw [h1] at h0; cases h0), fun k hk => ?_⟩
    rw [h1] at hk
    have hk' : k = i ∨ k = j := by simpa using hk
    rcases hk' with rfl | rfl
    · exact stepT_op ho (h.1 (fun a' w' => (k = L ∨ S w') ∧ wpAnyC P ops Q S L p.size (listed.setIfInBounds k true) a' w') (fun a' w' hb hr => ⟨.inr hb, seqT_sound hs hQ p _ a' w' (hc.set_ hir) hk3 (.inr hb) hr⟩))
    · refine stepT_op ho2 (h.2 (fun a' w' => (k = L ∨ S w') ∧ wpAnyC P ops Q S L p.size (listed.setIfInBounds k true) a' w') (fun a' w' hb hr => ⟨.inr hb, ?_⟩))
      rw [h4]
      exact seqT_sound hs hQ q _ a' w' (hc.set_ hjr) hk4 (.inr hb) hr

/-- The beginning. -/
theorem wp_region_plan {id : Nat} {a : Act} {w : World} (S : World → Prop) (L : Nat) (p : Plan) (hm : P.follows .mixedOrders = true)
    (hc : (Region.noSelect ops && chkT ops L (Array.replicate ops.size false) p && (p.size == ops.size)) = true)
    (hS : S w.drew) (h : seqT P ops (NoPanic Q) S (planO ops L p) a w.drew) : (Code.region id ops true).wp P Q a w := by
  refine wp_region_noPanic ?_
  simp only [Bool.and_eq_true, beq_iff_eq] at hc
  obtain ⟨⟨h1, h2⟩, h3⟩ := hc
  have h4 := seqT_sound (P := P) (S := S) (Q := NoPanic Q) h1 (fun _ _ _ _ _ h => h) p _ a w.drew (fun j o _ hj => by
    rcases Nat.lt_or_ge j ops.size with hl | hl
    · simp [hl] at hj
    · simp [Nat.not_lt.2 hl] at hj) h2 (.inr hS) h
  rw [h3] at h4
  exact wp_region_any hm (wpAny_of_C _ _ _ _ h4)

theorem SeqT.quiet {p : PlanO} {a : Act} {w : World} {v : Value} {o : Oper} (hg : o.guard = none)
    (h1 : ∀ w', S w' → (execOp a.eval o).run P w' = .ok (.value v) w') (h : seqT P ops Q S p (a.put o.dst v) w) : seqT P ops Q S (.quiet o p) a w :=
  ⟨v, .inl ⟨wanted_of_none hg _, h1⟩, h⟩
theorem stepT_none {o : Oper} (hg : o.guard = none) {K : Act → World → Prop} {a : Act} {w : World} (h : o.wp P a w K Q) : stepT P ops Q o K a w := by
  unfold stepT
  rw [if_pos (wanted_of_none hg _)]
  exact h
theorem SeqT.eff {b : Bool} {p : PlanO} {a : Act} {w : World} {o : Oper} (hg : o.guard = none)
    (h : ∀ K : Act → World → Prop, Shut (∀ a' w', (b = true ∨ S w') → seqT P ops Q S p a' w' → K a' w') → o.wp P a w K Q) : seqT P ops Q S (.eff b o p) a w :=
  fun K hK => stepT_none hg (h K hK)
theorem SeqT.fork {p q : PlanO} {a : Act} {w : World} {o o2 : Oper} (hg : o.guard = none) (hg2 : o2.guard = none)
    (h : ∀ K : Act → World → Prop, Shut (∀ a' w', S w' → seqT P ops Q S p a' w' → K a' w') → o.wp P a w K Q)
    (h2 : ∀ K : Act → World → Prop, Shut (∀ a' w', S w' → seqT P ops Q S q a' w' → K a' w') → o2.wp P a w K Q) : seqT P ops Q S (.fork o o2 p q) a w :=
  ⟨fun K hK => stepT_none hg (h K hK), fun K hK => stepT_none hg2 (h2 K hK)⟩
theorem SeqT.done {a : Act} {w : World} (h : Q .normal a w) : seqT P ops (NoPanic Q) S .done a w := h
theorem SeqT.last {a : Act} {w : World} {o : Oper} (hg : o.guard = none)
    (h : ∀ K : Act → World → Prop, Shut (∀ a' w', Q .normal a' w' → K a' w') → o.wp P a w K (NoPanic Q)) : seqT P ops (NoPanic Q) S (.eff true o .done) a w :=
  SeqT.eff hg fun K hK => h K fun a' w' hq => hK a' w' (.inl rfl) hq
end
end Go.Proofs.Ytlbhadggfipckaa
