/-
  A drawn region as one row of steps, where a call that leaves the world as it is may stand apart from what makes memory.
-/
import Derived.Test.YtlbhadggfipckaaSq
import Derived.Deep.Quiet
set_option linter.unusedVariables false
set_option linter.unusedSimpArgs false
namespace Go.Proofs.Ytlbhadggfipckaa

section
variable {P : Program} {ops : Array Oper} {Q : Exit → Act → World → Prop} {S : World → Prop} {L : Nat}

/-- In every world that meets S, operation 'o' (a call, perhaps) yields v and leaves the world as it is. -/
def YieldsS (P : Program) (ops : Array Oper) (S : World → Prop) (o : Oper) (v : Value) (a : Act) : Prop :=
  (Region.wanted o (yielded ops a.tmps) = true ∧ ∀ w, S w → o.quietAt P a (fun w'' => w'' = w) w v) ∨ (Region.wanted o (yielded ops a.tmps) = false ∧ v = undef)

theorem YieldsS.of_same {o : Oper} {v : Value} {a a' : Act} (hy : YieldsS P ops S o v a) (he : execOp a'.eval o = execOp a.eval o) (hw : Region.wanted o (yielded ops a'.tmps) = Region.wanted o (yielded ops a.tmps)) : YieldsS P ops S o v a' := by
  unfold YieldsS Oper.quietAt at *
  rw [he, hw]
  exact hy

theorem YieldsS.wpOp {i : Nat} {o : Oper} {v : Value} {a : Act} (hi : ops[i]? = some o) (hy : YieldsS P ops S o v a) {K : Act → World → Prop} {w : World} (hS : S w) (h : K (a.put o.dst v) w) : wpOp P ops Q i K a w := by
  unfold Go.wpOp
  simp only [hi]
  rcases hy with ⟨hw, hv⟩ | ⟨hw, rfl⟩
  · simp only [hw, if_true]
    exact .inl (Oper.wp_of_quiet (C := (· = w)) (K := fun a' => K a' w) rfl (fun a' w' e h => by rw [e]; exact h) ⟨v, fun w' e => by rw [e]; exact hv w hS, h⟩)
  · simp only [hw, Bool.false_eq_true, if_false]
    exact h

/-- What holds of every frame that an operation can leave. -/
theorem wpOp_inv {j : Nat} {oj : Oper} (hj : ops[j]? = some oj) {Y : Act → Prop} {a : Act} {w : World} {K : Act → World → Prop} (h1 : ∀ u, Y (a.put oj.dst u)) (h2 : ∀ d u, Y ({ a with defers := d :: a.defers }.put oj.dst u)) (h : wpOp P ops Q j K a w) :
    wpOp P ops Q j (fun a' w' => Y a' ∧ K a' w') a w := by
  unfold wpOp at *
  simp only [hj] at *
  split
  · rename_i hw
    simp only [hw, if_true] at h
    rcases h with h | h
    case inr => exact .inr h
    refine .inl ?_
    unfold Oper.wp at *
    generalize (execOp a.eval oj).run P w = r at *
    cases r with
    | ok n w' =>
      cases n <;> simp only [Oper.upon] at h ⊢
      case value u => exact ⟨h1 u, h⟩
      case skip => exact ⟨h1 _, h⟩
      case defer d => exact ⟨h2 d _, h⟩
      case enter f args =>
        refine Calls.mono h fun e w'' he => ?_
        cases e with
        | returned u => exact ⟨h1 u, he⟩
        | panicked c => exact he
        | outgrown => exact he
      case row row args => exact Rows.mono h fun u w'' he => ⟨h1 u, he⟩
    | halt x w' =>
      cases x <;> simp only [Oper.upon] at h ⊢
      case panic u => exact h
  · rename_i hw
    simp only [hw] at h
    exact ⟨h1 _, h⟩

theorem wpAnyS_first {i : Nat} {oi : Oper} {v : Value} (hi : ops[i]? = some oi) (hsel : ∀ (j : Nat) (o : Oper) cs b, ops[j]? = some o → o.op ≠ .select cs b)
    (hQ : ∀ c a d v w, Q (.panic c) (a.put d v) w → Q (.panic c) a w) {n : Nat} (hL : reach ops i n L = true) (hiL : i ≠ L) :
    ∀ (fuel : Nat) (listed : Array Bool) (a : Act) (w : World), Closed ops listed →
      (∀ j oj, ops[j]? = some oj → j ≠ i → listed.getD j true = false → (∀ e ∈ oj.after, Region.binds .any e = true → e.on ≠ i) → oi.apart ops oj = true) →
      i ∈ Region.ready .any ops listed → YieldsS P ops S oi v a → S w →
      wpAnyC P ops Q S L fuel (listed.setIfInBounds i true) (a.put oi.dst v) w → wpAnyC P ops Q S L (fuel + 1) listed a w := by
  intro fuel
  induction fuel with
  | zero =>
    intro listed a w _ _ hr hy hS H
    refine ⟨fun h => (by rw [h] at hr; cases hr), fun j hj => ?_⟩
    by_cases hji : j = i
    · subst hji; exact hy.wpOp hi hS ⟨.inr hS, H⟩
    · have := ready_mono hj hji
      rw [H.1] at this
      cases this
  | succ fuel ih =>
    intro listed a w hc hfree hr hy hS H
    refine ⟨fun h => (by rw [h] at hr; cases hr), fun j hj => ?_⟩
    by_cases hji : j = i
    · subst hji; exact hy.wpOp hi hS ⟨.inr hS, H⟩
    · have h1 := H.2 j (ready_mono hj hji)
      obtain ⟨hjun, oj, hoj, hall⟩ := mem_ready.1 hj
      have hi0 : ¬ listed.getD i false = true := fun h1 => by
        have h0 := (mem_ready.1 hr).1
        rcases Nat.lt_or_ge i listed.size with h' | h'
        · simp [h'] at h0 h1; rw [h0] at h1; cases h1
        · simp [Array.getElem?_eq_none h'] at h1
      have hjL : j ≠ L := fun e => hi0 (reach_spec hc n j oj (e ▸ hL) hoj hall)
      have hnot : ∀ e ∈ oj.after, Region.binds .any e = true → e.on ≠ i := fun e he hb heq => hi0 (heq ▸ hall e he hb)
      have hap := hfree j oj hoj hji hjun hnot
      have hno : YieldsIf P ops (fun _ => False) oi v a := hy.imp (fun h => ⟨h.1, fun _ h => h.elim⟩) id
      have h0 := wpOp_putIf hoj hap (fun cs b => hsel i oi cs b hi) (fun cs b => hsel j oj cs b hoj) (fun c a w => hQ c a _ _ w) hno h1
      obtain ⟨-, -, p3⟩ := Oper.apart_spec hap
      have keep : ∀ (a' : Act) (u : Value), YieldsS P ops S oi v a' → YieldsS P ops S oi v (a'.put oj.dst u) := fun a' u h => h.of_same (execOp_put oi (fun cs b => hsel i oi cs b hi) a' oj.dst u p3) (wanted_put oi a' oj.dst u p3)
      have h2 := wpOp_inv hoj (Y := fun a' => YieldsS P ops S oi v a') (fun u => keep a u hy) (fun d u => keep _ u (hy.of_same rfl rfl)) h0
      have hfree' : ∀ k ok, ops[k]? = some ok → k ≠ i → (listed.setIfInBounds j true).getD k true = false →
          (∀ e ∈ ok.after, Region.binds .any e = true → e.on ≠ i) → oi.apart ops ok = true := fun k ok hk hki hun hno => by
        refine hfree k ok hk hki ?_ hno
        by_cases hjk : j = k
        · subst hjk; exact hjun
        · rw [getD_set_ne true hjk] at hun; exact hun
      refine wpOp_mono (fun a' w' h3 => ⟨.inr (h3.2.2.1.resolve_left hjL), ih (listed.setIfInBounds j true) a' w' (hc.set_ hj) hfree' (ready_mono hr (Ne.symm hji)) h3.1 (h3.2.2.1.resolve_left hjL) ?_⟩) h2
      rw [Array.setIfInBounds_comm _ _ hji]
      exact h3.2.2.2

/-- The row of steps: (does it only read; is it the last store; the operation). -/
def seqS (P : Program) (ops : Array Oper) (Q : Exit → Act → World → Prop) (S : World → Prop) : List (Bool × Bool × Oper) → Act → World → Prop
  | [], a, w => Q .normal a w
  | (true, _, o) :: r, a, w => ∃ v, YieldsS P ops S o v a ∧ seqS P ops Q S r (a.put o.dst v) w
  | (false, b, o) :: r, a, w => ∀ K : Act → World → Prop, (∀ a' w', (b = true ∨ S w') → seqS P ops Q S r a' w' → K a' w') → if Region.wanted o (yielded ops a.tmps) = true then o.wp P a w K Q else K (a.put o.dst undef) w

theorem seqS_sound (hs : Region.noSelect ops = true) (hQ : ∀ c a d v w, Q (.panic c) (a.put d v) w → Q (.panic c) a w) :
    ∀ (ord : List (Nat × Bool)) (listed : Array Bool) (a : Act) (w : World), Closed ops listed → chk ops L listed ord = true → (ord = [] ∨ S w) → seqS P ops Q S (opsIn ops L ord) a w → wpAnyC P ops Q S L ord.length listed a w
  | [], listed, a, w, hc, hk, hS, h => ⟨by simpa [chk] using hk, h⟩
  | (i, q) :: r, listed, a, w, hc, hk, hS, h => by
    replace hS := hS.resolve_left (by simp)
    simp only [chk, Bool.and_eq_true] at hk
    obtain ⟨⟨hk1, hk2⟩, hk3⟩ := hk
    obtain ⟨o, ho⟩ := Option.isSome_iff_exists.1 hk1
    cases q with
    | true =>
      simp only [if_true, Bool.and_eq_true, bne_iff_ne] at hk2
      obtain ⟨⟨⟨h1, h2⟩, h3⟩, h4⟩ := hk2
      have h1 : i ∈ Region.ready .any ops listed := by simpa using h1
      simp only [opsIn, List.map_cons, seqS, ho, Option.getD_some] at h
      obtain ⟨v, hy, h⟩ := h
      exact wpAnyS_first ho (Region.noSelect_spec hs) hQ h3 h4 r.length listed a w hc (Region.free_spec ho h2) h1 hy hS (seqS_sound hs hQ r _ _ w (hc.set_ h1) hk3 (.inr hS) h)
    | false =>
      simp only [Bool.false_eq_true, if_false, Bool.and_eq_true, beq_iff_eq, Bool.or_eq_true, bne_iff_ne] at hk2
      obtain ⟨h1, h2⟩ := hk2
      simp only [opsIn, List.map_cons, seqS, ho, Option.getD_some] at h
      have hir : i ∈ Region.ready .any ops listed := by rw [h1]; simp
      refine ⟨fun h0 => (by rw [h1] at h0; cases h0), fun j hj => ?_⟩
      rw [h1] at hj
      obtain rfl : j = i := by simpa using hj
      have h3 := h (fun a' w' => (j = L ∨ S w') ∧ wpAnyC P ops Q S L r.length (listed.setIfInBounds j true) a' w') (fun a' w' hb hr => ⟨hb.imp (fun h => by simpa using h) id, seqS_sound hs hQ r _ a' w' (hc.set_ hir) hk3 (by
        rcases hb with hb | hb
        · exact .inl (by simpa using (h2.resolve_left (fun hn => hn (by simpa using hb))))
        · exact .inr hb) hr⟩)
      unfold wpOp
      simp only [ho]
      split
      · rename_i hw
        rw [if_pos hw] at h3
        exact .inl h3
      · rename_i hw
        rw [if_neg hw] at h3
        exact h3

/-- The beginning. -/
theorem wp_region_seqS {id : Nat} {a : Act} {w : World} (S : World → Prop) (L : Nat) (ord : List (Nat × Bool)) (hm : P.follows .mixedOrders = true)
    (hc : (Region.noSelect ops && chk ops L (Array.replicate ops.size false) ord && (ord.length == ops.size)) = true)
    (hS : S w.drew) (h : seqS P ops (NoPanic Q) S (opsIn ops L ord) a w.drew) : (Code.region id ops true).wp P Q a w := by
  refine wp_region_noPanic ?_
  simp only [Bool.and_eq_true, beq_iff_eq] at hc
  obtain ⟨⟨h1, h2⟩, h3⟩ := hc
  have h4 := seqS_sound (P := P) (S := S) (Q := NoPanic Q) h1 (fun _ _ _ _ _ h => h) ord _ a w.drew (fun j o _ hj => by
    rcases Nat.lt_or_ge j ops.size with hl | hl
    · simp [hl] at hj
    · simp [Nat.not_lt.2 hl] at hj) h2 (.inr hS) h
  rw [h3] at h4
  exact wp_region_any hm (wpAny_of_C _ _ _ _ h4)

theorem SeqS.quiet {b : Bool} {o : Oper} {r : List (Bool × Bool × Oper)} {a : Act} {w : World} {v : Value} (hg : o.guard = none)
    (h1 : ∀ w', S w' → (execOp a.eval o).run P w' = .ok (.value v) w') (h : seqS P ops Q S r (a.put o.dst v) w) : seqS P ops Q S ((true, b, o) :: r) a w := ⟨v, .inl ⟨wanted_of_none hg _, fun w' hS => by unfold Oper.quietAt; rw [h1 w' hS]; exact ⟨rfl, rfl⟩⟩, h⟩
theorem SeqS.call {b : Bool} {o : Oper} {r : List (Bool × Bool × Oper)} {a : Act} {w : World} {v : Value} (hg : o.guard = none)
    (h1 : ∀ w', S w' → o.quietAt P a (fun w'' => w'' = w') w' v) (h : seqS P ops Q S r (a.put o.dst v) w) : seqS P ops Q S ((true, b, o) :: r) a w := ⟨v, .inl ⟨wanted_of_none hg _, h1⟩, h⟩
theorem SeqS.eff {b : Bool} {o : Oper} {r : List (Bool × Bool × Oper)} {a : Act} {w : World} (hg : o.guard = none)
    (h : ∀ K : Act → World → Prop, Shut (∀ a' w', (b = true ∨ S w') → seqS P ops Q S r a' w' → K a' w') → o.wp P a w K Q) : seqS P ops Q S ((false, b, o) :: r) a w := fun K hK => by
  rw [if_pos (wanted_of_none hg _)]
  exact h K hK
theorem SeqS.last {o : Oper} {a : Act} {w : World} (hg : o.guard = none)
    (h : ∀ K : Act → World → Prop, Shut (∀ a' w', Q .normal a' w' → K a' w') → o.wp P a w K (NoPanic Q)) : seqS P ops (NoPanic Q) S [(false, true, o)] a w := SeqS.eff hg fun K hK => h K fun a' w' hq => hK a' w' (.inl rfl) hq
end
end Go.Proofs.Ytlbhadggfipckaa
