/-
  A drawn region as one row of steps: what only reads is taken first, under a condition S on the world that holds behind every step but the last one.
-/
import Derived.OrdersHeld
import Derived.Deep.RegionHeld3
set_option linter.unusedVariables false
set_option linter.unusedSimpArgs false
namespace Go.Proofs.Ytlbhadggfipckaa

section
variable {P : Program} {ops : Array Oper} {Q : Exit → Act → World → Prop} {S : World → Prop} {L : Nat}

def wpAnyC (P : Program) (ops : Array Oper) (Q : Exit → Act → World → Prop) (S : World → Prop) (L : Nat) : Nat → Array Bool → Act → World → Prop
  | 0, listed, a, w => Region.ready .any ops listed = [] ∧ Q .normal a w
  | fuel + 1, listed, a, w =>
    (Region.ready .any ops listed = [] → Q .normal a w) ∧
    ∀ i ∈ Region.ready .any ops listed, wpOp P ops Q i (fun a' w' => (i = L ∨ S w') ∧ wpAnyC P ops Q S L fuel (listed.setIfInBounds i true) a' w') a w

theorem wpAny_of_C : ∀ (fuel : Nat) (listed : Array Bool) (a : Act) (w : World), wpAnyC P ops Q S L fuel listed a w → wpAny P .any ops Q fuel listed a w
  | 0, _, _, _, h => h
  | fuel + 1, _, _, _, h => ⟨h.1, fun i hi => wpOp_mono (fun a' w' h' => wpAny_of_C fuel _ a' w' h'.2) (h.2 i hi)⟩

/-- What is listed has all that it waits for listed. -/
def Closed (ops : Array Oper) (listed : Array Bool) : Prop := ∀ (j : Nat) (o : Oper), ops[j]? = some o → listed.getD j false = true → ∀ e ∈ o.after, Region.binds .any e = true → listed.getD e.on false = true

/-- x waits for i, through others perhaps. -/
def reach (ops : Array Oper) (i : Nat) : Nat → Nat → Bool
  | 0, _ => false
  | n + 1, x => match ops[x]? with
    | some o => o.after.any fun e => Region.binds .any e && (e.on == i || reach ops i n e.on)
    | none => false

theorem reach_spec {i : Nat} {listed : Array Bool} (hc : Closed ops listed) : ∀ (n x : Nat) (o : Oper), reach ops i n x = true → ops[x]? = some o → (∀ e ∈ o.after, Region.binds .any e = true → listed.getD e.on false = true) → listed.getD i false = true
  | 0, x, o, h, _, _ => by simp [reach] at h
  | n + 1, x, o, h, ho, hall => by
    simp only [reach, ho] at h
    obtain ⟨e, he, h⟩ := Array.any_eq_true'.1 h
    simp only [Bool.and_eq_true, Bool.or_eq_true, beq_iff_eq] at h
    have h1 := hall e he h.1
    rcases h.2 with h2 | h2
    · rw [← h2]; exact h1
    · cases ho' : ops[e.on]? with
      | none => cases n <;> simp [reach, ho'] at h2
      | some o' => exact reach_spec hc n e.on o' h2 ho' (hc e.on o' ho' h1)

theorem getD_set_false {listed : Array Bool} {i j : Nat} (h : (listed.setIfInBounds i true).getD j false = true) : j = i ∨ listed.getD j false = true := by
  by_cases hij : i = j
  · exact .inl hij.symm
  · rw [getD_set_ne false hij] at h
    exact .inr h

theorem Closed.set_ {listed : Array Bool} {i : Nat} (hc : Closed ops listed) (hi : i ∈ Region.ready .any ops listed) : Closed ops (listed.setIfInBounds i true) := fun j o ho hj e he hb => by
  obtain ⟨_, oi, hoi, hall⟩ := mem_ready.1 hi
  refine getD_set_true ?_
  rcases getD_set_false hj with rfl | hj
  · rw [hoi] at ho
    cases ho
    exact hall e he hb
  · exact hc j o ho hj e he hb

theorem wpAnyC_first {i : Nat} {oi : Oper} {v : Value} (hi : ops[i]? = some oi) (hsel : ∀ (j : Nat) (o : Oper) cs b, ops[j]? = some o → o.op ≠ .select cs b)
    (hQ : ∀ c a d v w, Q (.panic c) (a.put d v) w → Q (.panic c) a w) {n : Nat} (hL : reach ops i n L = true) (hiL : i ≠ L) :
    ∀ (fuel : Nat) (listed : Array Bool) (a : Act) (w : World), Closed ops listed →
      (∀ j oj, ops[j]? = some oj → j ≠ i → listed.getD j true = false → (∀ e ∈ oj.after, Region.binds .any e = true → e.on ≠ i) → oi.apart ops oj = true) →
      i ∈ Region.ready .any ops listed → YieldsIf P ops S oi v a → S w →
      wpAnyC P ops Q S L fuel (listed.setIfInBounds i true) (a.put oi.dst v) w → wpAnyC P ops Q S L (fuel + 1) listed a w := by
  intro fuel
  induction fuel with
  | zero =>
    intro listed a w _ _ hr hy hS H
    refine ⟨fun h => (by rw [h] at hr; cases hr), fun j hj => ?_⟩
    by_cases hji : j = i
    · subst hji; exact hy.wpOp hi hS ⟨.inr hS, H⟩
    · have := ready_mono hj hji
      rw [H.1] at this
      cases this
  | succ fuel ih =>
    intro listed a w hc hfree hr hy hS H
    refine ⟨fun h => (by rw [h] at hr; cases hr), fun j hj => ?_⟩
    by_cases hji : j = i
    · subst hji; exact hy.wpOp hi hS ⟨.inr hS, H⟩
    · have h1 := H.2 j (ready_mono hj hji)
      obtain ⟨hjun, oj, hoj, hall⟩ := mem_ready.1 hj
      have hi0 : ¬ listed.getD i false = true := fun h1 => by
        have h0 := (mem_ready.1 hr).1
        rcases Nat.lt_or_ge i listed.size with h' | h'
        · simp [h'] at h0 h1; rw [h0] at h1; cases h1
        · simp [Array.getElem?_eq_none h'] at h1
      have hjL : j ≠ L := fun e => hi0 (reach_spec hc n j oj (e ▸ hL) hoj hall)
      have hnot : ∀ e ∈ oj.after, Region.binds .any e = true → e.on ≠ i := fun e he hb heq => hi0 (heq ▸ hall e he hb)
      have h2 := wpOp_putIf hoj (hfree j oj hoj hji hjun hnot) (fun cs b => hsel i oi cs b hi) (fun cs b => hsel j oj cs b hoj) (fun c a w => hQ c a _ _ w) hy h1
      have hfree' : ∀ k ok, ops[k]? = some ok → k ≠ i → (listed.setIfInBounds j true).getD k true = false →
          (∀ e ∈ ok.after, Region.binds .any e = true → e.on ≠ i) → oi.apart ops ok = true := fun k ok hk hki hun hno => by
        refine hfree k ok hk hki ?_ hno
        by_cases hjk : j = k
        · subst hjk; exact hjun
        · rw [getD_set_ne true hjk] at hun; exact hun
      refine wpOp_mono (fun a' w' h3 => ⟨.inr (h3.2.1.resolve_left hjL), ih (listed.setIfInBounds j true) a' w' (hc.set_ hj) hfree' (ready_mono hr (Ne.symm hji)) h3.1 (h3.2.1.resolve_left hjL) ?_⟩) h2
      rw [Array.setIfInBounds_comm _ _ hji]
      exact h3.2.2

/-- The row of steps: (does it only read; is it the last store; the operation). -/
def seqO (P : Program) (ops : Array Oper) (Q : Exit → Act → World → Prop) (S : World → Prop) : List (Bool × Bool × Oper) → Act → World → Prop
  | [], a, w => Q .normal a w
  | (true, _, o) :: r, a, w => ∃ v, YieldsIf P ops S o v a ∧ seqO P ops Q S r (a.put o.dst v) w
  | (false, b, o) :: r, a, w => ∀ K : Act → World → Prop, (∀ a' w', (b = true ∨ S w') → seqO P ops Q S r a' w' → K a' w') → if Region.wanted o (yielded ops a.tmps) = true then o.wp P a w K Q else K (a.put o.dst undef) w

def chk (ops : Array Oper) (L : Nat) : Array Bool → List (Nat × Bool) → Bool
  | listed, [] => (Region.ready .any ops listed).isEmpty
  | listed, (i, q) :: r => (ops[i]?).isSome && (if q then (Region.ready .any ops listed).contains i && Region.free .any ops listed i && reach ops i ops.size L && i != L else Region.ready .any ops listed == [i] && (i != L || r.isEmpty)) && chk ops L (listed.setIfInBounds i true) r

def opsIn (ops : Array Oper) (L : Nat) (ord : List (Nat × Bool)) : List (Bool × Bool × Oper) := ord.map fun p => (p.2, p.1 == L, (ops[p.1]?).getD { dst := none, op := .move (.const undef), type := 0, pos := "", after := #[], guard := none })

theorem seq_sound (hs : Region.noSelect ops = true) (hQ : ∀ c a d v w, Q (.panic c) (a.put d v) w → Q (.panic c) a w) :
    ∀ (ord : List (Nat × Bool)) (listed : Array Bool) (a : Act) (w : World), Closed ops listed → chk ops L listed ord = true → (ord = [] ∨ S w) → seqO P ops Q S (opsIn ops L ord) a w → wpAnyC P ops Q S L ord.length listed a w
  | [], listed, a, w, hc, hk, hS, h => ⟨by simpa [chk] using hk, h⟩
  | (i, q) :: r, listed, a, w, hc, hk, hS, h => by
    replace hS := hS.resolve_left (by simp)
    simp only [chk, Bool.and_eq_true] at hk
    obtain ⟨⟨hk1, hk2⟩, hk3⟩ := hk
    obtain ⟨o, ho⟩ := Option.isSome_iff_exists.1 hk1
    cases q with
    | true =>
      simp only [if_true, Bool.and_eq_true, bne_iff_ne] at hk2
      obtain ⟨⟨⟨h1, h2⟩, h3⟩, h4⟩ := hk2
      have h1 : i ∈ Region.ready .any ops listed := by simpa using h1
      simp only [opsIn, List.map_cons, seqO, ho, Option.getD_some] at h
      obtain ⟨v, hy, h⟩ := h
      exact wpAnyC_first ho (Region.noSelect_spec hs) hQ h3 h4 r.length listed a w hc (Region.free_spec ho h2) h1 hy hS (seq_sound hs hQ r _ _ w (hc.set_ h1) hk3 (.inr hS) h)
    | false =>
      simp only [Bool.false_eq_true, if_false, Bool.and_eq_true, beq_iff_eq, Bool.or_eq_true, bne_iff_ne] at hk2
      obtain ⟨h1, h2⟩ := hk2
      simp only [opsIn, List.map_cons, seqO, ho, Option.getD_some] at h
      have hir : i ∈ Region.ready .any ops listed := by rw [h1]; simp
      refine ⟨fun h0 => (by rw [h1] at h0; cases h0), fun j hj => ?_⟩
      rw [h1] at hj
      obtain rfl : j = i := by simpa using hj
      have h3 := h (fun a' w' => (j = L ∨ S w') ∧ wpAnyC P ops Q S L r.length (listed.setIfInBounds j true) a' w') (fun a' w' hb hr => ⟨hb.imp (fun h => by simpa using h) id, seq_sound hs hQ r _ a' w' (hc.set_ hir) hk3 (by
        rcases hb with hb | hb
        · exact .inl (by simpa using (h2.resolve_left (fun hn => hn (by simpa using hb))))
        · exact .inr hb) hr⟩)
      unfold wpOp
      simp only [ho]
      split
      · rename_i hw
        rw [if_pos hw] at h3
        exact .inl h3
      · rename_i hw
        rw [if_neg hw] at h3
        exact h3

/-- The beginning. -/
theorem wp_region_seq {id : Nat} {a : Act} {w : World} (S : World → Prop) (L : Nat) (ord : List (Nat × Bool)) (hm : P.follows .mixedOrders = true)
    (hc : (Region.noSelect ops && chk ops L (Array.replicate ops.size false) ord && (ord.length == ops.size)) = true)
    (hS : S w.drew) (h : seqO P ops (NoPanic Q) S (opsIn ops L ord) a w.drew) : (Code.region id ops true).wp P Q a w := by
  refine wp_region_noPanic ?_
  simp only [Bool.and_eq_true, beq_iff_eq] at hc
  obtain ⟨⟨h1, h2⟩, h3⟩ := hc
  have h4 := seq_sound (P := P) (S := S) (Q := NoPanic Q) h1 (fun _ _ _ _ _ h => h) ord _ a w.drew (fun j o _ hj => by
    rcases Nat.lt_or_ge j ops.size with hl | hl
    · simp [hl] at hj
    · simp [Nat.not_lt.2 hl] at hj) h2 (.inr hS) h
  rw [h3] at h4
  exact wp_region_any hm (wpAny_of_C _ _ _ _ h4)

theorem wanted_of_none {o : Oper} (h : o.guard = none) (ys : Nat → Option Bool) : Region.wanted o ys = true := by
  simp [Region.wanted, h]

theorem Seq.quiet {b : Bool} {o : Oper} {r : List (Bool × Bool × Oper)} {a : Act} {w : World} {v : Value} (hg : o.guard = none)
    (h1 : ∀ w', S w' → (execOp a.eval o).run P w' = .ok (.value v) w') (h : seqO P ops Q S r (a.put o.dst v) w) : seqO P ops Q S ((true, b, o) :: r) a w := ⟨v, .inl ⟨wanted_of_none hg _, h1⟩, h⟩
theorem Seq.quietG {b : Bool} {o : Oper} {r : List (Bool × Bool × Oper)} {a : Act} {w : World} {v : Value} (hw : Region.wanted o (yielded ops a.tmps) = true)
    (h1 : ∀ w', S w' → (execOp a.eval o).run P w' = .ok (.value v) w') (h : seqO P ops Q S r (a.put o.dst v) w) : seqO P ops Q S ((true, b, o) :: r) a w := ⟨v, .inl ⟨hw, h1⟩, h⟩
theorem Seq.skip {b : Bool} {o : Oper} {r : List (Bool × Bool × Oper)} {a : Act} {w : World} (hw : Region.wanted o (yielded ops a.tmps) = false)
    (h : seqO P ops Q S r (a.put o.dst undef) w) : seqO P ops Q S ((true, b, o) :: r) a w := ⟨undef, .inr ⟨hw, rfl⟩, h⟩
theorem Seq.eff {b : Bool} {o : Oper} {r : List (Bool × Bool × Oper)} {a : Act} {w : World} (hg : o.guard = none)
    (h : ∀ K : Act → World → Prop, Shut (∀ a' w', (b = true ∨ S w') → seqO P ops Q S r a' w' → K a' w') → o.wp P a w K Q) : seqO P ops Q S ((false, b, o) :: r) a w := fun K hK => by
  rw [if_pos (wanted_of_none hg _)]
  exact h K hK
theorem Seq.last {o : Oper} {a : Act} {w : World} (hg : o.guard = none)
    (h : ∀ K : Act → World → Prop, Shut (∀ a' w', Q .normal a' w' → K a' w') → o.wp P a w K (NoPanic Q)) : seqO P ops (NoPanic Q) S [(false, true, o)] a w := Seq.eff hg fun K hK => h K fun a' w' hq => hK a' w' (.inl rfl) hq
theorem Seq.done {a : Act} {w : World} (h : Q .normal a w) : seqO P ops (NoPanic Q) S [] a w := h
end
end Go.Proofs.Ytlbhadggfipckaa
