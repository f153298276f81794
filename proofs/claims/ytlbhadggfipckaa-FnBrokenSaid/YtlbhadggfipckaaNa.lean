/-
  Nodes and trees as plain data, and how they lie in memory.
-/
import Derived.Test.YtlbhadggfipckaaBa
set_option linter.unusedVariables false
set_option linter.unusedSimpArgs false
namespace Go.Proofs.Ytlbhadggfipckaa
open Go.RowKit

structure Pr where
  name : ByteArray
  val : List UInt8

inductive Nd where
  | mk (name : ByteArray) (props : List Pr) (kids : List Nd)

def Nd.nm : Nd → ByteArray | .mk n _ _ => n
def Nd.ps : Nd → List Pr | .mk _ p _ => p
def Nd.ks : Nd → List Nd | .mk _ _ k => k

theorem Nd.ind {P : Nd → Prop} (h : ∀ n p k, (∀ x ∈ k, P x) → P (.mk n p k)) : ∀ x, P x
  | .mk n p k => h n p k fun x hx => Nd.ind h x
termination_by x => SizeOf.sizeOf x
decreasing_by
  have := List.sizeOf_lt_of_mem hx
  simp
  omega

structure Tr where
  ver : Int
  lc : Int
  boot : Int
  rooms : List (Int × Int)
  root : Nd

/-- The slice at A holds the cells xs, in a block of those that 'ok' names. -/
def RdO (w : World) (ok : Nat → Prop) (A : Option Addr) (xs : List Value) : Prop :=
  xs = [] ∨ ∃ b o, A = some ⟨b, o, none⟩ ∧ ok b ∧ ∀ j u, xs[j]? = some u → w.cell? ⟨b, o + j, none⟩ = some u

theorem RdO.rd {w : World} {ok : Nat → Prop} {A : Option Addr} {xs : List Value} (h : RdO w ok A xs) : Rd w A xs := by
  rcases h with h | ⟨b, o, h1, _, h2⟩
  · exact .inl h
  · exact .inr ⟨b, o, h1, h2⟩

/-- Nothing in the blocks that 'ok' names has turned. -/
def Same (ok : Nat → Prop) (w w' : World) : Prop := ∀ k, ok k → w'.heap[k]? = w.heap[k]?

theorem Same.cell {ok : Nat → Prop} {w w' : World} (h : Same ok w w') {b o : Nat} (hb : ok b) : w'.cell? ⟨b, o, none⟩ = w.cell? ⟨b, o, none⟩ := World.cell?_of_block (a := ⟨b, o, none⟩) (h b hb)

theorem RdO.mono {w w' : World} {ok ok' : Nat → Prop} {A : Option Addr} {xs : List Value} (h : RdO w ok A xs) (hs : Same ok w w') (ho : ∀ k, ok k → ok' k) : RdO w' ok' A xs := by
  rcases h with h | ⟨b, o, h1, hb, h2⟩
  · exact .inl h
  · exact .inr ⟨b, o, h1, ho b hb, fun j u hu => (hs.cell hb).trans (h2 j u hu)⟩

/-- a value: a slice of bytes -/
def ValC (w : World) (ok : Nat → Prop) (v : Value) (l : List UInt8) : Prop :=
  ∃ A c, v = .slice A l.length c ∧ l.length ≤ 140737488351232 ∧ l.length ≤ c ∧ c ≤ maxLen ∧ RdO w ok A (l.map bv)

theorem ValC.mono {w w' : World} {ok ok' : Nat → Prop} {v : Value} {l : List UInt8} (h : ValC w ok v l) (hs : Same ok w w') (ho : ∀ k, ok k → ok' k) : ValC w' ok' v l := by
  obtain ⟨A, c, h1, h2, h3, h4, h5⟩ := h
  exact ⟨A, c, h1, h2, h3, h4, h5.mono hs ho⟩

theorem ValC.slB {w : World} {ok : Nat → Prop} {v : Value} {l : List UInt8} (h : ValC w ok v l) : SlB w v l := by
  obtain ⟨A, c, h1, h2, h3, h4, h5⟩ := h
  exact ⟨A, c, h1, h3, h4, h5.rd⟩

/-- Pairs of cells in a row. -/
def DuoR (w : World) (b o : Nat) (ts : List (Value × Value)) : Prop :=
  ∀ i t, ts[i]? = some t → w.cell? ⟨b, o + i * 2, none⟩ = some t.1 ∧ w.cell? ⟨b, o + i * 2 + 1, none⟩ = some t.2

/-- Triples of cells in a row. -/
def TriR (w : World) (b o : Nat) (ts : List (Value × Value × Value)) : Prop :=
  ∀ i t, ts[i]? = some t → w.cell? ⟨b, o + i * 3, none⟩ = some t.1 ∧ w.cell? ⟨b, o + i * 3 + 1, none⟩ = some t.2.1 ∧ w.cell? ⟨b, o + i * 3 + 2, none⟩ = some t.2.2

def duo (t : Value × Value) : List Value := [t.1, t.2]
def tri (t : Value × Value × Value) : List Value := [t.1, t.2.1, t.2.2]

theorem duo_length (ts : List (Value × Value)) : (ts.flatMap duo).length = ts.length * 2 := by
  induction ts with
  | nil => rfl
  | cons t ts ih => simp [duo, ih]; omega

theorem tri_length (ts : List (Value × Value × Value)) : (ts.flatMap tri).length = ts.length * 3 := by
  induction ts with
  | nil => rfl
  | cons t ts ih => simp [tri, ih]; omega

theorem duo_get : ∀ (ts : List (Value × Value)) (i : Nat) (t : Value × Value), ts[i]? = some t → (ts.flatMap duo)[i * 2]? = some t.1 ∧ (ts.flatMap duo)[i * 2 + 1]? = some t.2
  | [], i, t, h => by simp at h
  | x :: ts, 0, t, h => by
    simp at h
    subst h
    simp [duo]
  | x :: ts, i + 1, t, h => by
    have := duo_get ts i t (by simpa using h)
    rw [show (i + 1) * 2 = i * 2 + 2 by omega]
    simpa [duo] using this

theorem tri_get : ∀ (ts : List (Value × Value × Value)) (i : Nat) (t : Value × Value × Value), ts[i]? = some t → (ts.flatMap tri)[i * 3]? = some t.1 ∧ (ts.flatMap tri)[i * 3 + 1]? = some t.2.1 ∧ (ts.flatMap tri)[i * 3 + 2]? = some t.2.2
  | [], i, t, h => by simp at h
  | x :: ts, 0, t, h => by
    simp at h
    subst h
    simp [tri]
  | x :: ts, i + 1, t, h => by
    have := tri_get ts i t (by simpa using h)
    rw [show (i + 1) * 3 = i * 3 + 3 by omega]
    simpa [tri] using this

theorem DuoR.mono {w w' : World} {b o : Nat} {ts : List (Value × Value)} (h : DuoR w b o ts) (hb : w'.heap[b]? = w.heap[b]?) : DuoR w' b o ts := fun i t ht =>
  ⟨(World.cell?_of_block (a := ⟨b, o + i * 2, none⟩) hb).trans (h i t ht).1, (World.cell?_of_block (a := ⟨b, o + i * 2 + 1, none⟩) hb).trans (h i t ht).2⟩

theorem TriR.mono {w w' : World} {b o : Nat} {ts : List (Value × Value × Value)} (h : TriR w b o ts) (hb : w'.heap[b]? = w.heap[b]?) : TriR w' b o ts := fun i t ht =>
  ⟨(World.cell?_of_block (a := ⟨b, o + i * 3, none⟩) hb).trans (h i t ht).1, (World.cell?_of_block (a := ⟨b, o + i * 3 + 1, none⟩) hb).trans (h i t ht).2.1, (World.cell?_of_block (a := ⟨b, o + i * 3 + 2, none⟩) hb).trans (h i t ht).2.2⟩

theorem own_duo {w : World} {base e g n cap : Nat} {ts : List (Value × Value)} (h : w.ownsRow base e 2 (.slice (some ⟨g, 0, none⟩) n cap) n (ts.flatMap duo)) : DuoR w g 0 ts := fun i t ht => by
  obtain ⟨h1, h2⟩ := duo_get ts i t ht
  have hl := duo_length ts
  have hi := (List.getElem?_eq_some_iff.1 ht).1
  have hn : ts.length * 2 = n * 2 := hl.symm.trans h.1
  exact ⟨by rw [Nat.zero_add, h.cellAt _ (by omega)]; exact h1, by rw [Nat.zero_add, h.cellAt _ (by omega)]; exact h2⟩

theorem own_tri {w : World} {base e g n cap : Nat} {ts : List (Value × Value × Value)} (h : w.ownsRow base e 3 (.slice (some ⟨g, 0, none⟩) n cap) n (ts.flatMap tri)) : TriR w g 0 ts := fun i t ht => by
  obtain ⟨h1, h2, h3⟩ := tri_get ts i t ht
  have hl := tri_length ts
  have hi := (List.getElem?_eq_some_iff.1 ht).1
  have hn : ts.length * 3 = n * 3 := hl.symm.trans h.1
  exact ⟨by rw [Nat.zero_add, h.cellAt _ (by omega)]; exact h1, by rw [Nat.zero_add, h.cellAt _ (by omega)]; exact h2, by rw [Nat.zero_add, h.cellAt _ (by omega)]; exact h3⟩

/-- One property's two cells. -/
def PrC (w : World) (ok : Nat → Prop) (p : Pr) (t : Value × Value) : Prop := t.1 = .string p.name ∧ p.name.size ≤ 140737488351232 ∧ ValC w ok t.2 p.val

theorem PrC.mono {w w' : World} {ok ok' : Nat → Prop} {p : Pr} {t : Value × Value} (h : PrC w ok p t) (hs : Same ok w w') (ho : ∀ k, ok k → ok' k) : PrC w' ok' p t := ⟨h.1, h.2.1, h.2.2.mono hs ho⟩

/-- Elements one by one. -/
def Each {α β : Type} (R : α → β → Prop) (xs : List α) (ys : List β) : Prop := xs.length = ys.length ∧ ∀ (i : Nat) (x : α) (y : β), xs[i]? = some x → ys[i]? = some y → R x y

theorem Each.nil {α β : Type} {R : α → β → Prop} : Each R [] [] := ⟨rfl, fun i x y h => by simp at h⟩
theorem Each.imp {α β : Type} {R S : α → β → Prop} {xs : List α} {ys : List β} (h : Each R xs ys) (hi : ∀ x y, R x y → S x y) : Each S xs ys := ⟨h.1, fun i x y hx hy => hi x y (h.2 i x y hx hy)⟩
theorem Each.snoc {α β : Type} {R : α → β → Prop} {xs : List α} {ys : List β} (h : Each R xs ys) {x : α} {y : β} (hxy : R x y) : Each R (xs ++ [x]) (ys ++ [y]) := by
  refine ⟨by simp [h.1], fun i a b ha hb => ?_⟩
  rcases Nat.lt_or_ge i xs.length with hi | hi
  · rw [List.getElem?_append_left hi] at ha
    rw [List.getElem?_append_left (by have := h.1; omega)] at hb
    exact h.2 i a b ha hb
  · rw [List.getElem?_append_right hi] at ha
    rw [List.getElem?_append_right (by have := h.1; omega)] at hb
    rw [← h.1] at hb
    cases hj : i - xs.length with
    | zero =>
      rw [hj] at ha hb
      simp at ha hb
      subst ha hb
      exact hxy
    | succ j => rw [hj] at ha; simp at ha

/-- A slice of properties. -/
def PropsC (w : World) (ok : Nat → Prop) (v : Value) (ps : List Pr) : Prop :=
  ∃ A c ts, v = .slice A ps.length c ∧ ps.length * 40 ≤ 140737488351232 ∧ ps.length ≤ c ∧ c ≤ maxLen ∧ Each (PrC w ok) ps ts ∧ (ps = [] ∨ ∃ b o, A = some ⟨b, o, none⟩ ∧ ok b ∧ DuoR w b o ts)

theorem PropsC.mono {w w' : World} {ok ok' : Nat → Prop} {v : Value} {ps : List Pr} (h : PropsC w ok v ps) (hs : Same ok w w') (ho : ∀ k, ok k → ok' k) : PropsC w' ok' v ps := by
  obtain ⟨A, c, ts, h1, h2, h3, h4, h5, h6⟩ := h
  refine ⟨A, c, ts, h1, h2, h3, h4, h5.imp fun _ _ h => h.mono hs ho, ?_⟩
  rcases h6 with h6 | ⟨b, o, e, hb, hd⟩
  · exact .inl h6
  · exact .inr ⟨b, o, e, ho b hb, hd.mono (hs b hb)⟩

/-- A node's three cells: its name, its properties, the nodes within. -/
inductive NodeC (w : World) (ok : Nat → Prop) : Nd → Value × Value × Value → Prop
  | mk {name : ByteArray} {ps : List Pr} {ks : List Nd} {vp : Value} {A : Option Addr} {c : Nat} (ts : List (Value × Value × Value)) (hn : name.size ≤ 140737488351232) (hp : PropsC w ok vp ps) (hl : ks.length * 64 ≤ 140737488351232)
      (hc : ks.length ≤ c) (hm : c ≤ maxLen) (hlen : ks.length = ts.length) (hk : ∀ (i : Nat) (x : Nd) (t : Value × Value × Value), ks[i]? = some x → ts[i]? = some t → NodeC w ok x t) (hr : ks = [] ∨ ∃ b o, A = some ⟨b, o, none⟩ ∧ ok b ∧ TriR w b o ts) :
      NodeC w ok (.mk name ps ks) (.string name, vp, .slice A ks.length c)

theorem NodeC.mono {w w' : World} {ok ok' : Nat → Prop} (hs : Same ok w w') (ho : ∀ k, ok k → ok' k) {n : Nd} {t : Value × Value × Value} (h : NodeC w ok n t) : NodeC w' ok' n t := by
  induction h with
  | mk ts hn hp hl hc hm hlen hk hr ih =>
    refine .mk ts hn (hp.mono hs ho) hl hc hm hlen ih ?_
    rcases hr with hr | ⟨b, o, e, hb, hd⟩
    · exact .inl hr
    · exact .inr ⟨b, o, e, ho b hb, hd.mono (hs b hb)⟩

/-- A slice of nodes. -/
def KidsC (w : World) (ok : Nat → Prop) (v : Value) (ks : List Nd) : Prop :=
  ∃ A c ts, v = .slice A ks.length c ∧ ks.length * 64 ≤ 140737488351232 ∧ ks.length ≤ c ∧ c ≤ maxLen ∧ Each (NodeC w ok) ks ts ∧ (ks = [] ∨ ∃ b o, A = some ⟨b, o, none⟩ ∧ ok b ∧ TriR w b o ts)

theorem NodeC.open_ {w : World} {ok : Nat → Prop} {name : ByteArray} {ps : List Pr} {ks : List Nd} {t : Value × Value × Value} (h : NodeC w ok (.mk name ps ks) t) :
    ∃ vp vk, t = (.string name, vp, vk) ∧ name.size ≤ 140737488351232 ∧ PropsC w ok vp ps ∧ KidsC w ok vk ks := by
  cases h with
  | mk ts hn hp hl hc hm hlen hk hr => exact ⟨_, _, rfl, hn, hp, _, _, ts, rfl, hl, hc, hm, ⟨hlen, hk⟩, hr⟩

theorem NodeC.shut {w : World} {ok : Nat → Prop} {name : ByteArray} {ps : List Pr} {ks : List Nd} {vp vk : Value} (hn : name.size ≤ 140737488351232) (hp : PropsC w ok vp ps) (hk : KidsC w ok vk ks) : NodeC w ok (.mk name ps ks) (.string name, vp, vk) := by
  obtain ⟨A, c, ts, rfl, hl, hc, hm, ⟨hlen, hk⟩, hr⟩ := hk
  exact .mk ts hn hp hl hc hm hlen hk hr

theorem KidsC.mono {w w' : World} {ok ok' : Nat → Prop} {v : Value} {ks : List Nd} (h : KidsC w ok v ks) (hs : Same ok w w') (ho : ∀ k, ok k → ok' k) : KidsC w' ok' v ks := by
  obtain ⟨A, c, ts, h1, h2, h3, h4, h5, h6⟩ := h
  refine ⟨A, c, ts, h1, h2, h3, h4, h5.imp fun _ _ h => h.mono hs ho, ?_⟩
  rcases h6 with h6 | ⟨b, o, e, hb, hd⟩
  · exact .inl h6
  · exact .inr ⟨b, o, e, ho b hb, hd.mono (hs b hb)⟩

/-- The rooms' cells. -/
def roomC (r : Int × Int) : Value × Value := (.int .u64 r.1, .int .u64 r.2)

def RoomsC (w : World) (ok : Nat → Prop) (v : Value) (rs : List (Int × Int)) : Prop :=
  ∃ A c, v = .slice A rs.length c ∧ rs.length * 16 ≤ 140737488351232 ∧ rs.length ≤ c ∧ c ≤ maxLen ∧ (∀ r ∈ rs, 0 ≤ r.1 ∧ r.1 ≤ 18446744073709551615 ∧ 0 ≤ r.2 ∧ r.2 ≤ 18446744073709551615) ∧
    (rs = [] ∨ ∃ b o, A = some ⟨b, o, none⟩ ∧ ok b ∧ DuoR w b o (rs.map roomC))

theorem RoomsC.mono {w w' : World} {ok ok' : Nat → Prop} {v : Value} {rs : List (Int × Int)} (h : RoomsC w ok v rs) (hs : Same ok w w') (ho : ∀ k, ok k → ok' k) : RoomsC w' ok' v rs := by
  obtain ⟨A, c, h1, h2, h3, h4, h5, h6⟩ := h
  refine ⟨A, c, h1, h2, h3, h4, h5, ?_⟩
  rcases h6 with h6 | ⟨b, o, e, hb, hd⟩
  · exact .inl h6
  · exact .inr ⟨b, o, e, ho b hb, hd.mono (hs b hb)⟩

/-- A tree's seven cells. -/
def TreeC (w : World) (ok : Nat → Prop) (t : Tr) (cs : Array Value) : Prop :=
  ∃ vr k, cs = #[.int .i64 t.ver, .int .i64 t.lc, .int .i64 t.boot, vr, k.1, k.2.1, k.2.2] ∧ RoomsC w ok vr t.rooms ∧ NodeC w ok t.root k ∧
    (-9223372036854775808 ≤ t.ver ∧ t.ver ≤ 9223372036854775807) ∧ (-9223372036854775808 ≤ t.lc ∧ t.lc ≤ 9223372036854775807) ∧ (-9223372036854775808 ≤ t.boot ∧ t.boot ≤ 9223372036854775807)

theorem TreeC.mono {w w' : World} {ok ok' : Nat → Prop} {t : Tr} {cs : Array Value} (h : TreeC w ok t cs) (hs : Same ok w w') (ho : ∀ k, ok k → ok' k) : TreeC w' ok' t cs := by
  obtain ⟨vr, k, h1, h2, h3, h4⟩ := h
  exact ⟨vr, k, h1, h2.mono hs ho, h3.mono hs ho, h4⟩

theorem Same.of_below {B : Nat} {w w' : World} (h : Below B w w') {ok : Nat → Prop} (ho : ∀ k, ok k → k < B) : Same ok w w' := fun k hk => h.block k (ho k hk)
theorem Same.refl (ok : Nat → Prop) (w : World) : Same ok w w := fun _ _ => rfl
theorem Same.trans {ok : Nat → Prop} {a b c : World} (h : Same ok a b) (k : Same ok b c) : Same ok a c := fun i hi => (k i hi).trans (h i hi)
end Go.Proofs.Ytlbhadggfipckaa
