/-
  Frames: what a call leaves as it was; blocks that are known whole; the cost of a node.
-/
import Derived.Test.YtlbhadggfipckaaNa
set_option linter.unusedVariables false
set_option linter.unusedSimpArgs false
namespace Go.Proofs.Ytlbhadggfipckaa
open Go.RowKit

/-- Below B, but for the blocks in X, the world w' is as w was. -/
structure Fr (B : Nat) (X : Nat → Prop) (w w' : World) : Prop where
  os : w'.os = w.os
  tape : w'.tape = w.tape
  output : w'.output = w.output
  size : w.heap.size ≤ w'.heap.size
  block : ∀ k, k < B → ¬ X k → w'.heap[k]? = w.heap[k]?

section
variable {B : Nat} {X : Nat → Prop} {a b c w w' : World}
theorem Fr.refl (B : Nat) (X : Nat → Prop) (w : World) : Fr B X w w := ⟨rfl, rfl, rfl, Nat.le_refl _, fun _ _ _ => rfl⟩
theorem Fr.trans (h : Fr B X a b) (k : Fr B X b c) : Fr B X a c :=
  ⟨k.os.trans h.os, k.tape.trans h.tape, k.output.trans h.output, Nat.le_trans h.size k.size, fun i hi hx => (k.block i hi hx).trans (h.block i hi hx)⟩
theorem Fr.mono {B' : Nat} {X' : Nat → Prop} (h : Fr B X w w') (hB : B' ≤ B) (hX : ∀ k, k < B' → X k → X' k) : Fr B' X' w w' :=
  ⟨h.os, h.tape, h.output, h.size, fun k hk hx => h.block k (Nat.lt_of_lt_of_le hk hB) (fun hh => hx (hX k hk hh))⟩
theorem Fr.of_below (h : Below B w w') : Fr B X w w' := ⟨h.os, h.tape, h.output, h.size, fun k hk _ => h.block k hk⟩
theorem Fr.below (h : Fr B X w w') {B' : Nat} (hB : B' ≤ B) (hX : ∀ k, k < B' → ¬ X k) : Below B' w w' := ⟨h.os, h.tape, h.output, h.size, fun k hk => h.block k (Nat.lt_of_lt_of_le hk hB) (hX k hk)⟩
theorem Fr.drew (h : Fr B X a w) : Fr B X a w.drew := ⟨h.os, h.tape, h.output, h.size, h.block⟩
theorem Fr.drewN (h : Fr B X a w) (n : Nat) : Fr B X a (w.drewN n) := ⟨h.os, h.tape, h.output, h.size, h.block⟩
theorem Fr.alloc (h : Fr B X a w) (hB : B ≤ w.heap.size) (o : Obj) : Fr B X a (w.alloc o) :=
  h.trans ⟨rfl, rfl, rfl, by simp, fun k hk _ => Below.heap_alloc _ _ _ (by omega)⟩
theorem Fr.setCell (h : Fr B X a w) {p : Addr} (hp : B ≤ p.block ∨ X p.block) (u : Value) : Fr B X a (w.setCell p u) :=
  h.trans ⟨rfl, rfl, rfl, by simp [World.setCell], fun k hk hx => Below.heap_setCell _ _ _ _ (by
    rintro rfl
    rcases hp with hp | hp
    · omega
    · exact hx hp)⟩
theorem Fr.grown (h : Fr B X a w) {row : Option Nat} (hg : w.grownBy w' row) (hB : B ≤ w.heap.size) (hr : ∀ k, row = some k → B ≤ k ∨ X k) : Fr B X a w' :=
  h.trans ⟨hg.os, hg.tape, hg.output, hg.size, fun k hk hx => hg.block k (by omega) (fun e => by
    rcases hr k e.symm with h | h
    · omega
    · exact hx h)⟩
theorem Fr.same (h : Fr B X w w') {ok : Nat → Prop} (ho : ∀ k, ok k → k < B ∧ ¬ X k) : Same ok w w' := fun k hk => h.block k (ho k hk).1 (ho k hk).2
theorem Fr.cell (h : Fr B X w w') {k o : Nat} (hk : k < B) (hx : ¬ X k) : w'.cell? ⟨k, o, none⟩ = w.cell? ⟨k, o, none⟩ := World.cell?_of_block (a := ⟨k, o, none⟩) (h.block k hk hx)
end

/-- Block b holds just the cells cs, none of them frozen. -/
def Cs (w : World) (b : Nat) (cs : Array Value) : Prop := ∃ t, w.heap[b]? = some (.cells cs t (0, 0))

section
variable {w w' : World} {b : Nat} {cs : Array Value}
theorem Cs.lt (h : Cs w b cs) : b < w.heap.size := by
  obtain ⟨t, h⟩ := h
  rcases Nat.lt_or_ge b w.heap.size with hlt | hge
  · exact hlt
  · rw [Array.getElem?_eq_none hge] at h; cases h
theorem Cs.cell (h : Cs w b cs) (i : Nat) : w.cell? ⟨b, i, none⟩ = cs[i]? := by
  obtain ⟨t, h⟩ := h
  exact cell_of_row w b i cs t (0, 0) h
theorem Cs.frozen (h : Cs w b cs) (i : Nat) : w.frozen? ⟨b, i, none⟩ = false := by
  obtain ⟨t, h⟩ := h
  simp [World.frozen?, h]
theorem Cs.new (w : World) (t : TypeId) (cs : Array Value) : Cs (w.alloc (.cells cs t)) w.heap.size cs := ⟨t, heap_alloc_new w _⟩
theorem Cs.drew (h : Cs w b cs) : Cs w.drew b cs := h
theorem Cs.drewN (h : Cs w b cs) (n : Nat) : Cs (w.drewN n) b cs := h
theorem Cs.alloc (h : Cs w b cs) (o : Obj) : Cs (w.alloc o) b cs := by
  have hl := h.lt
  obtain ⟨t, h⟩ := h
  exact ⟨t, (Below.heap_alloc w o b hl).trans h⟩
theorem Cs.set_ (h : Cs w b cs) (i : Nat) (u : Value) : Cs (w.setCell ⟨b, i, none⟩ u) b (cs.setIfInBounds i u) := by
  obtain ⟨t, h⟩ := h
  exact ⟨t, by simp [World.setCell, Array.getElem?_modify, h]⟩
theorem Cs.far (h : Cs w b cs) {p : Addr} (hp : b ≠ p.block) (u : Value) : Cs (w.setCell p u) b cs := by
  obtain ⟨t, h⟩ := h
  exact ⟨t, (Below.heap_setCell w p u b hp).trans h⟩
theorem Cs.keep (h : Cs w b cs) (hb : w'.heap[b]? = w.heap[b]?) : Cs w' b cs := by
  obtain ⟨t, h⟩ := h
  exact ⟨t, hb.trans h⟩
theorem Cs.grown {row : Option Nat} (h : Cs w b cs) (hg : w.grownBy w' row) (hb : some b ≠ row) : Cs w' b cs := h.keep (hg.block b h.lt hb)
theorem Cs.below {B : Nat} (h : Cs w b cs) (hg : Below B w w') (hb : b < B) : Cs w' b cs := h.keep (hg.block b hb)
theorem Cs.fr {B : Nat} {X : Nat → Prop} (h : Cs w b cs) (hg : Fr B X w w') (hb : b < B) (hx : ¬ X b) : Cs w' b cs := h.keep (hg.block b hb hx)
end

def costP : List Pr → Nat
  | [] => 0
  | p :: r => 1 + p.val.length + costP r

mutual
def Nd.cost : Nd → Nat
  | .mk _ ps ks => 1 + costP ps + costL ks
def costL : List Nd → Nat
  | [] => 0
  | k :: r => k.cost + costL r
end

mutual
def Nd.depth : Nd → Nat
  | .mk _ _ ks => 1 + depthL ks
def depthL : List Nd → Nat
  | [] => 0
  | k :: r => max k.depth (depthL r)
end

mutual
def Nd.bad : Nd → Prop
  | .mk n _ ks => n = ⟨#[0]⟩ ∨ badL ks
def badL : List Nd → Prop
  | [] => False
  | k :: r => k.bad ∨ badL r
end

theorem costP_append : ∀ (a b : List Pr), costP (a ++ b) = costP a + costP b
  | [], b => by simp [costP]
  | p :: a, b => by simp [costP, costP_append a b]; omega
theorem costL_append : ∀ (a b : List Nd), costL (a ++ b) = costL a + costL b
  | [], b => by simp [costL]
  | p :: a, b => by simp [costL, costL_append a b]; omega
theorem depthL_append : ∀ (a b : List Nd), depthL (a ++ b) = max (depthL a) (depthL b)
  | [], b => by simp [depthL]
  | p :: a, b => by simp [depthL, depthL_append a b]
theorem badL_append : ∀ (a b : List Nd), badL (a ++ b) ↔ badL a ∨ badL b
  | [], b => by simp [badL]
  | p :: a, b => by simp [badL, badL_append a b, or_assoc]

/-- What the cut of a node n, some deep, with the room r, comes to. -/
def CutRel (deep : Nat) (r : Int) (n x : Nd) (r' : Int) : Prop :=
  (x = n ∧ r' = r - n.cost ∧ n.cost ≤ r ∧ n.depth ≤ deep) ∨ (x.bad ∧ ¬ (n.cost ≤ r ∧ n.depth ≤ deep) ∧ -140737488351240 ≤ r' ∧ r' ≤ r)
end Go.Proofs.Ytlbhadggfipckaa
