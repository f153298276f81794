/-
  laws.node: the walk where there is room.
-/
import Derived.Test.YtlbhadggfipckaaMa03
import Derived.Test.YtlbhadggfipckaaMa02
set_option linter.unusedVariables false
set_option linter.unusedSimpArgs false
namespace Go.Proofs.Ytlbhadggfipckaa
open Go.RowKit

/-- The first loop's invariant: k properties have gone over. -/
def NInv1 (w : World) (ok : Nat → Prop) (p : Nat) (name : ByteArray) (ps : List Pr) (vp vk : Value) (r : Int) (k : Nat) (wr : World) : Prop :=
  ∃ A c ts rk, Fr w.heap.size (· = p) w wr ∧ w.heap.size + 3 ≤ wr.heap.size ∧ Cs wr p #[.int .i64 rk] ∧ Cs wr w.heap.size #[.string name, vp, vk] ∧ Cs wr (w.heap.size + 1) #[.string ⟨#[]⟩, .slice none 0 0, .slice none 0 0] ∧
    Cs wr (w.heap.size + 1 + 1) #[.string name, .slice A k c, .slice none 0 0] ∧ wr.ownsRow (w.heap.size + 3) 125 2 (.slice A k c) k (ts.flatMap duo) ∧ Each (PrC wr ok) (ps.take k) ts ∧ rk = r - 1 - costP (ps.take k) ∧ 0 ≤ rk


theorem NodeC.form {w : World} {ok : Nat → Prop} {n : Nd} {t : Value × Value × Value} (h : NodeC w ok n t) : ∃ s A n c B m d, t = (.string s, .slice A n c, .slice B m d) := by
  cases h with
  | mk ts hn hp hl hc hm hlen hk hr =>
    obtain ⟨A, c, _, rfl, _⟩ := hp
    exact ⟨_, _, _, _, _, _, _, rfl⟩

theorem own_keep {w w' : World} {base n : Nat} {e : TypeId} {size : Nat} {v : Value} {xs : List Value} (h : w.ownsRow base e size v n xs) (hb : ∀ g, v.ownBlock = some g → w'.heap[g]? = w.heap[g]?) : w'.ownsRow base e size v n xs := by
  refine ⟨h.1, h.2.imp id ?_⟩
  rintro ⟨g, cap, cur, rfl, h1, h2, h3, h4, h5, h6⟩
  exact ⟨g, cap, cur, rfl, h1, (hb g rfl).trans h2, h3, h4, h5, h6⟩

theorem own_fr {w w' : World} {base n B : Nat} {X : Nat → Prop} {e : TypeId} {size : Nat} {v : Value} {xs : List Value} (h : w.ownsRow base e size v n xs) (hf : Fr B X w w') (hB : w.heap.size ≤ B) (hX : ∀ k, base ≤ k → ¬ X k) : w'.ownsRow base e size v n xs :=
  own_keep h fun g hg => hf.block g (by have := h.lt g hg; omega) (hX g (h.lt g hg).1)

theorem props_of_own {w : World} {base k c : Nat} {ok ok' : Nat → Prop} {A : Option Addr} {ps : List Pr} {ts : List (Value × Value)} (h : w.ownsRow base 125 2 (.slice A k c) k (ts.flatMap duo)) (hE : Each (PrC w ok) ps ts) (hk : ps.length = k)
    (hl : ps.length * 40 ≤ 140737488351232) (ho : ∀ b, ok b → ok' b) (hg : ∀ g, (Value.slice A k c).ownBlock = some g → ok' g) : PropsC w ok' (.slice A k c) ps := by
  subst hk
  refine ⟨A, c, ts, rfl, hl, ?_, ?_, hE.imp fun _ _ h => h.mono (Same.refl ok w) ho, ?_⟩
  · rcases h.2 with ⟨h1, h2⟩ | ⟨g, cap, cur, h1, h2⟩
    · injection h1 with _ _ h1; omega
    · injection h1 with _ _ h1; omega
  · rcases h.2 with ⟨h1, h2⟩ | ⟨g, cap, cur, h1, h2⟩
    · injection h1 with _ _ h1; omega
    · injection h1 with _ _ h1; omega
  · rcases id h.2 with ⟨h1, h2⟩ | ⟨g, cap, cur, h1, h2⟩
    · exact .inl (List.length_eq_zero_iff.1 h2)
    · injection h1 with h1 _ h3
      subst h1 h3
      exact .inr ⟨g, 0, rfl, hg g rfl, own_duo h⟩

theorem kids_of_own {w : World} {base k c : Nat} {ok ok' : Nat → Prop} {A : Option Addr} {ks : List Nd} {ts : List (Value × Value × Value)} (h : w.ownsRow base 46 3 (.slice A k c) k (ts.flatMap tri)) (hE : Each (NodeC w ok) ks ts) (hk : ks.length = k)
    (hl : ks.length * 64 ≤ 140737488351232) (ho : ∀ b, ok b → ok' b) (hg : ∀ g, (Value.slice A k c).ownBlock = some g → ok' g) : KidsC w ok' (.slice A k c) ks := by
  subst hk
  refine ⟨A, c, ts, rfl, hl, ?_, ?_, hE.imp fun _ _ h => h.mono (Same.refl ok w) ho, ?_⟩
  · rcases h.2 with ⟨h1, h2⟩ | ⟨g, cap, cur, h1, h2⟩
    · injection h1 with _ _ h1; omega
    · injection h1 with _ _ h1; omega
  · rcases h.2 with ⟨h1, h2⟩ | ⟨g, cap, cur, h1, h2⟩
    · injection h1 with _ _ h1; omega
    · injection h1 with _ _ h1; omega
  · rcases id h.2 with ⟨h1, h2⟩ | ⟨g, cap, cur, h1, h2⟩
    · exact .inl (List.length_eq_zero_iff.1 h2)
    · injection h1 with h1 _ h3
      subst h1 h3
      exact .inr ⟨g, 0, rfl, hg g rfl, own_tri h⟩

/-- The blocks of what has been made, but for the kids' own row. -/
def OkK (N : Nat) (ok : Nat → Prop) (w' : World) (g : Option Nat) : Nat → Prop := fun b => ok b ∨ (N + 3 ≤ b ∧ b < w'.heap.size ∧ some b ≠ g)

def KRel (deep : Nat) (r1 : Int) (ks : List Nd) (k : Nat) (xs : List Nd) (rk : Int) : Prop :=
  (xs = ks.take k ∧ rk = r1 - costL (ks.take k) ∧ 0 ≤ rk ∧ depthL (ks.take k) ≤ deep) ∨ (badL xs ∧ ¬ ((costL ks : Int) ≤ r1 ∧ depthL ks ≤ deep) ∧ -140737488351240 ≤ rk ∧ rk ≤ r1)

/-- The second loop's invariant: k of the nodes within have gone over. -/
def NInv2 (w : World) (ok : Nat → Prop) (p deep : Nat) (name : ByteArray) (ps : List Pr) (ks : List Nd) (r : Int) (k : Nat) (wr : World) : Prop :=
  ∃ A c us xs rk vp, Fr w.heap.size (· = p) w wr ∧ w.heap.size + 3 ≤ wr.heap.size ∧ Cs wr p #[.int .i64 rk] ∧ Cs wr (w.heap.size + 1) #[.string ⟨#[]⟩, .slice none 0 0, .slice none 0 0] ∧
    Cs wr (w.heap.size + 1 + 1) #[.string name, vp, .slice A k c] ∧ wr.ownsRow (w.heap.size + 3) 46 3 (.slice A k c) k (us.flatMap tri) ∧ PropsC wr (OkK w.heap.size ok wr (Value.slice A k c).ownBlock) vp ps ∧
    Each (NodeC wr (OkK w.heap.size ok wr (Value.slice A k c).ownBlock)) xs us ∧ KRel deep (r - 1 - costP ps) ks k xs rk

theorem cost_take (ks : List Nd) (k : Nat) (h : k < ks.length) : costL (ks.take (k + 1)) = costL (ks.take k) + ks[k].cost ∧ costL (ks.take (k + 1)) ≤ costL ks ∧ depthL (ks.take (k + 1)) = max (depthL (ks.take k)) ks[k].depth ∧ depthL (ks.take (k + 1)) ≤ depthL ks := by
  have e1 : ks.take (k + 1) = ks.take k ++ [ks[k]] := by rw [List.take_succ_eq_append_getElem h]
  have e2 : costL ks = costL (ks.take (k + 1)) + costL (ks.drop (k + 1)) := by rw [← costL_append, List.take_append_drop]
  have e3 : depthL ks = max (depthL (ks.take (k + 1))) (depthL (ks.drop (k + 1))) := by rw [← depthL_append, List.take_append_drop]
  refine ⟨?_, by omega, ?_, by omega⟩
  · rw [e1, costL_append]
    simp [costL]
  · rw [e1, depthL_append]
    simp [depthL]

theorem KRel.step {deep : Nat} {r1 rk r' : Int} {ks xs : List Nd} {k : Nat} {x : Nd} (h : KRel deep r1 ks k xs rk) (hk : k < ks.length) (hx : CutRel deep rk ks[k] x r') : KRel deep r1 ks (k + 1) (xs ++ [x]) r' := by
  obtain ⟨c1, c2, c3, c4⟩ := cost_take ks k hk
  rcases h with ⟨h1, h2, h3, h4⟩ | ⟨h1, h2, h3, h4⟩
  · rcases hx with ⟨x1, x2, x3, x4⟩ | ⟨x1, x2, x3, x4⟩
    · refine .inl ⟨by rw [h1, x1, List.take_succ_eq_append_getElem hk], by omega, by omega, by omega⟩
    · exact .inr ⟨by rw [badL_append]; exact .inr (by simpa [badL] using x1), fun ⟨y1, y2⟩ => x2 ⟨by omega, by omega⟩, x3, by omega⟩
  · rcases hx with ⟨x1, x2, x3, x4⟩ | ⟨x1, x2, x3, x4⟩
    · exact .inr ⟨by rw [badL_append]; exact .inl h1, h2, by have := cost_pos ks[k]; omega, by omega⟩
    · exact .inr ⟨by rw [badL_append]; exact .inl h1, h2, x3, by omega⟩

theorem KRel.bounds {deep : Nat} {r1 rk : Int} {ks xs : List Nd} {k : Nat} (h : KRel deep r1 ks k xs rk) (h1 : 0 ≤ r1) : -140737488351240 ≤ rk ∧ rk ≤ r1 := by
  rcases h with ⟨h1, h2, h3, h4⟩ | ⟨h1, h2, h3, h4⟩ <;> omega

theorem KRel.neg {deep : Nat} {r1 rk : Int} {ks xs : List Nd} {k : Nat} (h : KRel deep r1 ks k xs rk) (h0 : rk < 0) : ¬ ((costL ks : Int) ≤ r1 ∧ depthL ks ≤ deep) := by
  rcases h with ⟨h1, h2, h3, h4⟩ | ⟨h1, h2, h3, h4⟩
  · omega
  · exact h2

theorem KRel.done {deep : Nat} {r rk : Int} {name : ByteArray} {ps : List Pr} {ks xs : List Nd} (h : KRel deep (r - 1 - costP ps) ks ks.length xs rk) : CutRel (deep + 1) r (.mk name ps ks) (.mk name ps xs) rk := by
  rcases h with ⟨h1, h2, h3, h4⟩ | ⟨h1, h2, h3, h4⟩
  · rw [List.take_length] at h1 h2 h4
    subst h1
    exact .inl ⟨rfl, by simp only [Nd.cost]; omega, by simp only [Nd.cost]; omega, by simp only [Nd.depth]; omega⟩
  · refine .inr ⟨.inr h1, ?_, h3, by omega⟩
    simp only [Nd.cost, Nd.depth]
    intro ⟨y1, y2⟩
    exact h2 ⟨by omega, by omega⟩

/-- The contract, at one depth. -/
def NodeAll (deep : Nat) : Prop := ∀ (w : World) (ok : Nat → Prop) (p : Nat) (n : Nd) (t : Value × Value × Value) (r : Int), 0 ≤ r → r ≤ 10000 → (∀ k, ok k → k < w.heap.size) → ¬ ok p → NodeC w ok n t → Cs w p #[.int .i64 r] →
    Calls Try.prog 33 #[.agg #[t.1, t.2.1, t.2.2], .int .i64 (deep : Int), .pointer (some ⟨p, 0, none⟩)] w (NodePost w ok p n deep r)

theorem Each.len {α β : Type} {R : α → β → Prop} {xs : List α} {ys : List β} (h : Each R xs ys) : xs.length = ys.length := h.1

theorem KRel.len {deep : Nat} {r1 rk : Int} {ks xs : List Nd} {k : Nat} (h : KRel deep r1 ks k xs rk) : True := trivial

theorem node_fin {w wr : World} {ok : Nat → Prop} {p deep : Nat} {name : ByteArray} {ps : List Pr} {ks xs : List Nd} {r rk : Int} {A1 A2 : Option Addr} {c1 c2 : Nat} {us : List (Value × Value × Value)} (hpl : p < w.heap.size) (hok : ∀ k, ok k → k < w.heap.size) (hp : ¬ ok p)
    (hns : name.size ≤ 140737488351232) (hk1 : ks.length * 64 ≤ 140737488351232) (hF : Fr w.heap.size (· = p) w wr) (hz : w.heap.size + 3 ≤ wr.heap.size) (q1 : Cs wr p #[.int .i64 rk])
    (hown : wr.ownsRow (w.heap.size + 3) 46 3 (.slice A2 ks.length c2) ks.length (us.flatMap tri)) (hpr : PropsC wr (OkK w.heap.size ok wr (Value.slice A2 ks.length c2).ownBlock) (.slice A1 ps.length c1) ps)
    (hE : Each (NodeC wr (OkK w.heap.size ok wr (Value.slice A2 ks.length c2).ownBlock)) xs us) (hkr : KRel deep (r - 1 - costP ps) ks ks.length xs rk) :
    NodePost w ok p (.mk name ps ks) (deep + 1) r (.returned (.agg #[.string name, .slice A1 ps.length c1, .slice A2 ks.length c2]))
      (((wr.setCell ⟨w.heap.size + 1, 0, none⟩ (.string name)).setCell ⟨w.heap.size + 1, 1, none⟩ (.slice A1 ps.length c1)).setCell ⟨w.heap.size + 1, 2, none⟩ (.slice A2 ks.length c2)) := by
  have hxs : xs.length = ks.length := by
    have h1 := hE.1
    have h2 := hown.1
    have h3 := tri_length us
    omega
  have hsm : Same (fun b => ok b ∨ (w.heap.size + 3 ≤ b ∧ b < wr.heap.size)) wr (((wr.setCell ⟨w.heap.size + 1, 0, none⟩ (.string name)).setCell ⟨w.heap.size + 1, 1, none⟩ (.slice A1 ps.length c1)).setCell ⟨w.heap.size + 1, 2, none⟩ (.slice A2 ks.length c2)) := fun b hb => by
    have h1 : b ≠ w.heap.size + 1 := by
      rcases hb with hb | hb
      · have := hok b hb; omega
      · omega
    rw [Below.heap_setCell _ _ _ _ h1, Below.heap_setCell _ _ _ _ h1, Below.heap_setCell _ _ _ _ h1]
  have hbl : ∀ b, (ok b ∨ (w.heap.size + 3 ≤ b ∧ b < wr.heap.size)) → Blo ok w (((wr.setCell ⟨w.heap.size + 1, 0, none⟩ (.string name)).setCell ⟨w.heap.size + 1, 1, none⟩ (.slice A1 ps.length c1)).setCell ⟨w.heap.size + 1, 2, none⟩ (.slice A2 ks.length c2)) b := fun b hb => hb.imp id fun h => ⟨by omega, by simp [World.setCell]; omega⟩
  have hwk : ∀ b, OkK w.heap.size ok wr (Value.slice A2 ks.length c2).ownBlock b → (ok b ∨ (w.heap.size + 3 ≤ b ∧ b < wr.heap.size)) := fun b hb => hb.imp id fun h => ⟨h.1, h.2.1⟩
  refine ⟨.mk name ps xs, (.string name, .slice A1 ps.length c1, .slice A2 ks.length c2), rk, rfl, ?_, ?_, ?_, hkr.done⟩
  · refine NodeC.mono hsm hbl (NodeC.shut hns (hpr.mono (Same.refl _ _) hwk) (kids_of_own hown hE hxs (by omega) hwk fun g hg => .inr (hown.lt g hg)))
  · exact ((q1.far (by simp; omega) _).far (by simp; omega) _).far (by simp; omega) _
  · exact ((hF.setCell (.inl (by simp)) _).setCell (.inl (by simp)) _).setCell (.inl (by simp)) _

theorem round_fin {w wr w1 w2 : World} {ok : Nat → Prop} {p deep k : Nat} {name : ByteArray} {ps : List Pr} {ks xs : List Nd} {r rk r' : Int} {A2 A' : Option Addr} {c2 c' : Nat} {us : List (Value × Value × Value)} {vp : Value} {cs1 cs2 : Array Value}
    {x : Nd} {t : Value × Value × Value} (hlt : k < ks.length)
    (hpl : p < w.heap.size) (hok : ∀ k, ok k → k < w.heap.size) (hp : ¬ ok p) (hF : Fr w.heap.size (· = p) w wr) (hz : w.heap.size + 3 ≤ wr.heap.size)
    (q3 : Cs wr (w.heap.size + 1) #[.string ⟨#[]⟩, .slice none 0 0, .slice none 0 0]) (q4 : Cs wr (w.heap.size + 1 + 1) #[.string name, vp, .slice A2 k c2])
    (hown : wr.ownsRow (w.heap.size + 3) 46 3 (.slice A2 k c2) k (us.flatMap tri)) (hpr : PropsC wr (OkK w.heap.size ok wr (Value.slice A2 k c2).ownBlock) vp ps)
    (hE : Each (NodeC wr (OkK w.heap.size ok wr (Value.slice A2 k c2).ownBlock)) xs us) (hkr : KRel deep (r - 1 - costP ps) ks k xs rk)
    (hx : NodeC w1 (Blo ok (wr.alloc (.cells cs1 38)).drew w1) x t) (hc : Cs w1 p #[.int .i64 r']) (hf : Fr (wr.alloc (.cells cs1 38)).drew.heap.size (· = p) (wr.alloc (.cells cs1 38)).drew w1) (hcut : CutRel deep rk ks[k] x r')
    (hown1 : w2.ownsRow (w.heap.size + 3) 46 3 (.slice A' (k + 1) c') (k + 1) (us.flatMap tri ++ tri t)) (hgrow : (w1.alloc (.cells cs2 46)).grownBy w2 (Value.slice A2 k c2).ownBlock)
    (hat : (Value.slice A' (k + 1) c').ownBlock = (Value.slice A2 k c2).ownBlock ∨ (Value.slice A' (k + 1) c').ownBlock = some (w1.alloc (.cells cs2 46)).heap.size) :
    NInv2 w ok p deep name ps ks r (k + 1) (w2.setCell ⟨w.heap.size + 1 + 1, 2, none⟩ (.slice A' (k + 1) c')) := by
  have hW : (wr.alloc (.cells cs1 38)).drew.heap.size = wr.heap.size + 1 := by simp
  have s1 := hf.size
  have s2 := hgrow.size
  have s2' : (w1.alloc (.cells cs2 46)).heap.size = w1.heap.size + 1 := by simp
  have hne : ∀ b, b < w.heap.size + 3 → some b ≠ (Value.slice A2 k c2).ownBlock := fun b hb => own_ne hown hb
  have hg0 : ∀ b, wr.heap.size ≤ b → some b ≠ (Value.slice A2 k c2).ownBlock := fun b hb e => by
    have := (hown.lt b e.symm).2
    omega
  have hg1 : ∀ b, b < w1.heap.size → some b ≠ (Value.slice A2 k c2).ownBlock → some b ≠ (Value.slice A' (k + 1) c').ownBlock := fun b hb h1 e => by
    rcases hat with h2 | h2
    · exact h1 (e.trans h2)
    · rw [h2] at e
      injection e with e
      omega
  have hsm : Same (OkK w.heap.size ok wr (Value.slice A2 k c2).ownBlock) wr (w2.setCell ⟨w.heap.size + 1 + 1, 2, none⟩ (.slice A' (k + 1) c')) := fun b hb => by
    have h1 : b < wr.heap.size ∧ b ≠ w.heap.size + 1 + 1 ∧ b ≠ p ∧ some b ≠ (Value.slice A2 k c2).ownBlock := by
      rcases hb with hb | ⟨hb1, hb2, hb3⟩
      · have h1 := hok b hb
        exact ⟨by omega, by omega, fun e => hp (e ▸ hb), hne b (by omega)⟩
      · exact ⟨hb2, by omega, by omega, hb3⟩
    obtain ⟨h1, h2, h3, h4⟩ := h1
    rw [Below.heap_setCell _ _ _ _ h2, hgrow.block b (by omega) h4, Below.heap_alloc _ _ _ (by omega), hf.block b (by omega) h3]
    show (wr.alloc _).heap[b]? = _
    rw [Below.heap_alloc _ _ _ h1]
  have hok2 : ∀ b, OkK w.heap.size ok wr (Value.slice A2 k c2).ownBlock b → OkK w.heap.size ok (w2.setCell ⟨w.heap.size + 1 + 1, 2, none⟩ (.slice A' (k + 1) c')) (Value.slice A' (k + 1) c').ownBlock b := fun b hb => by
    rcases hb with hb | ⟨hb1, hb2, hb3⟩
    · exact .inl hb
    · exact .inr ⟨hb1, by simp [World.setCell]; omega, hg1 b (by omega) hb3⟩
  have hsm3 : Same (Blo ok (wr.alloc (.cells cs1 38)).drew w1) w1 (w2.setCell ⟨w.heap.size + 1 + 1, 2, none⟩ (.slice A' (k + 1) c')) := fun b hb => by
    have h1 : b < w1.heap.size ∧ b ≠ w.heap.size + 1 + 1 ∧ some b ≠ (Value.slice A2 k c2).ownBlock := by
      rcases hb with hb | ⟨hb1, hb2⟩
      · have h1 := hok b hb
        exact ⟨by omega, by omega, hne b (by omega)⟩
      · exact ⟨hb2, by omega, hg0 b (by omega)⟩
    obtain ⟨h1, h2, h4⟩ := h1
    rw [Below.heap_setCell _ _ _ _ h2, hgrow.block b (by omega) h4, Below.heap_alloc _ _ _ (by omega)]
  have hok3 : ∀ b, Blo ok (wr.alloc (.cells cs1 38)).drew w1 b → OkK w.heap.size ok (w2.setCell ⟨w.heap.size + 1 + 1, 2, none⟩ (.slice A' (k + 1) c')) (Value.slice A' (k + 1) c').ownBlock b := fun b hb => by
    rcases hb with hb | ⟨hb1, hb2⟩
    · exact .inl hb
    · exact .inr ⟨by omega, by simp [World.setCell]; omega, hg1 b hb2 (hg0 b (by omega))⟩
  refine ⟨A', c', us ++ [t], xs ++ [x], r', vp, ?_, ?_, ?_, ?_, ?_, ?_, hpr.mono hsm hok2, (hE.imp fun _ _ h => h.mono hsm hok2).snoc (hx.mono hsm3 hok3), hkr.step hlt hcut⟩
  · refine Fr.setCell (Fr.grown (Fr.alloc ?_ (by omega) _) hgrow (by omega) fun g hg => .inl ?_) (.inl (by simp; omega)) _
    · exact ((hF.alloc (by omega) (.cells cs1 38)).drew).trans (hf.mono (by omega) fun _ _ h => h)
    · have := (hown.lt g hg).1
      omega
  · simp [World.setCell]; omega
  · exact ((hc.alloc _).grown hgrow (hne _ (by omega))).far (by simp; omega) _
  · exact (((((q3.alloc _).drew).fr hf (by omega) (by omega)).alloc _).grown hgrow (hne _ (by omega))).far (by simp) _
  · exact (((((q4.alloc _).drew).fr hf (by omega) (by omega)).alloc _).grown hgrow (hne _ (by omega))).set_ 2 _
  · have hh := ownsRow_setCell_below hown1 (a := ⟨w.heap.size + 1 + 1, 2, none⟩) (by simp) (.slice A' (k + 1) c')
    rw [List.flatMap_append]
    simpa using hh

set_option maxHeartbeats 2000000 in
theorem node_late (w : World) (ok : Nat → Prop) (p : Nat) (n : Nd) (t : Value × Value × Value) (deep : Nat) (r : Int) (hr0 : 1 ≤ r) (hr1 : r ≤ 10000) (hok : ∀ k, ok k → k < w.heap.size) (hp : ¬ ok p) (hn : NodeC w ok n t) (hc : Cs w p #[.int .i64 r]) (hd : deep + 1 ≤ 12) (IH : NodeAll deep) :
    Calls Try.prog 33 #[.agg #[t.1, t.2.1, t.2.2], .int .i64 ((deep : Int) + 1), .pointer (some ⟨p, 0, none⟩)] w (NodePost w ok p n (deep + 1) r) := by
  obtain ⟨name, ps, ks⟩ := n
  obtain ⟨vp, vk, rfl, hns, hps, hks⟩ := hn.open_
  obtain ⟨Ap, cp, ts, rfl, hp1, hp2, hp3, hp4, hp5⟩ := id hps
  obtain ⟨Ak, ck, us, rfl, hk1, hk2, hk3, hk4, hk5⟩ := id hks
  have hpl := hc.lt
  have c0 := hc.cell 0
  have f0 := hc.frozen 0
  simp at c0
  have hd1 : decide (r - 1 < 0) = false := decide_eq_false (by omega)
  have hd2 : ((deep : Int) + 1 == 0) = false := by simp; omega
  have Hc := Lib.hid hc
  have Hp := Lib.hid hps
  have Hk := Lib.hid hks
  have Hp4 := Lib.hid hp4
  have Hp5 := Lib.hid hp5
  have Hk4 := Lib.hid hk4
  have Hk5 := Lib.hid hk5
  clear hc hps hks hn hp4 hp5 hk4 hk5
  go_enter Try.func33, Try.ntmps33
  go_wp2_with fail
  go_loopw [32] (fun i wr => ∃ k : Nat, k ≤ ps.length ∧ i = .int .i64 k ∧ NInv1 w ok p name ps (.slice Ap ps.length cp) (.slice Ak ks.length ck) r k wr) (fun i _ => ps.length - (intOf i).toNat)
  case atStart =>
    have hc := Hc.out
    refine ⟨0, by omega, by go_num, none, 0, [], r - 1, ?_, ?_, ?_, ?_, ?_, ?_, ?_, ?_, ?_, by omega⟩
    · exact (((((Fr.refl w.heap.size (· = p) w).setCell (p := ⟨p, 0, none⟩) (.inr rfl) _).alloc (by simp [World.setCell]) _).alloc (by simp [World.setCell]) _).alloc (by simp [World.setCell]; omega) _)
    · simp [World.setCell]
    · exact (((hc.set_ 0 _).alloc _).alloc _).alloc _
    · exact ((Cs.new' _ _ _ _ (by simp [World.setCell])).alloc _).alloc _
    · exact (Cs.new' _ _ _ _ (by simp [World.setCell])).alloc _
    · exact Cs.new' _ _ _ _ (by simp [World.setCell])
    · exact ⟨by simp, .inl ⟨rfl, rfl⟩⟩
    · exact Each.nil
    · simp [costP]
  case round =>
    obtain ⟨k, hk, rfl, A, c, us', rk, hF, hz, q1, q2, q3, q4, hown, hE, hrk, hrk0⟩ := hrel
    by_cases hlt : k < ps.length
    · have hne : ps ≠ [] := by rintro rfl; simp at hlt
      obtain ⟨b, o, rfl, hob, hD⟩ := Hp5.out.resolve_left hne
      have hp4 := Hp4.out
      have hkp : ps[k]? = some ps[k] := List.getElem?_eq_getElem hlt
      have hlt2 : k < ts.length := by rw [← hp4.1]; exact hlt
      have hkt : ts[k]? = some (ts[k]'hlt2) := List.getElem?_eq_getElem hlt2
      obtain ⟨e1, e2, Av, cv, e3, v1, v2, v3, v4⟩ := hp4.2 k _ _ hkp hkt
      obtain ⟨d1, d2⟩ := hD k _ hkt
      have hbo := hok b hob
      have hbp : b ≠ p := fun e => hp (e ▸ hob)
      rw [← hF.cell hbo hbp, e1] at d1
      rw [← hF.cell hbo hbp, e3] at d2
      generalize hpk : ps[k] = pk at *
      clear e1 e3 hkt hkp hD hp4
      have Hpk := Lib.hid hpk
      have Hv4 := Lib.hid v4
      have Hq := Lib.hid (And.intro q1 (And.intro q2 (And.intro q3 q4)))
      have HE := Lib.hid hE
      have HF := Lib.hid hF
      have Hrk := Lib.hid hrk
      have c1 := q1.cell 0
      simp at c1
      have f1 := q1.frozen 0
      have c60 := q3.cell 0
      have c61 := q3.cell 1
      have c62 := q3.cell 2
      have f60 := q3.frozen 0
      have f61 := q3.frozen 1
      have f62 := q3.frozen 2
      have c71 := q4.cell 1
      have f71 := q4.frozen 1
      simp at c60 c61 c62 c71
      have z1 := q1.lt
      have z3 := q3.lt
      have z4 := q4.lt
      have hbl : b < wr.heap.size := by omega
      have hki : (0 : Int) ≤ (k : Int) := by omega
      have hrk1 : rk ≤ 10000 := by rw [hrk]; omega
      clear hpk v4 q1 q2 q3 q4 hE hF hrk c0 f0
      by_cases hneg : rk - (1 + (pk.val.length : Int)) < 0
      · go_wp2_with fail
        go_region
        go_wp2_with fail
        obtain ⟨q1, q2, q3, q4⟩ := Hq.out
        obtain ⟨g1, g2, g3⟩ := bad_world1 (v := .int .i64 (rk - (1 + (pk.val.length : Int)))) (x := .string ⟨#[0]⟩) (y := .slice none 0 0) (z := .slice none 0 0) HF.out q1 q3 hpl (.cells #[.string pk.name, .slice Av pk.val.length cv] 124)
        refine bodyPost_ret (res46 (b := w.heap.size + 1) rfl rfl g3) rfl ?_
        refine bad_end g1 g2 (by omega) (by have := Hrk.out; omega) ?_
        simp only [Nd.cost]
        have h1 := Hrk.out
        have h2 := costP_take ps k hlt
        have h3 := Hpk.out
        rw [h3] at h2
        omega
      · have hnn : (0 : Int) ≤ rk - (1 + (pk.val.length : Int)) := by omega
        have hd3 : decide (rk - (1 + (pk.val.length : Int)) < 0) = false := decide_eq_false hneg
        go_wp2_with fail
        go_region
        go_wp2_with (at_builtin; go_must (refine wpList_append_el el43 rfl (.tmp 51) (.tmp 57) rfl (w.heap.size + 3) (.slice A k c) k (us'.flatMap duo) rfl ((((ownsRow_setCell_below hown (by simp; omega) _).alloc _).alloc _).drew) (some ⟨wr.heap.size + 1, 0, none⟩) 1 1 [.string pk.name, .slice Av pk.val.length cv] rfl (by simp) ((Cs.new' _ _ _ _ (by simp [World.setCell])).drew.rd rfl) (by simp [Value.oneCell']) (by omega) (by omega) (by simp [World.setCell]; omega) ?_); intro v' w1 hown1 hgrow hnil hat; obtain ⟨A', c', rfl⟩ := own_slice hown1; clear hnil; have hq4 := (((((Hq.out.2.2.2.far (p := ⟨p, 0, none⟩) (by simp; omega) _).alloc _).alloc _).drew).grown hgrow (own_ne hown (by omega))); have c71' := hq4.cell 1; have f71' := hq4.frozen 1; simp at c71')
        obtain ⟨q1, q2, q3, q4⟩ := Hq.out
        have hne := fun (x : Nat) (hx : x < w.heap.size + 3) => own_ne hown hx
        refine ⟨⟨k + 1, by omega, by go_num, A', c', us' ++ [(.string pk.name, .slice Av pk.val.length cv)], rk - (1 + (pk.val.length : Int)), ?_, ?_, ?_, ?_, ?_, ?_, ?_, ?_, ?_, hnn⟩, by simp [intOf]; omega⟩
        · refine Fr.setCell (Fr.grown (Fr.drew (Fr.alloc (Fr.alloc (HF.out.setCell (.inr rfl) _) (by simp [World.setCell]; omega) _) (by simp [World.setCell]; omega) _)) hgrow (by simp [World.setCell]; omega) (fun g hg => .inl ?_)) (.inl (by simp; omega)) _
          have := (hown.lt g hg).1
          omega
        · have := hgrow.size
          simp [World.setCell] at this ⊢
          omega
        · exact ((((q1.set_ 0 _).alloc _).alloc _).drew.grown hgrow (hne _ (by omega))).far (by simp; omega) _
        · exact (((((q2.far (by simp; omega) _).alloc _).alloc _).drew).grown hgrow (hne _ (by omega))).far (by simp; omega) _
        · exact (((((q3.far (by simp; omega) _).alloc _).alloc _).drew).grown hgrow (hne _ (by omega))).far (by simp) _
        · exact hq4.set_ 1 _
        · have hh := ownsRow_setCell_below hown1 (a := ⟨w.heap.size + 1 + 1, 1, none⟩) (by simp) (.slice A' (k + 1) c')
          rw [List.flatMap_append]
          exact hh
        · have hsame : Same ok wr (w1.setCell ⟨w.heap.size + 1 + 1, 1, none⟩ (.slice A' (k + 1) c')) := fun x hx => by
            have hxl := hok x hx
            have hxp : x ≠ p := fun e => hp (e ▸ hx)
            rw [Below.heap_setCell _ _ _ _ (by simp; omega), hgrow.block x (by simp [World.setCell]; omega) (hne x (by omega))]
            show ((((wr.setCell _ _).alloc _).alloc _)).heap[x]? = _
            rw [Below.heap_alloc _ _ _ (by simp [World.setCell]; omega), Below.heap_alloc _ _ _ (by simp [World.setCell]; omega), Below.heap_setCell _ _ _ _ (by simpa using hxp)]
          have h1 := (HE.out.imp fun _ _ h => h.mono hsame (fun _ h => h)).snoc (x := pk) (y := (.string pk.name, .slice Av pk.val.length cv)) (R := PrC (w1.setCell ⟨w.heap.size + 1 + 1, 1, none⟩ (.slice A' (k + 1) c')) ok) ⟨rfl, e2, Av, cv, rfl, v1, v2, v3, ?_⟩
          · rw [List.take_succ_eq_append_getElem hlt, Hpk.out]
            exact h1
          · have hw : Same ok w wr := HF.out.same fun x hx => ⟨hok x hx, fun e => hp (e ▸ hx)⟩
            exact Hv4.out.mono (hw.trans hsame) (fun _ h => h)
        · have h2 := (costP_take ps k hlt).1
          rw [Hpk.out] at h2
          have := Hrk.out
          omega
    · obtain rfl : k = ps.length := by omega
      obtain ⟨wo, rfl⟩ : ∃ wo : World, wo = wr := ⟨_, rfl⟩
      have c42 := q2.cell 2
      have z2 := q2.lt
      simp at c42
      rw [List.take_length] at hE hrk
      have hpr : PropsC wo (OkK w.heap.size ok wo none) (.slice A ps.length c) ps := props_of_own hown hE rfl hp1 (fun b hb => .inl hb) (fun g hg => .inr ⟨(hown.lt g hg).1, (hown.lt g hg).2, by simp⟩)
      have Hq := Lib.hid (And.intro q1 (And.intro q3 q4))
      have Hpr := Lib.hid hpr
      have HF := Lib.hid hF
      have IH := Lib.hid IH
      clear q1 q2 q3 q4 hpr hF hE hown Hp Hp4 Hp5 c0 f0
      go_wp2_with fail
      go_loopw [64] (fun i wr => ∃ k : Nat, k ≤ ks.length ∧ i = .int .i64 k ∧ NInv2 w ok p deep name ps ks r k wr) (fun i _ => ks.length - (intOf i).toNat)
      case atStart =>
        obtain ⟨q1, q3, q4⟩ := Hq.out
        exact ⟨0, by omega, by go_num, none, 0, [], [], rk, .slice A ps.length c, HF.out, hz, q1, q3, q4, World.ownsRow_nil _ _ _ _, Hpr.out, Each.nil, .inl ⟨rfl, by simp [costL]; omega, hrk0, by simp [depthL]⟩⟩
      case round =>
        have hrb : r - 1 - costP ps ≤ 9999 ∧ 0 ≤ r - 1 - costP ps := by omega
        clear Hq Hpr HF hz z2 c42 hrk hrk0 rk us'
        obtain ⟨k, hk, rfl, A2, c2, us', xs, rk, vp, hF, hz, q1, q3, q4, hown, hpr, hE, hkr⟩ := hrel
        have hrkb := hkr.bounds hrb.2
        obtain ⟨A1, c1', -, rfl, -⟩ := id hpr
        have c1 := q1.cell 0
        simp at c1
        have f1 := q1.frozen 0
        have c60 := q3.cell 0
        have c61 := q3.cell 1
        have c62 := q3.cell 2
        have f60 := q3.frozen 0
        have f61 := q3.frozen 1
        have f62 := q3.frozen 2
        have c70 := q4.cell 0
        have c71 := q4.cell 1
        have c72 := q4.cell 2
        have f72 := q4.frozen 2
        simp at c60 c61 c62 c70 c71 c72
        have z1 := q1.lt
        have z3 := q3.lt
        have z4 := q4.lt
        have Hq := Lib.hid (And.intro q1 (And.intro q3 q4))
        have HF := Lib.hid hF
        have Hpr := Lib.hid hpr
        have HE := Lib.hid hE
        have Hkr := Lib.hid hkr
        have Hown := Lib.hid hown
        clear q1 q3 q4 hpr hE hkr
        by_cases hlt : k < ks.length
        · have hne : ks ≠ [] := by rintro rfl; simp at hlt
          obtain ⟨b, o, rfl, hob, hD⟩ := Hk5.out.resolve_left hne
          have hk4 := Hk4.out
          have hkp : ks[k]? = some ks[k] := List.getElem?_eq_getElem hlt
          have hlt2 : k < us.length := by rw [← hk4.1]; exact hlt
          have hkt : us[k]? = some (us[k]'hlt2) := List.getElem?_eq_getElem hlt2
          have hN := hk4.2 k _ _ hkp hkt
          obtain ⟨d1, d2, d3⟩ := hD k _ hkt
          have hbo := hok b hob
          have hbp : b ≠ p := fun e => hp (e ▸ hob)
          rw [← hF.cell hbo hbp] at d1 d2 d3
          generalize htk : us[k]'hlt2 = tk at *
          obtain ⟨s1, A3, n3, c3, A4, n4, c4, rfl⟩ := hN.form
          simp only at d1 d2 d3
          have hbl : b < wr.heap.size := by have := hok b hob; omega
          have hki : (0 : Int) ≤ (k : Int) := by omega
          have HN := Lib.hid hN
          clear hkt hkp hD hk4 htk hN hF hown
          by_cases hneg : rk < 0
          · go_wp2_with fail
            obtain ⟨q1, q3, q4⟩ := Hq.out
            obtain ⟨g1, g2, g3⟩ := bad_world2 (x := .string ⟨#[0]⟩) (y := .slice none 0 0) (z := .slice none 0 0) HF.out q1 q3 hpl (.cells #[.string s1, .slice A3 n3 c3, .slice A4 n4 c4] 38)
            refine bodyPost_ret (res46 (b := w.heap.size + 1) rfl rfl g3) rfl ?_
            refine bad_end g1 g2 (by omega) (by omega) ?_
            have h1 := Hkr.out.neg hneg
            simp only [Nd.cost, Nd.depth]
            intro ⟨y1, y2⟩
            exact h1 ⟨by omega, by omega⟩
          · have hd3 : decide (rk < 0) = false := decide_eq_false hneg
            have hwd : IntKind.i64.wrap (deep : Int) = deep := by simp only [IntKind.wrap, IntKind.bits, IntKind.signed]; simp; omega
            go_wp2_with fail
            refine wp_region_seq (fun w' => w'.cell? ⟨w.heap.size + 1 + 1, 2, none⟩ = some (.slice A2 k c2) ∧ w'.cell? ⟨wr.heap.size, 0, none⟩ = some (.string s1) ∧ w'.cell? ⟨wr.heap.size, 1, none⟩ = some (.slice A3 n3 c3) ∧ w'.cell? ⟨wr.heap.size, 2, none⟩ = some (.slice A4 n4 c4)) 10
              [(0, true), (1, true), (2, true), (3, true), (4, true), (5, true), (6, false), (7, false), (8, false), (9, true), (10, false)] (by kernel_rfl) (by kernel_rfl) (by simp [go_sem, World.cell?_alloc_lt, c72, *]) ?_
            simp only [opsIn, List.map_cons, List.map_nil, List.getElem?_toArray, List.getElem?_cons_zero, List.getElem?_cons_succ, Option.getD_some, Nat.reduceBEq]
            iterate 6
              refine' Seq.quiet (by rfl) ?_ ?_
              rotate_left
              · rintro w' ⟨hS1, hS2, hS3, hS4⟩
                go_simp
                try with_reducible rfl
              try simp only [Act.put, List.setIfInBounds_toArray, List.set_cons_zero, List.set_cons_succ]
            refine Seq.eff ?_ ?_
            · rfl
            intro K hK
            go_simp
            have hsz : (wr.alloc (.cells #[.string s1, .slice A3 n3 c3, .slice A4 n4 c4] 38)).drew.heap.size = wr.heap.size + 1 := by simp
            have hI := IH.out (wr.alloc (.cells #[.string s1, .slice A3 n3 c3, .slice A4 n4 c4] 38)).drew ok p _ _ rk (by omega) (by omega) (fun x hx => by have := hok x hx; omega) hp
              (NodeC.mono (w' := (wr.alloc (.cells #[.string s1, .slice A3 n3 c3, .slice A4 n4 c4] 38)).drew) (fun x hx => by
                have h1 := hok x hx
                have h2 : x ≠ p := fun e => hp (e ▸ hx)
                show (wr.alloc _).heap[x]? = _
                rw [Below.heap_alloc _ _ _ (by omega)]
                exact HF.out.block x h1 h2) (fun _ h => h) HN.out) ((Hq.out.1.alloc _).drew)
            refine hI.mono ?_
            rintro e w1 ⟨x, t, r', rfl, hx, hc', hf', hcut⟩
            obtain ⟨s5, A5, n5, c5, A6, n6, c6, rfl⟩ := hx.form
            have s1z := hf'.size
            have e0 : w1.cell? ⟨w.heap.size + 1 + 1, 2, none⟩ = some (.slice A2 k c2) := (hf'.cell (by omega) (by omega)).trans (by simp [go_sem, World.cell?_alloc_lt, c72, *])
            have e1 : w1.cell? ⟨wr.heap.size, 0, none⟩ = some (.string s1) := (hf'.cell (by omega) (by omega)).trans (by simp [go_sem])
            have e2 : w1.cell? ⟨wr.heap.size, 1, none⟩ = some (.slice A3 n3 c3) := (hf'.cell (by omega) (by omega)).trans (by simp [go_sem])
            have e3 : w1.cell? ⟨wr.heap.size, 2, none⟩ = some (.slice A4 n4 c4) := (hf'.cell (by omega) (by omega)).trans (by simp [go_sem])
            refine hK.out _ _ (.inr ⟨e0, e1, e2, e3⟩) ?_
            clear hK K
            try simp only [Act.put, List.setIfInBounds_toArray, List.set_cons_zero, List.set_cons_succ]
            refine Seq.eff ?_ ?_
            · rfl
            intro K hK
            go_simp
            refine hK.out _ _ (.inr ?_) ?_
            · have hb1 : w.heap.size + 1 + 1 < w1.heap.size := by omega
              have hb2 : wr.heap.size < w1.heap.size := by omega
              exact ⟨(World.cell?_alloc_lt _ _ _ hb1).trans e0, (World.cell?_alloc_lt _ _ _ hb2).trans e1, (World.cell?_alloc_lt _ _ _ hb2).trans e2, (World.cell?_alloc_lt _ _ _ hb2).trans e3⟩
            clear hK K
            try simp only [Act.put, List.setIfInBounds_toArray, List.set_cons_zero, List.set_cons_succ]
            refine Seq.eff ?_ ?_
            · rfl
            intro K hK
            refine wp_append_el el44 (.tmp 74) (.tmp 80) rfl (w.heap.size + 3) (.slice A2 k c2) k (us'.flatMap tri) rfl ((own_fr ((Hown.out.alloc (.cells #[.string s1, .slice A3 n3 c3, .slice A4 n4 c4] 38)).drew) hf' (Nat.le_refl _) (fun x hx => by omega)).alloc _) (some ⟨w1.heap.size, 0, none⟩) 1 1 [.string s5, .slice A5 n5 c5, .slice A6 n6 c6] rfl (by simp)
              ((Cs.new _ _ _).rd rfl) (by simp [Value.oneCell']) (by omega) (by omega) (by simp; omega) ?_
            intro v' w2 hown1 hgrow hnil hat
            obtain ⟨A', c', rfl⟩ := own_slice hown1
            clear hnil
            have hrow : some wr.heap.size ≠ (Value.slice A2 k c2).ownBlock := fun e => by have := (Hown.out.lt _ e.symm).2; omega
            have hN2 : some (w.heap.size + 1 + 1) ≠ (Value.slice A2 k c2).ownBlock := own_ne Hown.out (by omega)
            have hk2 : ∀ b o, b < wr.heap.size + 1 → some b ≠ (Value.slice A2 k c2).ownBlock → w2.cell? ⟨b, o, none⟩ = w1.cell? ⟨b, o, none⟩ := fun b o h1 h2 =>
              (World.cell?_of_block (a := ⟨b, o, none⟩) (hgrow.block b (by simp; omega) h2)).trans (World.cell?_alloc_lt _ _ _ (by simp; omega))
            have hf72 : w2.frozen? ⟨w.heap.size + 1 + 1, 2, none⟩ = false := ((((Hq.out.2.2.alloc _).drew.fr hf' (by omega) (by omega)).alloc _).grown hgrow hN2).frozen 2
            have g0 : w2.cell? ⟨w.heap.size + 1 + 1, 2, none⟩ = some (.slice A2 k c2) := (hk2 _ _ (by omega) hN2).trans e0
            refine hK.out _ _ (.inr ⟨g0, (hk2 _ _ (by omega) hrow).trans e1, (hk2 _ _ (by omega) hrow).trans e2, (hk2 _ _ (by omega) hrow).trans e3⟩) ?_
            clear hK K
            try simp only [Act.put, List.setIfInBounds_toArray, List.set_cons_zero, List.set_cons_succ]
            refine' Seq.quiet (by rfl) ?_ ?_
            rotate_left
            · rintro w' ⟨hS1, hS2, hS3, hS4⟩
              go_simp
              try with_reducible rfl
            try simp only [Act.put, List.setIfInBounds_toArray, List.set_cons_zero, List.set_cons_succ]
            refine Seq.last ?_ ?_
            · rfl
            intro K hK
            go_simp
            refine hK.out _ _ ?_
            clear hK K
            have HFIN := Lib.hid (round_fin hlt hpl hok hp HF.out hz Hq.out.2.1 Hq.out.2.2 Hown.out Hpr.out HE.out Hkr.out hx hc' hf' hcut hown1 hgrow hat)
            go_wp2_with fail
            exact ⟨⟨k + 1, by omega, by go_num, HFIN.out⟩, by simp [intOf]; omega⟩
        · obtain rfl : k = ks.length := by omega
          go_wp2_with fail
          obtain ⟨q1, q3, q4⟩ := Hq.out
          refine bodyPost_ret (res46 (b := w.heap.size + 1) (x := .string name) (y := .slice A1 ps.length c1') (z := .slice A2 ks.length c2) rfl rfl (((q3.set_ 0 _).set_ 1 _).set_ 2 _)) rfl ?_
          exact node_fin hpl hok hp hns hk1 HF.out hz q1 Hown.out Hpr.out HE.out Hkr.out

theorem node_walk : ∀ deep : Nat, deep ≤ 12 → NodeAll deep
  | 0, h => fun w ok p n t r h1 h2 h3 h4 h5 h6 => node_early w ok p n t 0 r h1 h2 h3 h4 h5 h6 (.inr rfl) h
  | deep + 1, h => fun w ok p n t r h1 h2 h3 h4 h5 h6 => by
    by_cases hr : r < 1
    · exact node_early w ok p n t (deep + 1) r h1 h2 h3 h4 h5 h6 (.inl hr) h
    · rw [show ((deep + 1 : Nat) : Int) = (deep : Int) + 1 from by omega]
      exact node_late w ok p n t deep r (by omega) h2 h3 h4 h5 h6 h (node_walk deep (by omega))
end Go.Proofs.Ytlbhadggfipckaa
