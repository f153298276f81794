/-
  Nodes by pointers: trees of blocks; frames of the loops that append.
-/
import Derived.Test.YtlbhadggfipckaaFk
set_option linter.unusedVariables false
set_option linter.unusedSimpArgs false
namespace Go.Proofs.Ytlbhadggfipckaa
open Go.RowKit

/-- A node with the block that it lies in. -/
inductive LT where
  | mk (b : Nat) (name : ByteArray) (props : List Pr) (kids : List LT)

def LT.b : LT → Nat | .mk b _ _ _ => b
def LT.name : LT → ByteArray | .mk _ n _ _ => n
def LT.ks : LT → List LT | .mk _ _ _ k => k

mutual
def LT.erase : LT → Nd
  | .mk _ n ps ks => .mk n ps (eraseL ks)
def eraseL : List LT → List Nd
  | [] => []
  | k :: r => k.erase :: eraseL r
end

mutual
def LT.flat : LT → List Nat
  | .mk b _ _ ks => b :: flatL ks
def flatL : List LT → List Nat
  | [] => []
  | k :: r => k.flat ++ flatL r
end

theorem eraseL_eq : ∀ ks : List LT, eraseL ks = ks.map LT.erase
  | [] => rfl
  | k :: r => by simp [eraseL, eraseL_eq r]
theorem flatL_eq : ∀ ks : List LT, flatL ks = ks.flatMap LT.flat
  | [] => rfl
  | k :: r => by simp [flatL, flatL_eq r]

theorem LT.ind {P : LT → Prop} (h : ∀ b n p k, (∀ x ∈ k, P x) → P (.mk b n p k)) : ∀ x, P x
  | .mk b n p k => h b n p k fun x hx => LT.ind h x
termination_by x => SizeOf.sizeOf x
decreasing_by
  have := List.sizeOf_lt_of_mem hx
  simp
  omega

/-- The nodes lie in memory, in blocks that 'ok' names. -/
inductive PN (w : World) (ok : Nat → Prop) : LT → Prop
  | mk {b : Nat} {name : ByteArray} {ps : List Pr} {ks : List LT} {vp : Value} {A : Option Addr} {c : Nat} (hb : ok b) (hn : name.size ≤ 140737488351232) (hcs : Cs w b #[.string name, vp, .slice A ks.length c]) (hp : PropsC w ok vp ps)
      (hl : ks.length * 64 ≤ 140737488351232) (hc : ks.length ≤ c) (hm : c ≤ maxLen) (hk : ∀ k, k ∈ ks → PN w ok k)
      (hr : ks = [] ∨ ∃ g o, A = some ⟨g, o, none⟩ ∧ ok g ∧ ∀ (i : Nat) (k : LT), ks[i]? = some k → w.cell? ⟨g, o + i, none⟩ = some (.pointer (some ⟨k.b, 0, none⟩))) : PN w ok (.mk b name ps ks)

theorem PN.mono {w w' : World} {ok ok' : Nat → Prop} (hs : Same ok w w') (ho : ∀ k, ok k → ok' k) {n : LT} (h : PN w ok n) : PN w' ok' n := by
  induction h with
  | mk hb hn hcs hp hl hc hm hk hr ih =>
    refine .mk (ho _ hb) hn (hcs.keep (hs _ hb)) (hp.mono hs ho) hl hc hm ih ?_
    rcases hr with hr | ⟨g, o, e, hg, hd⟩
    · exact .inl hr
    · exact .inr ⟨g, o, e, ho g hg, fun i k hi => (hs.cell hg).trans (hd i k hi)⟩

theorem PN.open_ {w : World} {ok : Nat → Prop} {b : Nat} {name : ByteArray} {ps : List Pr} {ks : List LT} (h : PN w ok (.mk b name ps ks)) :
    ∃ vp A c, ok b ∧ name.size ≤ 140737488351232 ∧ Cs w b #[.string name, vp, .slice A ks.length c] ∧ PropsC w ok vp ps ∧ ks.length * 64 ≤ 140737488351232 ∧ ks.length ≤ c ∧ c ≤ maxLen ∧ (∀ k, k ∈ ks → PN w ok k) ∧
      (ks = [] ∨ ∃ g o, A = some ⟨g, o, none⟩ ∧ ok g ∧ ∀ (i : Nat) (k : LT), ks[i]? = some k → w.cell? ⟨g, o + i, none⟩ = some (.pointer (some ⟨k.b, 0, none⟩))) := by
  cases h with
  | mk hb hn hcs hp hl hc hm hk hr => exact ⟨_, _, _, hb, hn, hcs, hp, hl, hc, hm, hk, hr⟩

/-- What came between two worlds. -/
def Rng (w w' : World) : Nat → Prop := fun x => w.heap.size ≤ x ∧ x < w'.heap.size

/-- What came from lo on, but for one row. -/
def OkR (lo : Nat) (w' : World) (g : Option Nat) : Nat → Prop := fun b => lo ≤ b ∧ b < w'.heap.size ∧ some b ≠ g

theorem app_frame {wr w1 w2 : World} {lo q j : Nat} {o1 o2 : Obj} {e : TypeId} {size n : Nat} {v v' u : Value} {xs : List Value} (hown : wr.ownsRow lo e size v n xs) (hq : q < lo) (hlo : lo ≤ wr.heap.size)
    (hb : Below (wr.alloc o1).drew.heap.size (wr.alloc o1).drew w1) (hgrow : (w1.alloc o2).grownBy w2 v.ownBlock) (hat : v'.ownBlock = v.ownBlock ∨ v'.ownBlock = some (w1.alloc o2).heap.size) :
    Same (OkR lo wr v.ownBlock) wr (w2.setCell ⟨q, j, none⟩ u) ∧ (∀ b, OkR lo wr v.ownBlock b → OkR lo (w2.setCell ⟨q, j, none⟩ u) v'.ownBlock b) ∧ Same (Rng (wr.alloc o1).drew w1) w1 (w2.setCell ⟨q, j, none⟩ u) ∧
      (∀ b, Rng (wr.alloc o1).drew w1 b → OkR lo (w2.setCell ⟨q, j, none⟩ u) v'.ownBlock b) ∧ (∀ b, b < lo → b ≠ q → (w2.setCell ⟨q, j, none⟩ u).heap[b]? = wr.heap[b]?) ∧ wr.heap.size ≤ w2.heap.size ∧ (∀ B, B ≤ q → Below B wr (w2.setCell ⟨q, j, none⟩ u)) := by
  have hW : (wr.alloc o1).drew.heap.size = wr.heap.size + 1 := by simp
  have s1 := hb.size
  have s2 := hgrow.size
  have s2' : (w1.alloc o2).heap.size = w1.heap.size + 1 := by simp
  have hne : ∀ b, b < lo → some b ≠ v.ownBlock := fun b hb => own_ne hown hb
  have hg0 : ∀ b, wr.heap.size ≤ b → some b ≠ v.ownBlock := fun b hb e => by
    have := (hown.lt b e.symm).2
    omega
  have hg1 : ∀ b, b < w1.heap.size → some b ≠ v.ownBlock → some b ≠ v'.ownBlock := fun b hb h1 e => by
    rcases hat with h2 | h2
    · exact h1 (e.trans h2)
    · rw [h2] at e
      injection e with e
      omega
  have key : ∀ b, b < wr.heap.size → b ≠ q → some b ≠ v.ownBlock → (w2.setCell ⟨q, j, none⟩ u).heap[b]? = wr.heap[b]? := fun b h1 h2 h4 => by
    rw [Below.heap_setCell _ _ _ _ h2, hgrow.block b (by omega) h4, Below.heap_alloc _ _ _ (by omega), hb.block b (by omega)]
    show (wr.alloc _).heap[b]? = _
    rw [Below.heap_alloc _ _ _ h1]
  refine ⟨fun b hb => key b hb.2.1 (by have := hb.1; omega) hb.2.2, fun b hb => ⟨hb.1, ?_, hg1 b (by have := hb.2.1; omega) hb.2.2⟩, fun b hb => ?_, fun b hb => ⟨by have := hb.1; omega, ?_, hg1 b hb.2 (hg0 b (by have := hb.1; omega))⟩, fun b h1 h2 => key b (by omega) h2 (hne b h1), by omega, fun B hB => ?_⟩
  · have := hb.2.1
    simp [World.setCell]
    omega
  · have h1 := hb.1
    have h2 := hb.2
    rw [Below.heap_setCell _ _ _ _ (by simp; omega), hgrow.block b (by omega) (hg0 b (by omega)), Below.heap_alloc _ _ _ (by omega)]
  · have := hb.2
    simp [World.setCell]
    omega
  · exact ⟨hgrow.os.trans hb.os, hgrow.tape.trans hb.tape, hgrow.output.trans hb.output, by simp [World.setCell]; omega, fun b h1 => key b (by omega) (by omega) (hne b (by omega))⟩

theorem info70 : (Try.prog.info? 70).map (fun i => (i.zero, i.size, i.bytes)) = some (some (.agg #[.string ⟨#[]⟩, .slice none 0 0]), 2, 40) := by kernel_rfl
theorem info87 : (Try.prog.info? 87).map (fun i => (i.zero, i.size, i.bytes)) = some (some (.pointer none), 1, 8) := by kernel_rfl
theorem info9 : (Try.prog.info? 9).map (fun i => (i.zero, i.size, i.bytes)) = some (some (.string ⟨#[]⟩), 1, 16) := by kernel_rfl
theorem el127 : Elem Try.prog 127 70 2 40 := by
  obtain ⟨i, hi, hz0, hz1, hz2⟩ := info_parts info70
  exact ⟨Try.underlying127, i, _, hi, hz0, hz1, hz2, rfl, by omega⟩
theorem el128 : Elem Try.prog 128 87 1 8 := by
  obtain ⟨i, hi, hz0, hz1, hz2⟩ := info_parts info87
  exact ⟨Try.underlying128, i, _, hi, hz0, hz1, hz2, rfl, by omega⟩
theorem el51 : Elem Try.prog 51 9 1 16 := by
  obtain ⟨i, hi, hz0, hz1, hz2⟩ := info_parts info9
  exact ⟨Try.underlying51, i, _, hi, hz0, hz1, hz2, rfl, by omega⟩

theorem own_form {w : World} {base n c : Nat} {e : TypeId} {size : Nat} {A : Option Addr} {xs : List Value} (h : w.ownsRow base e size (.slice A n c) n xs) : n ≤ c ∧ c ≤ maxLen ∧ (n = 0 ∨ ∃ g, A = some ⟨g, 0, none⟩) := by
  rcases h.2 with ⟨h1, h2⟩ | ⟨g, cap, cur, h1, h2⟩
  · injection h1 with _ _ h1
    exact ⟨by omega, by omega, .inl h2⟩
  · injection h1 with h0 _ h1
    exact ⟨by omega, by omega, .inr ⟨g, h0⟩⟩

theorem valC_of_own {w : World} {base c : Nat} {ok : Nat → Prop} {A : Option Addr} {l : List UInt8} (h : w.ownsRow base 5 1 (.slice A l.length c) l.length (l.map bv)) (hl : l.length ≤ 140737488351232) (hg : ∀ g, (Value.slice A l.length c).ownBlock = some g → ok g) : ValC w ok (.slice A l.length c) l := by
  obtain ⟨h1, h2, h3⟩ := own_form h
  refine ⟨A, c, rfl, hl, h1, h2, ?_⟩
  rcases h3 with h3 | ⟨g, rfl⟩
  · exact .inl (by rw [List.length_eq_zero_iff.1 h3]; rfl)
  · refine .inr ⟨g, 0, rfl, hg g rfl, fun j u hj => ?_⟩
    have hjl := (List.getElem?_eq_some_iff.1 hj).1
    rw [Nat.zero_add, h.cellAt j (by simpa using hjl)]
    exact hj

/-- propsC_of_own, at the type of the package's properties. -/
theorem props_of_own70 {w : World} {base k c : Nat} {e : TypeId} {ok ok' : Nat → Prop} {A : Option Addr} {ps : List Pr} {ts : List (Value × Value)} (h : w.ownsRow base e 2 (.slice A k c) k (ts.flatMap duo)) (hE : Each (PrC w ok) ps ts) (hk : ps.length = k)
    (hl : ps.length * 40 ≤ 140737488351232) (ho : ∀ b, ok b → ok' b) (hg : ∀ g, (Value.slice A k c).ownBlock = some g → ok' g) : PropsC w ok' (.slice A k c) ps := by
  subst hk
  obtain ⟨h1, h2, h3⟩ := own_form h
  refine ⟨A, c, ts, rfl, hl, h1, h2, hE.imp fun _ _ h => h.mono (Same.refl ok w) ho, ?_⟩
  rcases h3 with h3 | ⟨g, rfl⟩
  · exact .inl (List.length_eq_zero_iff.1 h3)
  · exact .inr ⟨g, 0, rfl, hg g rfl, own_duo h⟩
end Go.Proofs.Ytlbhadggfipckaa
