/-
  spec.padded; what spec's writer leaves as it was.
-/
import Derived.Test.YtlbhadggfipckaaLa
import Derived.Test.YtlbhadggfipckaaIa
set_option linter.unusedVariables false
set_option linter.unusedSimpArgs false
namespace Go.Proofs.Ytlbhadggfipckaa
open Go.RowKit

theorem grown_below {w w1 w2 : World} {r : Option Nat} (h : Below w.heap.size w w1) (g : w1.grownBy w2 r) : w.grownBy w2 r :=
  ⟨g.os.trans h.os, g.tape.trans h.tape, g.output.trans h.output, Nat.le_trans h.size g.size, fun k hk hr => (g.block k (Nat.lt_of_lt_of_le hk h.size) hr).trans (h.block k hk)⟩

theorem grown_then {w w1 w2 : World} {r : Option Nat} (g : w.grownBy w1 r) (h : Below w1.heap.size w1 w2) : w.grownBy w2 r :=
  ⟨h.os.trans g.os, h.tape.trans g.tape, h.output.trans g.output, Nat.le_trans g.size h.size, fun k hk hr => (h.block k (Nat.lt_of_lt_of_le hk g.size)).trans (g.block k hk hr)⟩

/-- The row is the old one, or one that came behind w. -/
def NewRow (w : World) (v v' : Value) : Prop := v'.ownBlock = v.ownBlock ∨ ∀ g, v'.ownBlock = some g → w.heap.size ≤ g

theorem NewRow.refl (w : World) (v : Value) : NewRow w v v := .inl rfl
theorem NewRow.trans {w w1 : World} {v v1 v2 : Value} (h : NewRow w v v1) (k : NewRow w1 v1 v2) (hs : w.heap.size ≤ w1.heap.size) : NewRow w v v2 := by
  rcases k with k | k
  · rcases h with h | h
    · exact .inl (k.trans h)
    · exact .inr fun g hg => h g (k.symm.trans hg)
  · exact .inr fun g hg => Nat.le_trans hs (k g hg)
theorem NewRow.of_at {w w1 : World} {v v' : Value} (h : v'.ownBlock = v.ownBlock ∨ v'.ownBlock = some w1.heap.size) (hs : w.heap.size ≤ w1.heap.size) : NewRow w v v' := by
  rcases h with h | h
  · exact .inl h
  · refine .inr fun g hg => ?_
    rw [h] at hg
    injection hg with hg
    omega

theorem grown_trans {w w1 w2 : World} {v v1 : Value} (h : w.grownBy w1 v.ownBlock) (k : w1.grownBy w2 v1.ownBlock) (hv : NewRow w v v1) : w.grownBy w2 v.ownBlock :=
  ⟨k.os.trans h.os, k.tape.trans h.tape, k.output.trans h.output, Nat.le_trans h.size k.size, fun x hx hr => (k.block x (Nat.lt_of_lt_of_le hx h.size) (fun e => by
    rcases hv with hv | hv
    · exact hr (e.trans hv)
    · have := hv x e.symm
      omega)).trans (h.block x hx hr)⟩

def slen : Value → Nat
  | .slice _ n _ => n
  | _ => 0

theorem zeros_succ (k : Nat) : zeros (k + 1) = zeros k ++ [0] := by unfold zeros; rw [List.replicate_succ']

theorem pad4_zeros (l : List UInt8) : pad4 l = l ++ zeros ((4 - l.length % 4) % 4) := by
  unfold pad4 pad
  split
  · rename_i h; rw [h]; simp [zeros]
  · rename_i h
    have : (4 - l.length % 4) % 4 = 4 - l.length % 4 := by omega
    rw [this]

def PadPost (w : World) (lo : Nat) (v : Value) (l : List UInt8) (e : Ending) (w' : World) : Prop :=
  ∃ A' c', e = .returned (.slice A' l.length c') ∧ w'.ownsRow lo 5 1 (.slice A' l.length c') l.length (l.map bv) ∧ w.grownBy w' v.ownBlock ∧ NewRow w v (.slice A' l.length c')

theorem padded_walk (w : World) (lo : Nat) (A : Option Addr) (c : Nat) (l : List UInt8) (hown : w.ownsRow lo 5 1 (.slice A l.length c) l.length (l.map bv)) (hlo : lo ≤ w.heap.size) (hl : l.length ≤ 10000000) :
    Calls Try.prog 64 #[.slice A l.length c] w (PadPost w lo (.slice A l.length c) (pad4 l)) := by
  have hm : (4 - l.length % 4) % 4 ≤ 3 := by omega
  have hmm : (l.length + (4 - l.length % 4) % 4) % 4 = 0 := by omega
  have hmin : ∀ k, k < (4 - l.length % 4) % 4 → (l.length + k) % 4 ≠ 0 := fun k hk => by omega
  have hp := pad4_zeros l
  have Hown := Lib.hid hown
  have Hp := Lib.hid hp
  clear hp hown
  generalize (4 - l.length % 4) % 4 = m at *
  go_enter Try.func64, Try.ntmps64
  go_wp2_with fail
  go_loopw [0] (fun x wr => ∃ k : Nat, k ≤ m ∧ ∃ A' c', x = .slice A' (l.length + k) c' ∧ wr.ownsRow lo 5 1 (.slice A' (l.length + k) c') (l.length + k) ((l ++ zeros k).map bv) ∧ w.grownBy wr (Value.slice A l.length c).ownBlock ∧ NewRow w (.slice A l.length c) (.slice A' (l.length + k) c')) (fun x _ => l.length + m - slen x)
  case atStart => exact ⟨0, by omega, A, c, rfl, by simpa [zeros] using Hown.out, ⟨rfl, rfl, rfl, Nat.le_refl _, fun _ _ _ => rfl⟩, .inl rfl⟩
  case round =>
    obtain ⟨k, hk, A', c', rfl, hw, hg, hat⟩ := hrel
    have hrem : (((l.length + k : Nat) : Int)).tmod 4 = (((l.length + k) % 4 : Nat) : Int) := by
      rw [Int.tmod_eq_emod_of_nonneg (by omega)]; simp
    have hcast : (l.length : Int) + (k : Int) = ((l.length + k : Nat) : Int) := by simp
    obtain ⟨n, hn⟩ : ∃ n, n = l.length + k := ⟨_, rfl⟩
    have Hn := Lib.hid hn
    rw [← hn] at hw hat hrem hcast
    have hlw := hg.size
    by_cases hlt : k < m
    · have hne : (((n % 4 : Nat) : Int) != 0) = true := by have := hmin k hlt; rw [← hn] at this; simp; omega
      have Hw := Lib.hid hw
      have Hg := Lib.hid hg
      have Hat := Lib.hid hat
      clear hw hg hat
      rw [← hn]
      clear hn
      go_wp2_with (at_builtin; go_must (refine wpList_append_el el24 rfl (.tmp 7) (.tmp 8) rfl lo (.slice A' n c') n ((l ++ zeros k).map bv) rfl (Hw.out.alloc _) (some ⟨wr.heap.size, 0, none⟩) 1 1 [.int .u8 0] rfl (by simp) ((Cs.new _ _ _).rd rfl) (by simp [Value.oneCell']) (by have := Hn.out; omega) (by have := Hn.out; omega) (by simp; omega) ?_); intro v' w1 hown1 hgrow hnil hat2; obtain ⟨A2, c2, rfl⟩ := own_slice hown1; clear hnil)
      have hb : Below wr.heap.size wr (wr.alloc (.cells #[.int .u8 0] 5)) := (Below.refl _ _).alloc (Nat.le_refl _) _
      have e1 := Hn.out
      subst e1
      refine ⟨⟨k + 1, by omega, A2, c2, rfl, ?_, ?_, ?_⟩, by simp [slen]; omega⟩
      · rw [zeros_succ, ← List.append_assoc, List.map_append]
        exact hown1
      · exact grown_trans Hg.out (grown_below hb hgrow) Hat.out
      · exact Hat.out.trans (NewRow.of_at hat2 (by simp)) hlw
    · obtain rfl : k = m := by omega
      have hne : (((n % 4 : Nat) : Int) != 0) = false := by rw [← hn] at hmm; simp; omega
      have HF := Lib.hid (show PadPost w lo (.slice A l.length c) (pad4 l) (.returned (.slice A' n c')) wr from ⟨A', c', by rw [Hp.out, List.length_append, zeros_len, hn], by rw [Hp.out, List.length_append, zeros_len, ← hn]; exact hw, hg, by rw [Hp.out, List.length_append, zeros_len, ← hn]; exact hat⟩)
      clear hw hg hat
      rw [← hn]
      clear hn
      go_wp2_with fail
      go_ret
      exact HF.out

/-- spec's writer at block p: the structure st, the strings ss. -/
structure SW (w : World) (p lo : Nat) (st ss : List UInt8) (nop : Nat) (A : Option Addr) (c : Nat) (B : Option Addr) (d : Nat) : Prop where
  cs : Cs w p #[.slice A st.length c, .slice B ss.length d, .int .i64 nop]
  o1 : w.ownsRow lo 5 1 (.slice A st.length c) st.length (st.map bv)
  o2 : w.ownsRow lo 5 1 (.slice B ss.length d) ss.length (ss.map bv)
  ne : ∀ g, (Value.slice A st.length c).ownBlock = some g → (Value.slice B ss.length d).ownBlock ≠ some g
  lp : p < lo
  lw : lo ≤ w.heap.size

def SWx (w : World) (p lo : Nat) (st ss : List UInt8) (nop : Nat) : Prop := ∃ A c B d, SW w p lo st ss nop A c B d

/-- Block k holds one of the writer's rows. -/
def Rw2 (w : World) (p k : Nat) : Prop := ∃ i a n c, w.cell? ⟨p, i, none⟩ = some (.slice (some a) n c) ∧ a.block = k

def Ou (w : World) (p k : Nat) : Prop := k < w.heap.size ∧ k ≠ p ∧ ¬ Rw2 w p k

/-- What is no part of the writer stays, and does not become a part. -/
structure Kw (p lo : Nat) (w w' : World) : Prop where
  fr : Fr lo (· = p) w w'
  kp : ∀ k, Ou w p k → w'.heap[k]? = w.heap[k]? ∧ Ou w' p k

theorem Kw.refl (p lo : Nat) (w : World) : Kw p lo w w := ⟨Fr.refl _ _ _, fun k h => ⟨rfl, h⟩⟩
theorem Kw.trans {p lo : Nat} {a b c : World} (h : Kw p lo a b) (k : Kw p lo b c) : Kw p lo a c := ⟨h.fr.trans k.fr, fun x hx => ⟨(k.kp x (h.kp x hx).2).1.trans (h.kp x hx).1, (k.kp x (h.kp x hx).2).2⟩⟩
theorem Kw.below {p lo : Nat} {w w' : World} (h : Below w.heap.size w w') (hp : p < w.heap.size) (hl : lo ≤ w.heap.size) : Kw p lo w w' :=
  ⟨Fr.of_below (h.mono hl), fun k hk => ⟨h.block k hk.1, Nat.lt_of_lt_of_le hk.1 h.size, hk.2.1, fun ⟨i, a, n, c, e, hb⟩ => hk.2.2 ⟨i, a, n, c, (World.cell?_of_block (a := ⟨p, i, none⟩) (h.block p hp)).symm.trans e, hb⟩⟩⟩

theorem SW.plt {w : World} {p lo : Nat} {st ss : List UInt8} {nop : Nat} {A : Option Addr} {c : Nat} {B : Option Addr} {d : Nat} (h : SW w p lo st ss nop A c B d) : p < w.heap.size := h.cs.lt

theorem SW.below {w w' : World} {p lo : Nat} {st ss : List UInt8} {nop : Nat} {A : Option Addr} {c : Nat} {B : Option Addr} {d : Nat} (h : SW w p lo st ss nop A c B d) (hb : Below w.heap.size w w') : SW w' p lo st ss nop A c B d :=
  ⟨h.cs.below hb h.plt, own_keep h.o1 (fun g hg => hb.block g (h.o1.lt g hg).2), own_keep h.o2 (fun g hg => hb.block g (h.o2.lt g hg).2), h.ne, h.lp, Nat.le_trans h.lw hb.size⟩

theorem SW.rw2 {w : World} {p lo : Nat} {st ss : List UInt8} {nop : Nat} {A : Option Addr} {c : Nat} {B : Option Addr} {d : Nat} (h : SW w p lo st ss nop A c B d) {k : Nat} :
    Rw2 w p k ↔ (Value.slice A st.length c).ownBlock = some k ∨ (Value.slice B ss.length d).ownBlock = some k := by
  constructor
  · rintro ⟨i, a, n, c', e, hb⟩
    rw [h.cs.cell i] at e
    match i, e with
    | 0, e => simp at e; obtain ⟨rfl, -⟩ := e; exact .inl (by simp [Value.ownBlock, hb])
    | 1, e => simp at e; obtain ⟨rfl, -⟩ := e; exact .inr (by simp [Value.ownBlock, hb])
    | 2, e => simp at e
    | i + 3, e => simp at e
  · rintro (e | e)
    · rcases A with _ | a
      · simp [Value.ownBlock] at e
      · exact ⟨0, a, _, _, (h.cs.cell 0).trans rfl, by simpa [Value.ownBlock] using e⟩
    · rcases B with _ | a
      · simp [Value.ownBlock] at e
      · exact ⟨1, a, _, _, (h.cs.cell 1).trans rfl, by simpa [Value.ownBlock] using e⟩

theorem sw_put0 {w w2 : World} {p lo : Nat} {st ss l : List UInt8} {nop : Nat} {A : Option Addr} {c : Nat} {B : Option Addr} {d : Nat} {A' : Option Addr} {c' : Nat} (h : SW w p lo st ss nop A c B d)
    (hg : w.grownBy w2 (Value.slice A st.length c).ownBlock) (hown : w2.ownsRow lo 5 1 (.slice A' l.length c') l.length (l.map bv)) (hat : NewRow w (.slice A st.length c) (.slice A' l.length c')) :
    SW (w2.setCell ⟨p, 0, none⟩ (.slice A' l.length c')) p lo l ss nop A' c' B d ∧ Kw p lo w (w2.setCell ⟨p, 0, none⟩ (.slice A' l.length c')) := by
  have hp := h.lp
  have hs := hg.size
  have hpl := h.plt
  have hpr : some p ≠ (Value.slice A st.length c).ownBlock := own_ne h.o1 hp
  have hne' : ∀ g, (Value.slice A' l.length c').ownBlock = some g → (Value.slice B ss.length d).ownBlock ≠ some g := fun g hg e => by
    rcases hat with h2 | h2
    · exact h.ne g (h2.symm.trans hg) e
    · have := (h.o2.lt g e).2
      have := h2 g hg
      omega
  have hblk : ∀ k, k < w.heap.size → k ≠ p → some k ≠ (Value.slice A st.length c).ownBlock → (w2.setCell ⟨p, 0, none⟩ (.slice A' l.length c')).heap[k]? = w.heap[k]? := fun k h1 h2 h3 => by
    rw [Below.heap_setCell _ _ _ _ h2, hg.block k h1 h3]
  have hsw : SW (w2.setCell ⟨p, 0, none⟩ (.slice A' l.length c')) p lo l ss nop A' c' B d := by
    refine ⟨?_, ownsRow_setCell_below (a := ⟨p, 0, none⟩) hown hp _, own_keep h.o2 (fun g hg' => hblk g (h.o2.lt g hg').2 (by have := (h.o2.lt g hg').1; omega) (fun e => h.ne g e.symm hg')), hne', hp, by have := h.lw; simp [World.setCell]; omega⟩
    have := (h.cs.grown hg hpr).set_ 0 (.slice A' l.length c')
    simpa using this
  refine ⟨hsw, ⟨(Fr.grown (Fr.refl lo (· = p) w) hg h.lw (fun k hk => .inl (h.o1.lt k hk).1)).setCell (p := ⟨p, 0, none⟩) (.inr rfl) _, fun k hk => ?_⟩⟩
  obtain ⟨h1, h2, h3⟩ := hk
  rw [h.rw2] at h3
  have h4 : some k ≠ (Value.slice A st.length c).ownBlock := fun e => h3 (.inl e.symm)
  refine ⟨hblk k h1 h2 h4, by simp [World.setCell]; omega, h2, fun hr => ?_⟩
  rcases hsw.rw2.1 hr with e | e
  · rcases hat with h5 | h5
    · exact h4 (e.symm.trans h5)
    · have := h5 k e
      omega
  · exact h3 (.inr e)

theorem sw_put1 {w w2 : World} {p lo : Nat} {st ss l : List UInt8} {nop : Nat} {A : Option Addr} {c : Nat} {B : Option Addr} {d : Nat} {A' : Option Addr} {c' : Nat} (h : SW w p lo st ss nop A c B d)
    (hg : w.grownBy w2 (Value.slice B ss.length d).ownBlock) (hown : w2.ownsRow lo 5 1 (.slice A' l.length c') l.length (l.map bv)) (hat : NewRow w (.slice B ss.length d) (.slice A' l.length c')) :
    SW (w2.setCell ⟨p, 1, none⟩ (.slice A' l.length c')) p lo st l nop A c A' c' ∧ Kw p lo w (w2.setCell ⟨p, 1, none⟩ (.slice A' l.length c')) := by
  have hp := h.lp
  have hs := hg.size
  have hpl := h.plt
  have hpr : some p ≠ (Value.slice B ss.length d).ownBlock := own_ne h.o2 hp
  have hne' : ∀ g, (Value.slice A st.length c).ownBlock = some g → (Value.slice A' l.length c').ownBlock ≠ some g := fun g hg e => by
    rcases hat with h2 | h2
    · exact h.ne g hg (h2.symm.trans e)
    · have := (h.o1.lt g hg).2
      have := h2 g e
      omega
  have hblk : ∀ k, k < w.heap.size → k ≠ p → some k ≠ (Value.slice B ss.length d).ownBlock → (w2.setCell ⟨p, 1, none⟩ (.slice A' l.length c')).heap[k]? = w.heap[k]? := fun k h1 h2 h3 => by
    rw [Below.heap_setCell _ _ _ _ h2, hg.block k h1 h3]
  have hsw : SW (w2.setCell ⟨p, 1, none⟩ (.slice A' l.length c')) p lo st l nop A c A' c' := by
    refine ⟨?_, own_keep h.o1 (fun g hg' => hblk g (h.o1.lt g hg').2 (by have := (h.o1.lt g hg').1; omega) (fun e => h.ne g hg' e.symm)), ownsRow_setCell_below (a := ⟨p, 1, none⟩) hown hp _, hne', hp, by have := h.lw; simp [World.setCell]; omega⟩
    have := (h.cs.grown hg hpr).set_ 1 (.slice A' l.length c')
    simpa using this
  refine ⟨hsw, ⟨(Fr.grown (Fr.refl lo (· = p) w) hg h.lw (fun k hk => .inl (h.o2.lt k hk).1)).setCell (p := ⟨p, 1, none⟩) (.inr rfl) _, fun k hk => ?_⟩⟩
  obtain ⟨h1, h2, h3⟩ := hk
  rw [h.rw2] at h3
  have h4 : some k ≠ (Value.slice B ss.length d).ownBlock := fun e => h3 (.inr e.symm)
  refine ⟨hblk k h1 h2 h4, by simp [World.setCell]; omega, h2, fun hr => ?_⟩
  rcases hsw.rw2.1 hr with e | e
  · exact h3 (.inl e)
  · rcases hat with h5 | h5
    · exact h4 (e.symm.trans h5)
    · have := h5 k e
      omega
end Go.Proofs.Ytlbhadggfipckaa
