/-
  spec's writer: a node.
-/
import Derived.Test.YtlbhadggfipckaaMa18
import Derived.Deep.DeepCutAuto
set_option linter.unusedVariables false
set_option linter.unusedSimpArgs false
namespace Go.Proofs.Ytlbhadggfipckaa
open Go.RowKit

theorem pad4_app {a b : List UInt8} (h : a.length % 4 = 0) : pad4 (a ++ b) = a ++ pad4 b := by
  unfold pad4 pad
  rw [List.length_append, show (a.length + b.length) % 4 = b.length % 4 by omega, List.append_assoc]

theorem pad4_mod (b : List UInt8) : (pad4 b).length % 4 = 0 := by
  rw [pad4_zeros, List.length_append, zeros_len]
  omega

theorem tok_len (nop : Nat) (n : Int) : (tok nop n).length = 4 * nop + 4 := by
  have h1 : (List.replicate nop (be4 4)).flatten.length = 4 * nop := nops_len nop
  have h2 : (be4 n).length = 4 := rfl
  unfold tok
  rw [List.length_append, h1, h2]

theorem pad4_le (b : List UInt8) : (pad4 b).length ≤ b.length + 3 := by
  rw [pad4_zeros, List.length_append, zeros_len]
  omega

/-- A new block is no part of the writer. -/
theorem SW.ou_new {w w' : World} {p lo : Nat} {st ss : List UInt8} {nop : Nat} {A : Option Addr} {c : Nat} {B : Option Addr} {d : Nat} (h : SW w p lo st ss nop A c B d) (hb : Below w.heap.size w w') {k : Nat} (h1 : w.heap.size ≤ k) (h2 : k < w'.heap.size) : Ou w' p k := by
  have h' := h.below hb
  refine ⟨h2, by have := h.plt; omega, fun hr => ?_⟩
  rcases h'.rw2.1 hr with e | e
  · have := (h.o1.lt k e).2; omega
  · have := (h.o2.lt k e).2; omega

theorem SW.ou_ne {w : World} {p lo : Nat} {st ss : List UInt8} {nop : Nat} {A : Option Addr} {c : Nat} {B : Option Addr} {d : Nat} (h : SW w p lo st ss nop A c B d) {k : Nat} (ho : Ou w p k) : some k ≠ (Value.slice A st.length c).ownBlock ∧ some k ≠ (Value.slice B ss.length d).ownBlock :=
  ⟨fun e => ho.2.2 (h.rw2.2 (.inl e.symm)), fun e => ho.2.2 (h.rw2.2 (.inr e.symm))⟩


def budP : List Pr → Nat
  | [] => 0
  | p :: r => 32 + p.val.length + p.name.size + budP r

mutual
def Nd.bud : Nd → Nat
  | .mk n ps ks => 40 + n.size + budP ps + budL ks
def budL : List Nd → Nat
  | [] => 0
  | k :: r => k.bud + budL r
end

mutual
def Nd.tm : Nd → Prop
  | .mk n ps ks => n.size ≤ 100 ∧ (∀ p ∈ ps, p.name.size ≤ 100) ∧ tmL ks
def tmL : List Nd → Prop
  | [] => True
  | k :: r => k.tm ∧ tmL r
end

theorem tmL_mem : ∀ {ks : List Nd}, tmL ks → ∀ k ∈ ks, k.tm
  | [], _, k, hk => by simp at hk
  | x :: r, h, k, hk => by
    simp only [tmL] at h
    rcases List.mem_cons.1 hk with rfl | hk
    · exact h.1
    · exact tmL_mem h.2 k hk

theorem budP_append : ∀ (a b : List Pr), budP (a ++ b) = budP a + budP b
  | [], b => by simp [budP]
  | p :: a, b => by simp [budP, budP_append a b]; omega
theorem budL_append : ∀ (a b : List Nd), budL (a ++ b) = budL a + budL b
  | [], b => by simp [budL]
  | p :: a, b => by simp [budL, budL_append a b]; omega
theorem budP_take (ps : List Pr) (k : Nat) (h : k < ps.length) : budP (ps.take (k + 1)) = budP (ps.take k) + (32 + ps[k].val.length + ps[k].name.size) ∧ budP (ps.take (k + 1)) ≤ budP ps := by
  have e1 : ps.take (k + 1) = ps.take k ++ [ps[k]] := by rw [List.take_succ_eq_append_getElem h]
  have e2 : budP ps = budP (ps.take (k + 1)) + budP (ps.drop (k + 1)) := by rw [← budP_append, List.take_append_drop]
  refine ⟨?_, by omega⟩
  rw [e1, budP_append]
  simp [budP]
theorem budL_take (ks : List Nd) (k : Nat) (h : k < ks.length) : budL (ks.take (k + 1)) = budL (ks.take k) + ks[k].bud ∧ budL (ks.take (k + 1)) ≤ budL ks := by
  have e1 : ks.take (k + 1) = ks.take k ++ [ks[k]] := by rw [List.take_succ_eq_append_getElem h]
  have e2 : budL ks = budL (ks.take (k + 1)) + budL (ks.drop (k + 1)) := by rw [← budL_append, List.take_append_drop]
  refine ⟨?_, by omega⟩
  rw [e1, budL_append]
  simp [budL]

/-- The loop over the properties. -/
def SPInv (w : World) (p lo : Nat) (st1 ss : List UInt8) (nop : Nat) (ps : List Pr) (k : Nat) (wr : World) : Prop :=
  ∃ out more, EncP (ss ++ more) nop (ps.take k) out ∧ SWx wr p lo (st1 ++ out) (ss ++ more) nop ∧ Kw p lo w wr ∧ out.length + more.length ≤ budP (ps.take k) ∧ out.length % 4 = 0

/-- The loop over the nodes within. -/
def SKInv (w : World) (p lo : Nat) (st1 ss : List UInt8) (nop : Nat) (ks : List Nd) (k : Nat) (wr : World) : Prop :=
  ∃ out more, EncL (ss ++ more) nop (ks.take k) out ∧ SWx wr p lo (st1 ++ out) (ss ++ more) nop ∧ Kw p lo w wr ∧ out.length + more.length ≤ budL (ks.take k) ∧ out.length % 4 = 0

def SnP (w : World) (p lo : Nat) (st ss : List UInt8) (nop : Nat) (n : Nd) (e : Ending) (w' : World) : Prop :=
  e = .returned (.tuple #[]) ∧ ∃ out more, EncN (ss ++ more) nop n out ∧ SWx w' p lo (st ++ out) (ss ++ more) nop ∧ Kw p lo w w' ∧ out.length + more.length ≤ n.bud ∧ out.length % 4 = 0

set_option maxRecDepth 20000 in
set_option maxHeartbeats 8000000 in
theorem snode_walk (p lo nop : Nat) (hnop : nop ≤ 3) (n : Nd) : ∀ (w : World) (ok : Nat → Prop) (st ss : List UInt8) (t : Value × Value × Value), SWx w p lo st ss nop → NodeC w ok n t → (∀ k, ok k → Ou w p k) → n.tm → st.length % 4 = 0 → st.length + ss.length + n.bud ≤ 900000 →
    Calls Try.prog 47 #[.pointer (some ⟨p, 0, none⟩), .agg #[t.1, t.2.1, t.2.2]] w (SnP w p lo st ss nop n) := by
  refine Nd.ind (P := fun n => ∀ (w : World) (ok : Nat → Prop) (st ss : List UInt8) (t : Value × Value × Value), SWx w p lo st ss nop → NodeC w ok n t → (∀ k, ok k → Ou w p k) → n.tm → st.length % 4 = 0 → st.length + ss.length + n.bud ≤ 900000 →
    Calls Try.prog 47 #[.pointer (some ⟨p, 0, none⟩), .agg #[t.1, t.2.1, t.2.2]] w (SnP w p lo st ss nop n)) ?_ n
  intro name ps ks IH w ok st ss t h hn hok htm h4 hbud
  obtain ⟨vp, vk, rfl, hns, hps, hks⟩ := hn.open_
  obtain ⟨Ap, cp, ts, rfl, hp1, hp2, hp3, hp4, hp5⟩ := hps
  obtain ⟨Ak, ck, us, rfl, hk1, hk2, hk3, hk4, hk5⟩ := hks
  simp only [Nd.tm] at htm
  simp only [Nd.bud] at hbud
  obtain ⟨tm1, tm2, tm3⟩ := htm
  have Hp4 := Lib.hid hp4
  have Hp5 := Lib.hid hp5
  have Hk4 := Lib.hid hk4
  have Hk5 := Lib.hid hk5
  have Htm := Lib.hid (And.intro tm2 (tmL_mem tm3))
  have Hok := Lib.hid hok
  have IH := Lib.hid IH
  clear hp4 hp5 hk4 hk5 tm2 tm3 hok hn
  obtain ⟨A, c, B, d, h⟩ := h
  have hb0 : Below w.heap.size w (w.alloc (.cells #[.string name, .slice Ap ps.length cp, .slice Ak ks.length ck] 46)) := (Below.refl _ _).alloc (Nat.le_refl _) _
  have hou := h.ou_new hb0 (k := w.heap.size) (Nat.le_refl _) (by simp)
  have HT := Lib.hid (stoken_walk _ p lo st ss nop ⟨A, c, B, d, h.below hb0⟩ 1 (by omega) hnop (by omega))
  have Hq0 := Lib.hid (Cs.new w 46 #[.string name, .slice Ap ps.length cp, .slice Ak ks.length ck])
  have Hou := Lib.hid hou
  have HK0 := Lib.hid (Kw.below hb0 h.plt h.lw)
  clear h hb0 hou
  go_enter Try.func47, Try.ntmps47
  go_wp2_with fail
  refine HT.out.mono ?_
  rintro e w1 ⟨rfl, ⟨A1, c1, B1, d1, hq⟩, hk⟩
  obtain ⟨s1, hs1⟩ : ∃ s1, s1 = st ++ tok nop (1 : Nat) := ⟨_, rfl⟩
  rw [← hs1] at hq
  have hs1l : s1.length = st.length + 4 * nop + 4 := by rw [hs1, List.length_append, tok_len]; omega
  have hs1m : s1.length % 4 = 0 ∧ s1.length + ss.length + (24 + name.size + budP ps + budL ks) ≤ 900000 := by omega
  clear hs1l
  have hou1 := hk.kp _ Hou.out
  have hq0 := Hq0.out.keep hou1.1
  have x0 : w1.cell? ⟨p, 0, none⟩ = some (.slice A1 s1.length c1) := (hq.cs.cell 0).trans rfl
  have y0 : w1.cell? ⟨w.heap.size, 0, none⟩ = some (.string name) := (hq0.cell 0).trans rfl
  have hpl : p < w1.heap.size := hq.plt
  have hpr : some p ≠ (Value.slice A1 s1.length c1).ownBlock := own_ne hq.o1 hq.lp
  have hql : w.heap.size < w1.heap.size := hou1.2.1
  have hqr := (hq.ou_ne hou1.2).1
  obtain ⟨l, hl'⟩ : ∃ l, l = s1 ++ (bytesOf name ++ [0]) := ⟨_, rfl⟩
  have hll : l.length = s1.length + name.size + 1 := by rw [hl']; simp [bytesOf]; omega
  have hlv : s1.map bv ++ (bytesOf name).map bv ++ [.int .u8 0] = l.map bv := by rw [hl']; simp [bv]
  have HL := Lib.hid (show pad4 l = s1 ++ pad4 (bytesOf name ++ [0]) by rw [hl', pad4_app hs1m.1])
  have Hs1 := Lib.hid hs1
  have Hq := Lib.hid hq
  have Hk := Lib.hid (And.intro hk (And.intro hou1.2 hq0))
  clear hs1 hq hk hou1 hq0 hl' HT
  go_wp2_with fail
  go_cut [] from 8 (fun w' => ∃ A4 c4, SW w' p lo (pad4 l) ss nop A4 c4 B1 d1 ∧ Kw p lo w1 w')
  case first =>
    refine wp_region_plan (fun w' => w'.cell? ⟨p, 0, none⟩ = some (.slice A1 s1.length c1) ∧ w'.cell? ⟨w.heap.size, 0, none⟩ = some (.string name)) 13 (.quiet 0 (.quiet 1 (.quiet 2 (.quiet 3 (.quiet 4 (.quiet 5 (.quiet 6 (.fork 7 8 (.eff 8 (.eff 9 (.eff 10 (.quiet 11 (.quiet 12 (.eff 13 .done)))))) (.eff 7 (.eff 9 (.eff 10 (.quiet 11 (.quiet 12 (.eff 13 .done)))))))))))))) (by kernel_rfl) (by kernel_rfl) ⟨x0, y0⟩ ?_
    simp only [planO, opAt, List.getElem?_toArray, List.getElem?_cons_zero, List.getElem?_cons_succ, Option.getD_some, Nat.reduceBEq]
    iterate 7
      refine' SeqT.quiet (by rfl) ?_ ?_
      rotate_left
      · rintro w' ⟨hS1, hS2⟩
        go_simp
        try with_reducible rfl
      try simp only [Act.put, List.setIfInBounds_toArray, List.set_cons_zero, List.set_cons_succ]
    refine SeqT.fork (by rfl) (by rfl) ?_ ?_
    · intro K hK
      refine wp_append_str (.tmp 14) (.tmp 16) rfl lo (.slice A1 s1.length c1) s1.length (s1.map bv) rfl Hq.out.o1.drew name rfl (by omega) Hq.out.lw ?_
      intro v' w2 hown2 hgrow2 hat2
      obtain ⟨A2, c2, rfl⟩ := own_slice hown2
      have g2 : w1.grownBy w2 (Value.slice A1 s1.length c1).ownBlock := grown_below (Below.refl w1.heap.size w1).drew hgrow2
      have nr2 : NewRow w1 (.slice A1 s1.length c1) (.slice A2 (s1.length + name.size) c2) := NewRow.of_at hat2 (Nat.le_refl _)
      have z2 := g2.size
      refine hK.out _ _ ⟨(World.cell?_of_block (a := ⟨p, 0, none⟩) (g2.block p hpl hpr)).trans x0, (World.cell?_of_block (a := ⟨w.heap.size, 0, none⟩) (g2.block _ hql hqr)).trans y0⟩ ?_
      clear hK K
      try simp only [Act.put, List.setIfInBounds_toArray, List.set_cons_zero, List.set_cons_succ]
      refine SeqT.eff ?_ ?_
      · rfl
      intro K hK
      go_simp
      have b3 : Below w2.heap.size w2 (w2.alloc (.cells #[.int .u8 0] 5)) := (Below.refl _ _).alloc (Nat.le_refl _) _
      have rd3 : Rd (w2.alloc (.cells #[.int .u8 0] 5)) (some ⟨w2.heap.size, 0, none⟩) [.int .u8 0] := (Cs.new _ _ _).rd rfl
      have ow3 := hown2.alloc (.cells #[.int .u8 0] 5)
      have g3 := grown_then g2 b3
      refine hK.out _ _ (.inr ⟨(World.cell?_of_block (a := ⟨p, 0, none⟩) (g3.block p hpl hpr)).trans x0, (World.cell?_of_block (a := ⟨w.heap.size, 0, none⟩) (g3.block _ hql hqr)).trans y0⟩) ?_
      clear hK K
      try simp only [Act.put, List.setIfInBounds_toArray, List.set_cons_zero, List.set_cons_succ]
      refine SeqT.eff ?_ ?_
      · rfl
      intro K hK
      refine wp_append_el el24 (.tmp 17) (.tmp 18) rfl lo (.slice A2 (s1.length + name.size) c2) (s1.length + name.size) (s1.map bv ++ (bytesOf name).map bv) rfl ow3 (some ⟨w2.heap.size, 0, none⟩) 1 1 [.int .u8 0] rfl (by simp) rd3 (by simp [Value.oneCell']) (by omega) (by omega) (by have := Hq.out.lw; have := g3.size; omega) ?_
      intro v3 w3 hown3 hgrow3 hnil3 hat3
      clear hnil3
      obtain ⟨A3, c3, rfl⟩ := own_slice hown3
      have nr3 := nr2.trans (NewRow.of_at hat3 (Nat.le_refl _)) g3.size
      have g4 := grown_trans g3 hgrow3 nr2
      have z4 := g4.size
      rw [hlv] at hown3
      rw [← hll] at hown3 nr3
      refine hK.out _ _ (.inr ⟨(World.cell?_of_block (a := ⟨p, 0, none⟩) (g4.block p hpl hpr)).trans x0, (World.cell?_of_block (a := ⟨w.heap.size, 0, none⟩) (g4.block _ hql hqr)).trans y0⟩) ?_
      clear hK K
      try simp only [Act.put, List.setIfInBounds_toArray, List.set_cons_zero, List.set_cons_succ]
      refine SeqT.eff ?_ ?_
      · rfl
      intro K hK
      go_simp
      refine' Calls.mono (?_ : Calls Try.prog 64 #[.slice A3 (s1.length + name.size + 1) c3] w3 (PadPost w3 lo (.slice A3 (s1.length + name.size + 1) c3) (pad4 l))) ?_
      · have := padded_walk w3 lo A3 c3 l hown3 (by have := Hq.out.lw; omega) (by omega)
        rw [hll] at this
        exact this
      rintro e w4 ⟨A4, c4, rfl, hown4, hgrow4, nr4⟩
      rw [← hll] at hgrow4 nr4
      have nr5 := nr3.trans nr4 z4
      have g5 := grown_trans g4 hgrow4 nr3
      refine hK.out _ _ (.inr ⟨(World.cell?_of_block (a := ⟨p, 0, none⟩) (g5.block p hpl hpr)).trans x0, (World.cell?_of_block (a := ⟨w.heap.size, 0, none⟩) (g5.block _ hql hqr)).trans y0⟩) ?_
      clear hK K
      try simp only [Act.put, List.setIfInBounds_toArray, List.set_cons_zero, List.set_cons_succ]
      iterate 2
        refine' SeqT.quiet (by rfl) ?_ ?_
        rotate_left
        · rintro w' ⟨hS1, hS2⟩
          go_simp
          try with_reducible rfl
        try simp only [Act.put, List.setIfInBounds_toArray, List.set_cons_zero, List.set_cons_succ]
      refine SeqT.last ?_ ?_
      · rfl
      intro K hK
      go_simp
      have q5 := Hq.out.cs.grown g5 hpr
      have f5 := q5.frozen 0
      have k5 : w4.cell? ⟨p, 0, none⟩ = some (.slice A1 s1.length c1) := (q5.cell 0).trans rfl
      go_simp
      refine hK.out _ _ ?_
      clear hK K
      obtain ⟨z1, z2⟩ := sw_put0 (l := pad4 l) (A' := A4) (c' := c4) Hq.out g5 hown4 nr5
      have HZ := Lib.hid (show ∃ A4 c4, SW _ p lo (pad4 l) ss nop A4 c4 B1 d1 ∧ Kw p lo w1 _ from ⟨A4, c4, z1, z2⟩)
      clear z1 z2 g5 q5 f5 k5 hown4 hgrow4 nr4 nr5 g4 hown3 hgrow3 nr3 hat3 ow3 rd3 g3 hown2 hgrow2 nr2 hat2
      go_wp2_with fail
      go_meet
      case rel => exact HZ.out
    · intro K hK
      go_simp
      have b2 : Below w1.heap.size w1 (w1.drew.alloc (.cells #[.int .u8 0] 5)) := (Below.refl w1.heap.size w1).drew.alloc (by simp) _
      have rd2 : Rd (w1.drew.alloc (.cells #[.int .u8 0] 5)) (some ⟨w1.heap.size, 0, none⟩) [.int .u8 0] := (Cs.new w1.drew 5 _).rd rfl
      refine hK.out _ _ ⟨(b2.cell (p := ⟨p, 0, none⟩) hpl).trans x0, (b2.cell (p := ⟨w.heap.size, 0, none⟩) hql).trans y0⟩ ?_
      clear hK K
      try simp only [Act.put, List.setIfInBounds_toArray, List.set_cons_zero, List.set_cons_succ]
      refine SeqT.eff ?_ ?_
      · rfl
      intro K hK
      refine wp_append_str (.tmp 14) (.tmp 16) rfl lo (.slice A1 s1.length c1) s1.length (s1.map bv) rfl (Hq.out.o1.drew.alloc _) name rfl (by omega) (by have := Hq.out.lw; simp; omega) ?_
      intro v' w2 hown2 hgrow2 hat2
      obtain ⟨A2, c2, rfl⟩ := own_slice hown2
      have g3 : w1.grownBy w2 (Value.slice A1 s1.length c1).ownBlock := grown_below b2 hgrow2
      have nr2 : NewRow w1 (.slice A1 s1.length c1) (.slice A2 (s1.length + name.size) c2) := NewRow.of_at hat2 (by simp)
      have rd3 : Rd w2 (some ⟨w1.heap.size, 0, none⟩) [.int .u8 0] := rd2.mono (fun a ha => by injection ha with ha; subst ha; exact hgrow2.block _ (by simp) (fun e => by have := (Hq.out.o1.lt w1.heap.size e.symm).2; omega))
      have ow3 := hown2
      refine hK.out _ _ (.inr ⟨(World.cell?_of_block (a := ⟨p, 0, none⟩) (g3.block p hpl hpr)).trans x0, (World.cell?_of_block (a := ⟨w.heap.size, 0, none⟩) (g3.block _ hql hqr)).trans y0⟩) ?_
      clear hK K
      try simp only [Act.put, List.setIfInBounds_toArray, List.set_cons_zero, List.set_cons_succ]
      refine SeqT.eff ?_ ?_
      · rfl
      intro K hK
      refine wp_append_el el24 (.tmp 17) (.tmp 18) rfl lo (.slice A2 (s1.length + name.size) c2) (s1.length + name.size) (s1.map bv ++ (bytesOf name).map bv) rfl ow3 (some ⟨w1.heap.size, 0, none⟩) 1 1 [.int .u8 0] rfl (by simp) rd3 (by simp [Value.oneCell']) (by omega) (by omega) (by have := Hq.out.lw; have := g3.size; omega) ?_
      intro v3 w3 hown3 hgrow3 hnil3 hat3
      clear hnil3
      obtain ⟨A3, c3, rfl⟩ := own_slice hown3
      have nr3 := nr2.trans (NewRow.of_at hat3 (Nat.le_refl _)) g3.size
      have g4 := grown_trans g3 hgrow3 nr2
      have z4 := g4.size
      rw [hlv] at hown3
      rw [← hll] at hown3 nr3
      refine hK.out _ _ (.inr ⟨(World.cell?_of_block (a := ⟨p, 0, none⟩) (g4.block p hpl hpr)).trans x0, (World.cell?_of_block (a := ⟨w.heap.size, 0, none⟩) (g4.block _ hql hqr)).trans y0⟩) ?_
      clear hK K
      try simp only [Act.put, List.setIfInBounds_toArray, List.set_cons_zero, List.set_cons_succ]
      refine SeqT.eff ?_ ?_
      · rfl
      intro K hK
      go_simp
      refine' Calls.mono (?_ : Calls Try.prog 64 #[.slice A3 (s1.length + name.size + 1) c3] w3 (PadPost w3 lo (.slice A3 (s1.length + name.size + 1) c3) (pad4 l))) ?_
      · have := padded_walk w3 lo A3 c3 l hown3 (by have := Hq.out.lw; omega) (by omega)
        rw [hll] at this
        exact this
      rintro e w4 ⟨A4, c4, rfl, hown4, hgrow4, nr4⟩
      rw [← hll] at hgrow4 nr4
      have nr5 := nr3.trans nr4 z4
      have g5 := grown_trans g4 hgrow4 nr3
      refine hK.out _ _ (.inr ⟨(World.cell?_of_block (a := ⟨p, 0, none⟩) (g5.block p hpl hpr)).trans x0, (World.cell?_of_block (a := ⟨w.heap.size, 0, none⟩) (g5.block _ hql hqr)).trans y0⟩) ?_
      clear hK K
      try simp only [Act.put, List.setIfInBounds_toArray, List.set_cons_zero, List.set_cons_succ]
      iterate 2
        refine' SeqT.quiet (by rfl) ?_ ?_
        rotate_left
        · rintro w' ⟨hS1, hS2⟩
          go_simp
          try with_reducible rfl
        try simp only [Act.put, List.setIfInBounds_toArray, List.set_cons_zero, List.set_cons_succ]
      refine SeqT.last ?_ ?_
      · rfl
      intro K hK
      go_simp
      have q5 := Hq.out.cs.grown g5 hpr
      have f5 := q5.frozen 0
      have k5 : w4.cell? ⟨p, 0, none⟩ = some (.slice A1 s1.length c1) := (q5.cell 0).trans rfl
      go_simp
      refine hK.out _ _ ?_
      clear hK K
      obtain ⟨z1, z2⟩ := sw_put0 (l := pad4 l) (A' := A4) (c' := c4) Hq.out g5 hown4 nr5
      have HZ := Lib.hid (show ∃ A4 c4, SW _ p lo (pad4 l) ss nop A4 c4 B1 d1 ∧ Kw p lo w1 _ from ⟨A4, c4, z1, z2⟩)
      clear z1 z2 g5 q5 f5 k5 hown4 hgrow4 nr4 nr5 g4 hown3 hgrow3 nr3 hat3 ow3 rd3 g3 hown2 hgrow2 nr2 hat2
      go_wp2_with fail
      go_meet
      case rel => exact HZ.out
  case rest =>
    obtain ⟨A2, c2, hq2, hk2⟩ := hcut
    have hle := pad4_le l
    have hm4 := pad4_mod l
    obtain ⟨st1, hst1⟩ : ∃ st1, st1 = pad4 l := ⟨_, rfl⟩
    rw [← hst1] at hq2 hle hm4
    have hst1l : st1.length + ss.length + (20 + budP ps + budL ks) ≤ 900000 := by omega
    have Hst := Lib.hid (show st1 = st ++ (tok nop (1 : Nat) ++ pad4 (bytesOf name ++ [0])) by rw [hst1, HL.out, Hs1.out, List.append_assoc])
    have hst1b : st1.length ≤ st.length + (4 * nop + 4) + (name.size + 4) := by
      rw [Hst.out]
      have := pad4_le (bytesOf name ++ [0])
      simp only [List.length_append, tok_len] at this ⊢
      simp [bytesOf] at this ⊢
      omega
    clear hle hst1 hll hlv x0 y0 hpl hpr hql hqr l HL
    have hou2 := hk2.kp _ Hk.out.2.1
    have hq02 := Hk.out.2.2.keep hou2.1
    have y1 : wc.cell? ⟨w.heap.size, 1, none⟩ = some (.slice Ap ps.length cp) := (hq02.cell 1).trans rfl
    have HK2 := Lib.hid ((HK0.out.trans Hk.out.1).trans hk2)
    have Hq2 := Lib.hid hq2
    have Hq02 := Lib.hid (And.intro hou2.2 hq02)
    clear hq2 hk2 hou2 hq02 Hq Hk
    go_wp2_with fail
    go_loopw [26] (fun i wr => ∃ k : Nat, k ≤ ps.length ∧ i = .int .i64 k ∧ SPInv wc p lo st1 ss nop ps k wr) (fun i _ => ps.length - (intOf i).toNat)
    case atStart => exact ⟨0, by omega, by go_num, [], [], .nil, by simpa using ⟨A2, c2, B1, d1, Hq2.out⟩, Kw.refl _ _ _, by simp, by simp⟩
    case round =>
      obtain ⟨k, hk, rfl, out, more, henc, ⟨Ar, cr, Br, dr, hsw⟩, hkw, hlen, hmod⟩ := hrel
      obtain ⟨wo, rfl⟩ : ∃ wo : World, wo = wr := ⟨_, rfl⟩
      clear y1
      by_cases hlt : k < ps.length
      · have hne : ps ≠ [] := by intro e; simp [e] at hlt
        obtain ⟨g, o, rfl, hog, hD⟩ := Hp5.out.resolve_left hne
        have hp4 := Hp4.out
        have hkp : ps[k]? = some ps[k] := List.getElem?_eq_getElem hlt
        have hlt2 : k < ts.length := by rw [← hp4.1]; exact hlt
        have hkt : ts[k]? = some (ts[k]'hlt2) := List.getElem?_eq_getElem hlt2
        obtain ⟨e1, pn, Av, cv, e3, hv1, hv2, hv3, hrv⟩ := hp4.2 k _ _ hkp hkt
        obtain ⟨d1, d2⟩ := hD k _ hkt
        have hkv := HK2.out.trans hkw
        have hgk := (hkv.kp g (Hok.out g hog))
        rw [← World.cell?_of_block (a := ⟨g, o + k * 2, none⟩) hgk.1, e1] at d1
        rw [← World.cell?_of_block (a := ⟨g, o + k * 2 + 1, none⟩) hgk.1, e3] at d2
        have hsz := Htm.out.1 ps[k] (List.getElem_mem hlt)
        have hbt := budP_take ps k hlt
        have htk : ps.take (k + 1) = ps.take k ++ [ps[k]] := by rw [List.take_succ_eq_append_getElem hlt]
        generalize ps[k] = pk at *
        obtain ⟨bk1, hbk1⟩ : ∃ b, b = budP (ps.take (k + 1)) := ⟨_, rfl⟩
        rw [← hbk1] at hbt
        have Hbk1 := Lib.hid hbk1
        clear hbk1
        generalize budP (ps.take k) = bk0 at *
        obtain ⟨hb1, hb2⟩ := hbt
        have hgw : g < wo.heap.size := hgk.2.1
        have hki : (0 : Int) ≤ (k : Int) := by omega
        have hwl : IntKind.u64.wrap (pk.val.length : Int) = (pk.val.length : Int) := by simp only [IntKind.wrap, IntKind.bits, IntKind.signed]; simp; omega
        have Hsw := Lib.hid hsw
        have Henc := Lib.hid (And.intro henc (And.intro htk (And.intro hb1 (And.intro hlen hmod))))
        have Hrv := Lib.hid hrv
        have Hkv := Lib.hid hkv
        have Hkc := Lib.hid hkw
        have hlen2 : (st1 ++ out).length ≤ 900000 ∧ (ss ++ more).length ≤ 900000 ∧ (st1 ++ out).length + (ss ++ more).length + 32 + pk.val.length + pk.name.size ≤ 900000 := by simp only [List.length_append]; omega
        have hm4' : (st1 ++ out).length % 4 = 0 := by simp only [List.length_append]; omega
        clear hsw henc htk hb1 hlen hmod hrv hkv hD hkp hkt hp4 hgk e1 e3 hkw
        obtain ⟨sx, hsx⟩ : ∃ sx, sx = st1 ++ out := ⟨_, rfl⟩
        have Hsx := Lib.hid hsx
        rw [← hsx] at hlen2 hm4'
        clear hsx
        go_wp2_with fail
        generalize hV : wo.alloc (.cells #[.string pk.name, .slice Av pk.val.length cv] 125) = V
        have hVb : Below wo.heap.size wo V := by rw [← hV]; exact (Below.refl _ _).alloc (Nat.le_refl _) _
        have hVc : Cs V wo.heap.size #[.string pk.name, .slice Av pk.val.length cv] := by rw [← hV]; exact Cs.new _ _ _
        have hswV : SW V p lo sx (ss ++ more) nop Ar cr Br dr := by rw [Hsx.out]; exact Hsw.out.below hVb
        have houV := Hsw.out.ou_new hVb (k := wo.heap.size) (Nat.le_refl _) hVc.lt
        have HkV := Lib.hid (Kw.below hVb Hsw.out.plt Hsw.out.lw)
        obtain ⟨q5, hq5⟩ : ∃ q5, q5 = wo.heap.size := ⟨_, rfl⟩
        rw [← hq5] at hVc houV ⊢
        clear hV d1 d2 hVb hq5
        refine (stoken_walk V p lo sx (ss ++ more) nop ⟨Ar, cr, Br, dr, hswV⟩ 3 (by omega) hnop (by omega)).mono ?_
        rintro e w2 ⟨rfl, ⟨Aa, ca, B2, d2, hqa⟩, hka⟩
        obtain ⟨sa, hsa⟩ : ∃ sa, sa = sx ++ tok nop (3 : Nat) := ⟨_, rfl⟩
        rw [← hsa] at hqa
        have hsal : sa.length = sx.length + 4 * nop + 4 := by rw [hsa, List.length_append, tok_len]; omega
        have hsam : sa.length % 4 = 0 ∧ sa.length + (ss ++ more).length + 16 + pk.val.length + pk.name.size ≤ 900000 := by omega
        have Hsa := Lib.hid (And.intro hsa hsal)
        have hou2 := hka.kp _ houV
        have hq52 := hVc.keep hou2.1
        have x0 : w2.cell? ⟨p, 0, none⟩ = some (.slice Aa sa.length ca) := (hqa.cs.cell 0).trans rfl
        have y0 : w2.cell? ⟨q5, 1, none⟩ = some (.slice Av pk.val.length cv) := (hq52.cell 1).trans rfl
        have hpl : p < w2.heap.size := hqa.plt
        have hpr : some p ≠ (Value.slice Aa sa.length ca).ownBlock := own_ne hqa.o1 hqa.lp
        have hql : q5 < w2.heap.size := hou2.2.1
        have hqr := (hqa.ou_ne hou2.2).1
        have Hq2' := Hq2
        clear Hq2
        have Hq2 := Lib.hid hqa
        have Hou2 := Lib.hid hou2.2
        have Hq5 := Lib.hid hq52
        have Hk2 := Lib.hid (HkV.out.trans hka)
        clear hsa hsal hqa hka hou2 hq52 hVc hswV houV
        go_wp2_with fail
        refine wp_region_plan (fun w' => w'.cell? ⟨p, 0, none⟩ = some (.slice Aa sa.length ca) ∧ w'.cell? ⟨q5, 1, none⟩ = some (.slice Av pk.val.length cv)) 13 (.quiet 0 (.quiet 1 (.quiet 2 (.quiet 3 (.quiet 4 (.quiet 5 (.quiet 6 (.quiet 7 (.quiet 8 (.eff 9 (.eff 10 (.quiet 11 (.quiet 12 (.eff 13 .done)))))))))))))) (by kernel_rfl) (by kernel_rfl) ⟨x0, y0⟩ ?_
        simp only [planO, opAt, List.getElem?_toArray, List.getElem?_cons_zero, List.getElem?_cons_succ, Option.getD_some, Nat.reduceBEq]
        iterate 9
          refine' SeqT.quiet (by rfl) ?_ ?_
          rotate_left
          · rintro w' ⟨hS1, hS2⟩
            go_simp
            try with_reducible rfl
          try simp only [Act.put, List.setIfInBounds_toArray, List.set_cons_zero, List.set_cons_succ]
        refine SeqT.eff ?_ ?_
        · rfl
        intro K hK
        go_simp
        refine (put_walk w2.drew pk.val.length 4 (by omega) (by omega)).mono ?_
        rintro e wp1 ⟨rfl, hrow, hbp⟩
        rw [low_len] at hrow
        rw [low_len]
        have gp : w2.grownBy wp1 (Value.slice Aa sa.length ca).ownBlock := ⟨hbp.os, hbp.tape, hbp.output, hbp.size, fun k hk _ => hbp.block k hk⟩
        refine hK.out _ _ (.inr ⟨(World.cell?_of_block (a := ⟨p, 0, none⟩) (gp.block p hpl hpr)).trans x0, (World.cell?_of_block (a := ⟨q5, 1, none⟩) (gp.block _ hql hqr)).trans y0⟩) ?_
        clear hK K
        try simp only [Act.put, List.setIfInBounds_toArray, List.set_cons_zero, List.set_cons_succ]
        refine SeqT.eff ?_ ?_
        · rfl
        intro K hK
        refine wp_append_el el24 (.tmp 36) (.tmp 41) rfl lo (.slice Aa sa.length ca) sa.length (sa.map bv) rfl (own_keep Hq2.out.o1 (fun g hg => hbp.block g (Hq2.out.o1.lt g hg).2)) (some ⟨w2.drew.heap.size, 0, none⟩) 4 4 ((low pk.val.length 4).map bv) rfl (by simp [low_len]) (own_rd hrow) (bv_one _) (by omega) (by omega) (by have := Hq2.out.lw; have := gp.size; omega) ?_
        intro v3 w3 hown3 hgrow3 hnil3 hat3
        clear hnil3
        obtain ⟨A3, c3, rfl⟩ := own_slice hown3
        have g3 : w2.grownBy w3 (Value.slice Aa sa.length ca).ownBlock := grown_trans gp hgrow3 (NewRow.refl _ _)
        have nr3 : NewRow w2 (.slice Aa sa.length ca) (.slice A3 (sa.length + 4) c3) := NewRow.of_at hat3 gp.size
        have q3 := Hq2.out.cs.grown g3 hpr
        have f3 := q3.frozen 0
        have k3 : w3.cell? ⟨p, 0, none⟩ = some (.slice Aa sa.length ca) := (q3.cell 0).trans rfl
        refine hK.out _ _ (.inr ⟨(World.cell?_of_block (a := ⟨p, 0, none⟩) (g3.block p hpl hpr)).trans x0, (World.cell?_of_block (a := ⟨q5, 1, none⟩) (g3.block _ hql hqr)).trans y0⟩) ?_
        clear hK K
        try simp only [Act.put, List.setIfInBounds_toArray, List.set_cons_zero, List.set_cons_succ]
        iterate 2
          refine' SeqT.quiet (by rfl) ?_ ?_
          rotate_left
          · rintro w' ⟨hS1, hS2⟩
            go_simp
            try with_reducible rfl
          try simp only [Act.put, List.setIfInBounds_toArray, List.set_cons_zero, List.set_cons_succ]
        refine SeqT.last ?_ ?_
        · rfl
        intro K hK
        go_simp
        refine hK.out _ _ ?_
        clear hK K
        rw [low4] at hown3
        obtain ⟨sb, hsb⟩ : ∃ sb, sb = sa ++ be4 (pk.val.length : Nat) := ⟨_, rfl⟩
        have hsbl : sb.length = sa.length + 4 := by rw [hsb]; simp [be4]
        obtain ⟨z1, z2⟩ := sw_put0 (l := sb) (A' := A3) (c' := c3) Hq2.out g3 (by rw [hsbl, hsb, List.map_append]; exact hown3) (by rw [hsbl]; exact nr3)
        rw [← hsbl]
        generalize w3.setCell ⟨p, 0, none⟩ (.slice A3 sb.length c3) = W4 at z1 z2 ⊢
        have Hsb := Lib.hid (And.intro hsb (And.intro hsbl z2))
        have hsb3 : sb.length % 4 = 0 ∧ sb.length + (ss ++ more).length + 12 + pk.val.length + pk.name.size ≤ 900000 := by omega
        have hou4 := z2.kp _ Hou2.out
        have hq54 := Hq5.out.keep hou4.1
        have x0 : W4.cell? ⟨p, 0, none⟩ = some (.slice A3 sb.length c3) := (z1.cs.cell 0).trans rfl
        have y0 : W4.cell? ⟨q5, 0, none⟩ = some (.string pk.name) := (hq54.cell 0).trans rfl
        have hpl : p < W4.heap.size := z1.plt
        have hpr : some p ≠ (Value.slice A3 sb.length c3).ownBlock := own_ne z1.o1 z1.lp
        have hql : q5 < W4.heap.size := hou4.2.1
        have hqr := (z1.ou_ne hou4.2).1
        have Hq4 := Lib.hid z1
        have Hou4 := Lib.hid hou4.2
        have Hq54 := Lib.hid hq54
        clear hsb hsbl z1 z2 hou4 hq54 hown3 hgrow3 hat3 g3 nr3 q3 f3 k3 gp hbp hrow
        go_wp2_with fail
        refine wp_region_plan (fun w' => w'.cell? ⟨p, 0, none⟩ = some (.slice A3 sb.length c3) ∧ w'.cell? ⟨q5, 0, none⟩ = some (.string pk.name)) 14 (.quiet 0 (.quiet 1 (.quiet 2 (.quiet 3 (.quiet 4 (.quiet 5 (.quiet 6 (.quiet 7 (.eff 8 (.quiet 9 (.eff 10 (.eff 11 (.quiet 12 (.quiet 13 (.eff 14 .done))))))))))))))) (by kernel_rfl) (by kernel_rfl) ⟨x0, y0⟩ ?_
        simp only [planO, opAt, List.getElem?_toArray, List.getElem?_cons_zero, List.getElem?_cons_succ, Option.getD_some, Nat.reduceBEq]
        iterate 8
          refine' SeqT.quiet (by rfl) ?_ ?_
          rotate_left
          · rintro w' ⟨hS1, hS2⟩
            go_simp
            try with_reducible rfl
          try simp only [Act.put, List.setIfInBounds_toArray, List.set_cons_zero, List.set_cons_succ]
        refine SeqT.eff ?_ ?_
        · rfl
        intro K hK
        go_simp
        refine (wname_walk W4.drew p lo sb (ss ++ more) nop A3 c3 B2 d2 (Hq4.out.below (Below.refl W4.heap.size W4).drew) pk.name (by omega) (by omega)).mono ?_
        rintro e w5 ⟨off, more2, B5, d5, rfl, hhas, hml, hq5', hk5⟩
        have hoff : off < 2000000 := by have := hhas.lt; rw [List.length_append] at this; omega
        have hwo : IntKind.u64.wrap (off : Int) = (off : Int) := by simp only [IntKind.wrap, IntKind.bits, IntKind.signed]; simp; omega
        have hou5 := hk5.kp q5 (show Ou W4.drew p q5 from Hou4.out)
        have Hn := Lib.hid (And.intro hhas (And.intro hml hk5))
        have x5 : w5.cell? ⟨p, 0, none⟩ = some (.slice A3 sb.length c3) := (hq5'.cs.cell 0).trans rfl
        have y5 : w5.cell? ⟨q5, 0, none⟩ = some (.string pk.name) := (World.cell?_of_block (a := ⟨q5, 0, none⟩) hou5.1).trans y0
        have hpl5 : p < w5.heap.size := hq5'.plt
        have hql5 : q5 < w5.heap.size := hou5.2.1
        have hqr5 := (hq5'.ou_ne hou5.2).1
        refine hK.out _ _ (.inr ⟨x5, y5⟩) ?_
        clear hK K
        try simp only [Act.put, List.setIfInBounds_toArray, List.set_cons_zero, List.set_cons_succ]
        refine' SeqT.quiet (by rfl) ?_ ?_
        rotate_left
        · rintro w' ⟨hS1, hS2⟩
          go_simp
          try with_reducible rfl
        try simp only [Act.put, List.setIfInBounds_toArray, List.set_cons_zero, List.set_cons_succ]
        refine SeqT.eff ?_ ?_
        · rfl
        intro K hK
        go_simp
        refine (put_walk w5 off 4 (by omega) (by omega)).mono ?_
        rintro e wp1 ⟨rfl, hrow, hbp⟩
        rw [low_len] at hrow
        rw [low_len]
        have gp : w5.grownBy wp1 (Value.slice A3 sb.length c3).ownBlock := ⟨hbp.os, hbp.tape, hbp.output, hbp.size, fun k hk _ => hbp.block k hk⟩
        refine hK.out _ _ (.inr ⟨(World.cell?_of_block (a := ⟨p, 0, none⟩) (gp.block p hpl5 hpr)).trans x5, (World.cell?_of_block (a := ⟨q5, 0, none⟩) (gp.block _ hql5 hqr5)).trans y5⟩) ?_
        clear hK K
        try simp only [Act.put, List.setIfInBounds_toArray, List.set_cons_zero, List.set_cons_succ]
        refine SeqT.eff ?_ ?_
        · rfl
        intro K hK
        refine wp_append_el el24 (.tmp 49) (.tmp 55) rfl lo (.slice A3 sb.length c3) sb.length (sb.map bv) rfl (own_keep hq5'.o1 (fun g hg => hbp.block g (hq5'.o1.lt g hg).2)) (some ⟨w5.heap.size, 0, none⟩) 4 4 ((low off 4).map bv) rfl (by simp [low_len]) (own_rd hrow) (bv_one _) (by omega) (by omega) (by have := hq5'.lw; have := gp.size; omega) ?_
        intro v6 w6 hown6 hgrow6 hnil6 hat6
        clear hnil6
        obtain ⟨A6, c6, rfl⟩ := own_slice hown6
        have g6 : w5.grownBy w6 (Value.slice A3 sb.length c3).ownBlock := grown_trans gp hgrow6 (NewRow.refl _ _)
        have nr6 : NewRow w5 (.slice A3 sb.length c3) (.slice A6 (sb.length + 4) c6) := NewRow.of_at hat6 gp.size
        have q6 := hq5'.cs.grown g6 hpr
        have f6 := q6.frozen 0
        have k6 : w6.cell? ⟨p, 0, none⟩ = some (.slice A3 sb.length c3) := (q6.cell 0).trans rfl
        refine hK.out _ _ (.inr ⟨(World.cell?_of_block (a := ⟨p, 0, none⟩) (g6.block p hpl5 hpr)).trans x5, (World.cell?_of_block (a := ⟨q5, 0, none⟩) (g6.block _ hql5 hqr5)).trans y5⟩) ?_
        clear hK K
        try simp only [Act.put, List.setIfInBounds_toArray, List.set_cons_zero, List.set_cons_succ]
        iterate 2
          refine' SeqT.quiet (by rfl) ?_ ?_
          rotate_left
          · rintro w' ⟨hS1, hS2⟩
            go_simp
            try with_reducible rfl
          try simp only [Act.put, List.setIfInBounds_toArray, List.set_cons_zero, List.set_cons_succ]
        refine SeqT.last ?_ ?_
        · rfl
        intro K hK
        go_simp
        refine hK.out _ _ ?_
        clear hK K
        rw [low4] at hown6
        obtain ⟨sc, hsc⟩ : ∃ sc, sc = sb ++ be4 (off : Nat) := ⟨_, rfl⟩
        have hscl : sc.length = sb.length + 4 := by rw [hsc]; simp [be4]
        obtain ⟨z1, z2⟩ := sw_put0 (l := sc) (A' := A6) (c' := c6) hq5' g6 (by rw [hscl, hsc, List.map_append]; exact hown6) (by rw [hscl]; exact nr6)
        rw [← hscl]
        generalize w6.setCell ⟨p, 0, none⟩ (.slice A6 sc.length c6) = W7 at z1 z2 ⊢
        have Hsc := Lib.hid (And.intro hsc (And.intro hscl z2))
        have hsc3 : sc.length % 4 = 0 ∧ sc.length + (ss ++ more).length + 8 + pk.val.length + pk.name.size ≤ 900000 := by omega
        have hou7 := z2.kp _ hou5.2
        have hq57 := (Hq54.out.keep hou5.1).keep hou7.1
        have x0 : W7.cell? ⟨p, 0, none⟩ = some (.slice A6 sc.length c6) := (z1.cs.cell 0).trans rfl
        have y0 : W7.cell? ⟨q5, 1, none⟩ = some (.slice Av pk.val.length cv) := (hq57.cell 1).trans rfl
        have hpl : p < W7.heap.size := z1.plt
        have hpr : some p ≠ (Value.slice A6 sc.length c6).ownBlock := own_ne z1.o1 z1.lp
        have hql : q5 < W7.heap.size := hou7.2.1
        have hqr := (z1.ou_ne hou7.2).1
        have Hq7 := Lib.hid z1
        have hko7 : Kw p lo wo W7 := by
          have a2 := Hk2.out
          have a3 := Hsb.out.2.2
          have a4 : Kw p lo W4 w5 := ⟨⟨hk5.fr.os, hk5.fr.tape, hk5.fr.output, hk5.fr.size, hk5.fr.block⟩, fun k hk => hk5.kp k hk⟩
          exact ((a2.trans a3).trans a4).trans z2
        have hkw7 : Kw p lo w W7 := Hkv.out.trans hko7
        have hrd7 : Rd W7 Av (pk.val.map bv) := (Hrv.out.mono (w' := W7) (ok' := ok) (fun k hk => (hkw7.kp k (Hok.out k hk)).1) (fun _ h => h)).rd
        have Hko7 := Lib.hid hko7
        clear hsc hscl z1 z2 hou7 hq57 hown6 hgrow6 hat6 g6 nr6 q6 f6 k6 gp hbp hrow x5 y5 hpl5 hql5 hqr5 hou5 hhas hml hk5 hkw7 hko7
        obtain ⟨l3, hl3⟩ : ∃ l3, l3 = sc ++ pk.val := ⟨_, rfl⟩
        have hl3l : l3.length = sc.length + pk.val.length := by rw [hl3]; simp
        have hl3v : sc.map bv ++ pk.val.map bv = l3.map bv := by rw [hl3]; simp
        have Hl3 := Lib.hid hl3
        clear hl3
        go_wp2_with fail
        refine wp_region_plan (fun w' => w'.cell? ⟨p, 0, none⟩ = some (.slice A6 sc.length c6) ∧ w'.cell? ⟨q5, 1, none⟩ = some (.slice Av pk.val.length cv)) 11 (.quiet 0 (.quiet 1 (.quiet 2 (.quiet 3 (.quiet 4 (.quiet 5 (.quiet 6 (.eff 7 (.eff 8 (.quiet 9 (.quiet 10 (.eff 11 .done)))))))))))) (by kernel_rfl) (by kernel_rfl) ⟨x0, y0⟩ ?_
        simp only [planO, opAt, List.getElem?_toArray, List.getElem?_cons_zero, List.getElem?_cons_succ, Option.getD_some, Nat.reduceBEq]
        iterate 7
          refine' SeqT.quiet (by rfl) ?_ ?_
          rotate_left
          · rintro w' ⟨hS1, hS2⟩
            go_simp
            try with_reducible rfl
          try simp only [Act.put, List.setIfInBounds_toArray, List.set_cons_zero, List.set_cons_succ]
        refine SeqT.eff ?_ ?_
        · rfl
        intro K hK
        refine wp_append_el el24 (.tmp 63) (.tmp 65) rfl lo (.slice A6 sc.length c6) sc.length (sc.map bv) rfl Hq7.out.o1.drew Av pk.val.length cv (pk.val.map bv) rfl (by simp) hrd7 (bv_one _) (by omega) (by omega) Hq7.out.lw ?_
        intro v8 w8 hown8 hgrow8 hnil8 hat8
        clear hnil8
        obtain ⟨A8, c8, rfl⟩ := own_slice hown8
        have g8 : W7.grownBy w8 (Value.slice A6 sc.length c6).ownBlock := grown_below (Below.refl W7.heap.size W7).drew hgrow8
        have nr8 : NewRow W7 (.slice A6 sc.length c6) (.slice A8 (sc.length + pk.val.length) c8) := NewRow.of_at hat8 (Nat.le_refl _)
        have z8 := g8.size
        rw [hl3v] at hown8
        rw [← hl3l] at hown8 nr8
        refine hK.out _ _ (.inr ⟨(World.cell?_of_block (a := ⟨p, 0, none⟩) (g8.block p hpl hpr)).trans x0, (World.cell?_of_block (a := ⟨q5, 1, none⟩) (g8.block _ hql hqr)).trans y0⟩) ?_
        clear hK K
        try simp only [Act.put, List.setIfInBounds_toArray, List.set_cons_zero, List.set_cons_succ]
        refine SeqT.eff ?_ ?_
        · rfl
        intro K hK
        go_simp
        refine' Calls.mono (?_ : Calls Try.prog 64 #[.slice A8 (sc.length + pk.val.length) c8] w8 (PadPost w8 lo (.slice A8 (sc.length + pk.val.length) c8) (pad4 l3))) ?_
        · have := padded_walk w8 lo A8 c8 l3 hown8 (by have := Hq7.out.lw; omega) (by omega)
          rw [hl3l] at this
          exact this
        rintro e w9 ⟨A9, c9, rfl, hown9, hgrow9, nr9⟩
        rw [← hl3l] at hgrow9 nr9
        have nr10 := nr8.trans nr9 z8
        have g9 := grown_trans g8 hgrow9 nr8
        have q9 := Hq7.out.cs.grown g9 hpr
        have f9 := q9.frozen 0
        have k9 : w9.cell? ⟨p, 0, none⟩ = some (.slice A6 sc.length c6) := (q9.cell 0).trans rfl
        refine hK.out _ _ (.inr ⟨(World.cell?_of_block (a := ⟨p, 0, none⟩) (g9.block p hpl hpr)).trans x0, (World.cell?_of_block (a := ⟨q5, 1, none⟩) (g9.block _ hql hqr)).trans y0⟩) ?_
        clear hK K
        try simp only [Act.put, List.setIfInBounds_toArray, List.set_cons_zero, List.set_cons_succ]
        iterate 2
          refine' SeqT.quiet (by rfl) ?_ ?_
          rotate_left
          · rintro w' ⟨hS1, hS2⟩
            go_simp
            try with_reducible rfl
          try simp only [Act.put, List.setIfInBounds_toArray, List.set_cons_zero, List.set_cons_succ]
        refine SeqT.last ?_ ?_
        · rfl
        intro K hK
        go_simp
        refine hK.out _ _ ?_
        clear hK K
        obtain ⟨z1, z2⟩ := sw_put0 (l := pad4 l3) (A' := A9) (c' := c9) Hq7.out g9 hown9 nr10
        generalize w9.setCell ⟨p, 0, none⟩ (.slice A9 (pad4 l3).length c9) = W10 at z1 z2 ⊢
        have HZ := Lib.hid (And.intro z1 z2)
        clear z1 z2 hown9 hgrow9 nr9 nr10 g9 q9 f9 k9 hown8 hgrow8 hat8 g8 nr8 z8
        go_wp2_with fail
        obtain ⟨z1, z2⟩ := HZ.out
        obtain ⟨hh1, hh2, hh3⟩ := Hn.out
        obtain ⟨n1, n2, n3, n4, n5⟩ := Henc.out
        have hpv : pad4 l3 = sc ++ pad4 pk.val := by rw [Hl3.out, pad4_app hsc3.1]
        have hst : pad4 l3 = st1 ++ (out ++ (tok nop (3 : Nat) ++ be4 (pk.val.length : Nat) ++ be4 (off : Nat) ++ pad4 pk.val)) := by
          rw [hpv, Hsc.out.1, Hsb.out.1, Hsa.out.1, Hsx.out]
          simp only [List.append_assoc]
        have hKt : Kw p lo wc W10 := (Hkc.out.trans Hko7.out).trans z2
        have hol : (out ++ (tok nop (3 : Nat) ++ be4 (pk.val.length : Nat) ++ be4 (off : Nat) ++ pad4 pk.val)).length + (more ++ more2).length ≤ bk1 := by
          have e1 := pad4_le pk.val
          simp only [List.length_append, tok_len]
          have e2 : ∀ z : Int, (be4 z).length = 4 := fun _ => rfl
          rw [e2, e2]
          omega
        have hom : (out ++ (tok nop (3 : Nat) ++ be4 (pk.val.length : Nat) ++ be4 (off : Nat) ++ pad4 pk.val)).length % 4 = 0 := by
          have e1 := pad4_mod pk.val
          simp only [List.length_append, tok_len]
          have e2 : ∀ z : Int, (be4 z).length = 4 := fun _ => rfl
          rw [e2, e2]
          omega
        have henc2 : EncP (ss ++ (more ++ more2)) nop (ps.take (k + 1)) (out ++ (tok nop (3 : Nat) ++ be4 (pk.val.length : Nat) ++ be4 (off : Nat) ++ pad4 pk.val)) := by
          rw [n2, ← List.append_assoc]
          exact EncP.snoc hh1 (n1.append more2)
        have hswF : SWx W10 p lo (st1 ++ (out ++ (tok nop (3 : Nat) ++ be4 (pk.val.length : Nat) ++ be4 (off : Nat) ++ pad4 pk.val))) (ss ++ (more ++ more2)) nop := ⟨A9, c9, B5, d5, by rw [← hst, ← List.append_assoc]; exact z1⟩
        refine ⟨⟨k + 1, hlt, by go_num, _, _, henc2, hswF, hKt, by rw [← Hbk1.out]; exact hol, hom⟩, by simp [intOf]; omega⟩
      · obtain rfl : k = ps.length := by omega
        rw [List.take_length] at henc hlen
        have hou3 := hkw.kp _ Hq02.out.1
        have hq03 := Hq02.out.2.keep hou3.1
        have y2 : wo.cell? ⟨w.heap.size, 2, none⟩ = some (.slice Ak ks.length ck) := (hq03.cell 2).trans rfl
        have HK3 := Lib.hid (HK2.out.trans hkw)
        have Hsw := Lib.hid hsw
        have Henc := Lib.hid henc
        obtain ⟨st2, hst2⟩ : ∃ s, s = st1 ++ out := ⟨_, rfl⟩
        obtain ⟨ss2, hss2⟩ : ∃ s, s = ss ++ more := ⟨_, rfl⟩
        have hl2 : st2.length + ss2.length + (20 + budL ks) ≤ 900000 ∧ st2.length % 4 = 0 := by rw [hst2, hss2]; simp only [List.length_append]; omega
        have Hl2 := Lib.hid (And.intro hst2 (And.intro hss2 (And.intro hlen hmod)))
        rw [← hst2, ← hss2] at hsw
        have Hsw2 := Lib.hid hsw
        clear hsw henc hlen hmod hst2 hss2 hou3 hq03 hkw
        go_wp2_with fail
        go_loopw [74] (fun i wr => ∃ k : Nat, k ≤ ks.length ∧ i = .int .i64 k ∧ SKInv wo p lo st2 ss2 nop ks k wr) (fun i _ => ks.length - (intOf i).toNat)
        case atStart => exact ⟨0, by omega, by go_num, [], [], .nil, by simpa using ⟨Ar, cr, Br, dr, Hsw2.out⟩, Kw.refl _ _ _, by simp, by simp⟩
        case round =>
          obtain ⟨j, hj, rfl, ok2, mk2, henc, hsw, hkw, hlen, hmod⟩ := hrel
          obtain ⟨wi, rfl⟩ : ∃ wi : World, wi = wr := ⟨_, rfl⟩
          clear y2
          by_cases hlt2 : j < ks.length
          · have hne : ks ≠ [] := by intro e; simp [e] at hlt2
            obtain ⟨g, o, rfl, hog, hD⟩ := Hk5.out.resolve_left hne
            have hk4 := Hk4.out
            have hkp : ks[j]? = some ks[j] := List.getElem?_eq_getElem hlt2
            have hlt3 : j < us.length := by rw [← hk4.1]; exact hlt2
            have hkt : us[j]? = some (us[j]'hlt3) := List.getElem?_eq_getElem hlt3
            have hnc := hk4.2 j _ _ hkp hkt
            obtain ⟨d1, d2, d3⟩ := hD j _ hkt
            have hkv := HK3.out.trans hkw
            have hgk := (hkv.kp g (Hok.out g hog))
            rw [← World.cell?_of_block (a := ⟨g, o + j * 3, none⟩) hgk.1] at d1
            rw [← World.cell?_of_block (a := ⟨g, o + j * 3 + 1, none⟩) hgk.1] at d2
            rw [← World.cell?_of_block (a := ⟨g, o + j * 3 + 2, none⟩) hgk.1] at d3
            have hI := IH.out ks[j] (List.getElem_mem hlt2)
            have hIt := Htm.out.2 ks[j] (List.getElem_mem hlt2)
            have hbt := budL_take ks j hlt2
            have htk : ks.take (j + 1) = ks.take j ++ [ks[j]] := by rw [List.take_succ_eq_append_getElem hlt2]
            generalize ks[j] = kj at *
            generalize us[j] = uj at *
            obtain ⟨u1, u2, u3⟩ := uj
            obtain ⟨s5, A5, n5, c5, B5, n6, c6, hform⟩ := hnc.form
            simp only [Prod.mk.injEq] at hform
            obtain ⟨rfl, rfl, rfl⟩ := hform
            obtain ⟨bk1, hbk1⟩ : ∃ b, b = budL (ks.take (j + 1)) := ⟨_, rfl⟩
            rw [← hbk1] at hbt
            obtain ⟨hb1, hb2⟩ := hbt
            have hgw : g < wi.heap.size := hgk.2.1
            have hki : (0 : Int) ≤ (j : Int) := by omega
            obtain ⟨Ai, ci, Bi, di, hsi⟩ := hsw
            generalize hV : wi.alloc (.cells #[.string s5, .slice A5 n5 c5, .slice B5 n6 c6] 46) = V
            have hVb : Below wi.heap.size wi V := by rw [← hV]; exact (Below.refl _ _).alloc (Nat.le_refl _) _
            have hVk := Kw.below hVb hsi.plt hsi.lw
            have hVc : Cs V wi.heap.size #[.string s5, .slice A5 n5 c5, .slice B5 n6 c6] := by rw [← hV]; exact Cs.new _ _ _
            have z0 : V.cell? ⟨wi.heap.size, 0, none⟩ = some (.string s5) := (hVc.cell 0).trans rfl
            have z1 : V.cell? ⟨wi.heap.size, 1, none⟩ = some (.slice A5 n5 c5) := (hVc.cell 1).trans rfl
            have z2 : V.cell? ⟨wi.heap.size, 2, none⟩ = some (.slice B5 n6 c6) := (hVc.cell 2).trans rfl
            clear hVc
            have hls : (st2 ++ ok2).length + (ss2 ++ mk2).length + kj.bud ≤ 900000 := by simp only [List.length_append]; omega
            have hmm : (st2 ++ ok2).length % 4 = 0 := by simp only [List.length_append]; omega
            have hkV := hkv.trans hVk
            have HI := Lib.hid (hI V ok (st2 ++ ok2) (ss2 ++ mk2) (.string s5, .slice A5 n5 c5, .slice B5 n6 c6) ⟨Ai, ci, Bi, di, hsi.below hVb⟩ (hnc.mono (fun k hk => (hkV.kp k (Hok.out k hk)).1) (fun _ h => h)) (fun k hk => (hkV.kp k (Hok.out k hk)).2) hIt hmm hls)
            have HE := Lib.hid (And.intro henc (And.intro htk (And.intro hb1 (And.intro hlen (And.intro hmod (And.intro (hkw.trans hVk) hbk1))))))
            clear hsi hVb hVk hkV hI hIt hls hmm hkv hgk hD hkp hkt hnc hk4 henc htk hlen hmod hkw hbk1 IH
            go_wp2_with fail
            refine HI.out.mono ?_
            rintro e w8 ⟨rfl, ob, mb, hen, hsw8, hk8, hl8, hm8⟩
            have HJ := Lib.hid (And.intro hen (And.intro hsw8 (And.intro hk8 (And.intro hl8 hm8))))
            clear hen hsw8 hk8 hl8 hm8
            go_wp2_with fail
            obtain ⟨n1, n2, n3, n4, n5', n6', n7⟩ := HE.out
            obtain ⟨j1, j2, j3, j4, j5⟩ := HJ.out
            refine ⟨⟨j + 1, hlt2, by go_num, ok2 ++ ob, mk2 ++ mb, ?_, ?_, n6'.trans j3, ?_, ?_⟩, by simp [intOf]; omega⟩
            · rw [n2]
              refine EncL.snoc (by rw [← List.append_assoc]; exact j1) ?_
              rw [← List.append_assoc]
              exact EncL.append mb n1
            · rw [← List.append_assoc, ← List.append_assoc]
              exact j2
            · rw [← n7]
              simp only [List.length_append]
              omega
            · simp only [List.length_append]
              omega
          · obtain rfl : j = ks.length := by omega
            rw [List.take_length] at henc hlen
            have HT3 := Lib.hid (stoken_walk wi p lo (st2 ++ ok2) (ss2 ++ mk2) nop hsw 2 (by omega) hnop (by simp only [List.length_append]; omega))
            have HE := Lib.hid (And.intro henc (And.intro hkw (And.intro hlen hmod)))
            clear henc hkw hlen hmod hsw
            go_wp2_with fail
            refine HT3.out.mono ?_
            rintro e w9 ⟨rfl, hsw9, hk9⟩
            obtain ⟨n1, n2, n3, n4⟩ := HE.out
            obtain ⟨l1, l2, l3, l4⟩ := Hl2.out
            have e4 : ss ++ (more ++ mk2) = ss2 ++ mk2 := by rw [l2, List.append_assoc]
            have HFIN : SnP w p lo st ss nop (.mk name ps ks) (.returned (.tuple #[])) w9 := by
              refine ⟨rfl, tok nop (1 : Nat) ++ pad4 (bytesOf name ++ [0]) ++ out ++ ok2 ++ tok nop (2 : Nat), more ++ mk2, ?_, ?_, (HK3.out.trans n2).trans hk9, ?_, ?_⟩
              · rw [e4]
                have e1 : EncP (ss2 ++ mk2) nop ps out := by rw [l2]; exact Henc.out.append mk2
                exact .mk e1 n1
              · rw [e4]
                have e2 : st ++ (tok nop (1 : Nat) ++ pad4 (bytesOf name ++ [0]) ++ out ++ ok2 ++ tok nop (2 : Nat)) = st2 ++ ok2 ++ tok nop (2 : Nat) := by
                  rw [l1, Hst.out]
                  simp only [List.append_assoc]
                rw [e2]
                exact hsw9
              · have e3 := pad4_le (bytesOf name ++ [0])
                simp only [Nd.bud, List.length_append, tok_len] at e3 ⊢
                simp [bytesOf] at e3 ⊢
                omega
              · have e3 := pad4_mod (bytesOf name ++ [0])
                simp only [List.length_append, tok_len] at e3 ⊢
                omega
            have HF := Lib.hid HFIN
            clear HFIN hsw9 hk9
            go_wp2_with fail
            go_end0
            exact HF.out
end Go.Proofs.Ytlbhadggfipckaa
