/-
  LimitedReader.Read, bufio's Reader.Read.
-/
import Derived.Test.YtlbhadggfipckaaMa21
import Derived.Test.YtlbhadggfipckaaMa18
import Derived.Deep.DeepCutAuto
set_option linter.unusedVariables false
set_option linter.unusedSimpArgs false
namespace Go.Proofs.Ytlbhadggfipckaa
open Go.RowKit

theorem m180r (z : Addr) (w : World) : (method 332 180 (.pointer (some z)) "Read").run Try.prog w = .ok (125, .pointer (some z)) w := by kernel_rfl
theorem n180r (z : Addr) (w : World) : (nilAhead 332 180 (.pointer (some z)) "Read").run Try.prog w = .ok (some false) w := by kernel_rfl
theorem m178r (z : Addr) (w : World) : (method 332 178 (.pointer (some z)) "Read").run Try.prog w = .ok (121, .pointer (some z)) w := by kernel_rfl
theorem n178r (z : Addr) (w : World) : (nilAhead 332 178 (.pointer (some z)) "Read").run Try.prog w = .ok (some false) w := by kernel_rfl
theorem m177r (z : Addr) (w : World) : (method 332 177 (.pointer (some z)) "Read").run Try.prog w = .ok (120, .pointer (some z)) w := by kernel_rfl
theorem n177r (z : Addr) (w : World) : (nilAhead 332 177 (.pointer (some z)) "Read").run Try.prog w = .ok (some false) w := by kernel_rfl

/-- A LimitedReader at block lr over a reader of bytes at block r: N bytes are left to it. -/
structure LS (w : World) (lr r : Nat) (dk : Nat → Prop) (A : Option Addr) (c : Nat) (dt : List UInt8) (i N : Nat) : Prop where
  cs : Cs w lr #[.iface 142 (.pointer (some ⟨r, 0, none⟩)), .int .i64 N]
  br : BR w r dk A c dt i
  ne : lr ≠ r
  nd : ¬ dk lr
  fit : i + N ≤ dt.length

theorem LS.keep {w w' : World} {lr r : Nat} {dk : Nat → Prop} {A : Option Addr} {c : Nat} {dt : List UInt8} {i N : Nat} (h : LS w lr r dk A c dt i N) (hl : w'.heap[lr]? = w.heap[lr]?) (hr : w'.heap[r]? = w.heap[r]?) (hs : Same dk w w') : LS w' lr r dk A c dt i N :=
  ⟨h.cs.keep hl, h.br.keep hr hs, h.ne, h.nd, h.fit⟩

def LrPost (w : World) (lr r : Nat) (dk : Nat → Prop) (A : Option Addr) (c : Nat) (dt : List UInt8) (i N : Nat) (g off m : Nat) (cur : List Value) (e : Ending) (w' : World) : Prop :=
  ∃ l, l = ((dt.drop i).take N).take m ∧ e = .returned (.tuple #[.int .i64 l.length, if N = 0 then eofV else .nilIface]) ∧ LS w' lr r dk A c dt (i + l.length) (N - l.length) ∧ Cs w' g (splice cur off (l.map bv)).toArray ∧ Fr w.heap.size (fun k => k = g ∨ k = lr ∨ k = r) w w'

set_option maxHeartbeats 1000000 in
theorem lr_read (w : World) (lr r : Nat) (dk : Nat → Prop) (A : Option Addr) (c : Nat) (dt : List UInt8) (i N : Nat) (h : LS w lr r dk A c dt i N) (g off m cP : Nat) (cur : List Value) (hg : Cs w g cur.toArray) (hgl : g ≠ lr) (hgr : g ≠ r) (hgd : ¬ dk g) (hfit : off + m ≤ cur.length) (hm : m ≤ 100000) (hmc : m ≤ cP) (hm0 : 0 < m) (hcP : cP ≤ 100000) :
    Calls Try.prog 125 #[.pointer (some ⟨lr, 0, none⟩), .slice (some ⟨g, off, none⟩) m cP] w (LrPost w lr r dk A c dt i N g off m cur) := by
  have hmt := m142r
  have hnl := n142r
  have c0 : w.cell? ⟨lr, 0, none⟩ = some (.iface 142 (.pointer (some ⟨r, 0, none⟩))) := (h.cs.cell 0).trans rfl
  have c1 : w.cell? ⟨lr, 1, none⟩ = some (.int .i64 N) := (h.cs.cell 1).trans rfl
  have hsm := h.br.sm
  have hft := h.fit
  have Hh := Lib.hid (And.intro h hg)
  clear h hg
  by_cases h0 : N = 0
  · subst h0
    go_enter Try.func125, Try.ntmps125
    go_wp2_with fail
    go_ret2
    refine ⟨[], by simp, by simp [eofV], by simpa using Hh.out.1, ?_, Fr.refl _ _ _⟩
    rw [List.map_nil, splice_nil]
    exact Hh.out.2
  have hN1 : decide ((N : Int) ≤ 0) = false := decide_eq_false (by omega)
  have fin : ∀ (m2 : Nat) (e : Ending) (w1 : World), m2 = min m N → BrPost w r dk A c dt i g off m2 cur e w1 → ∃ l, l = ((dt.drop i).take N).take m ∧ l.length = m2 ∧ e = .returned (.tuple #[.int .i64 l.length, .nilIface]) ∧ BR w1 r dk A c dt (i + l.length) ∧ Cs w1 g (splice cur off (l.map bv)).toArray ∧ Fr w.heap.size (fun k => k = g ∨ k = r) w w1 := fun m2 e w1 hm2 hp => by
    obtain ⟨l, hl, he, hb, hc, hf⟩ := hp
    refine ⟨l, ?_, ?_, ?_, hb, hc, hf⟩
    · rw [hl, hm2, List.take_take, Nat.min_comm]
    · rw [hl, List.length_take, List.length_drop, hm2]; omega
    · rw [he, if_pos (by omega)]
  have Fin := Lib.hid fin
  clear fin
  have rd := fun (m2 c2 : Nat) (hm2 : m2 ≤ m) => br_read w r dk A c dt i Hh.out.1.br g off m2 c2 cur Hh.out.2 hgr hgd (by omega) (by omega) (by omega)
  have Hrd := Lib.hid rd
  clear rd
  have post : ∀ (l : List UInt8) (w1 : World), l = ((dt.drop i).take N).take m → l.length ≤ N → BR w1 r dk A c dt (i + l.length) → Cs w1 g (splice cur off (l.map bv)).toArray → Fr w.heap.size (fun k => k = g ∨ k = r) w w1 →
      LrPost w lr r dk A c dt i N g off m cur (.returned (.tuple #[.int .i64 l.length, .nilIface])) (w1.setCell ⟨lr, 1, none⟩ (.int .i64 ((N : Int) - (l.length : Int)))) := fun l w1 hl hlN hb hc hf => by
    refine ⟨l, hl, by rw [if_neg h0], ⟨?_, hb.keep (Below.heap_setCell _ _ _ _ (Ne.symm Hh.out.1.ne)) (fun k hk => Below.heap_setCell _ _ _ _ (fun e => Hh.out.1.nd (by simp at e; rw [← e]; exact hk))), Hh.out.1.ne, Hh.out.1.nd, by omega⟩, hc.far hgl _, (hf.mono (Nat.le_refl _) (fun _ _ h => h.imp id .inr)).setCell (p := ⟨lr, 1, none⟩) (.inr (.inr (.inl rfl))) _⟩
    have := (Hh.out.1.cs.fr2 hf (fun h => h.elim (fun e => hgl e.symm) Hh.out.1.ne)).set_ 1 (.int .i64 ((N : Int) - (l.length : Int)))
    rw [show ((N : Int) - (l.length : Int)) = ((N - l.length : Nat) : Int) by omega] at this ⊢
    simpa using this
  have Post := Lib.hid post
  clear post
  by_cases hmN : m ≤ N
  · have hd : decide ((N : Int) < (m : Int)) = false := decide_eq_false (by omega)
    go_enter Try.func125, Try.ntmps125
    go_wp2_with fail
    refine (Hrd.out m cP (Nat.le_refl _)).mono ?_
    intro e w1 hp
    obtain ⟨l, hl, hlm, rfl, hb, hc, hf⟩ := Fin.out m e w1 (by omega) hp
    have q := Hh.out.1.cs.fr2 hf (fun h => h.elim (fun e => hgl e.symm) Hh.out.1.ne)
    have k1 : w1.cell? ⟨lr, 1, none⟩ = some (.int .i64 N) := (q.cell 1).trans rfl
    have f1 := q.frozen 1
    have hsub : IntKind.i64.wrap ((N : Int) - (l.length : Int)) = (N : Int) - (l.length : Int) := by simp only [IntKind.wrap, IntKind.bits, IntKind.signed]; simp; omega
    have HF := Lib.hid (Post.out l w1 hl (by omega) hb hc hf)
    clear hp hl hlm hb hc hf q
    go_wp2_with fail
    go_ret2
    exact HF.out
  · have hd : decide ((N : Int) < (m : Int)) = true := decide_eq_true (by omega)
    have hNc : (N : Int) ≤ (cP : Int) := by omega
    have hc0 : ¬ cP = 0 := by omega
    go_enter Try.func125, Try.ntmps125
    go_wp2_with fail
    refine (Hrd.out N cP (by omega)).mono ?_
    intro e w1 hp
    obtain ⟨l, hl, hlm, rfl, hb, hc, hf⟩ := Fin.out N e w1 (by omega) hp
    have q := Hh.out.1.cs.fr2 hf (fun h => h.elim (fun e => hgl e.symm) Hh.out.1.ne)
    have k1 : w1.cell? ⟨lr, 1, none⟩ = some (.int .i64 N) := (q.cell 1).trans rfl
    have f1 := q.frozen 1
    have hsub : IntKind.i64.wrap ((N : Int) - (l.length : Int)) = (N : Int) - (l.length : Int) := by simp only [IntKind.wrap, IntKind.bits, IntKind.signed]; simp; omega
    have HF := Lib.hid (Post.out l w1 hl (by omega) hb hc hf)
    clear hp hl hlm hb hc hf q
    go_wp2_with fail
    go_ret2
    exact HF.out

/-- bufio's Reader at block b, its buffer at block bb (read from RR, written to WW), over a LimitedReader: the bytes pre are there. -/
structure BF (w : World) (b bb lr r : Nat) (dk : Nat → Prop) (A : Option Addr) (c : Nat) (dt : List UInt8) (i N RR WW : Nat) (buf : List Value) (pre : List UInt8) : Prop where
  cs : ∃ x y : Int, Cs w b #[.slice (some ⟨bb, 0, none⟩) 4096 4096, .iface 180 (.pointer (some ⟨lr, 0, none⟩)), .int .i64 RR, .int .i64 WW, .nilIface, .int .i64 x, .int .i64 y]
  bc : Cs w bb buf.toArray
  bl : buf.length = 4096
  rw : RR ≤ WW
  wl : WW ≤ 4096
  pe : (buf.drop RR).take (WW - RR) = pre.map bv
  ls : LS w lr r dk A c dt i N
  ne : b ≠ bb ∧ b ≠ lr ∧ b ≠ r ∧ ¬ dk b ∧ bb ≠ lr ∧ bb ≠ r ∧ ¬ dk bb

theorem BF.plen {w : World} {b bb lr r : Nat} {dk : Nat → Prop} {A : Option Addr} {c : Nat} {dt : List UInt8} {i N RR WW : Nat} {buf : List Value} {pre : List UInt8} (h : BF w b bb lr r dk A c dt i N RR WW buf pre) : pre.length = WW - RR := by
  have e := congrArg List.length h.pe
  have := h.bl
  have := h.wl
  have := h.rw
  rw [List.length_take, List.length_drop, List.length_map] at e
  omega

def BX (b bb lr r : Nat) (dk : Nat → Prop) : Nat → Prop := fun k => k = b ∨ k = bb ∨ k = lr ∨ k = r ∨ dk k

theorem BF.keep {w w' : World} {b bb lr r : Nat} {dk : Nat → Prop} {A : Option Addr} {c : Nat} {dt : List UInt8} {i N RR WW : Nat} {buf : List Value} {pre : List UInt8} (h : BF w b bb lr r dk A c dt i N RR WW buf pre) (hs : Same (BX b bb lr r dk) w w') : BF w' b bb lr r dk A c dt i N RR WW buf pre := by
  obtain ⟨x, y, hc⟩ := h.cs
  exact ⟨⟨x, y, hc.keep (hs b (.inl rfl))⟩, h.bc.keep (hs bb (.inr (.inl rfl))), h.bl, h.rw, h.wl, h.pe, h.ls.keep (hs lr (.inr (.inr (.inl rfl)))) (hs r (.inr (.inr (.inr (.inl rfl))))) (fun k hk => hs k (.inr (.inr (.inr (.inr hk))))), h.ne⟩

/-- The state, with what is left. -/
def BfSt (b bb lr r : Nat) (dk : Nat → Prop) (A : Option Addr) (c : Nat) (dt : List UInt8) (w : World) (rest : List UInt8) : Prop :=
  ∃ i N RR WW buf pre, BF w b bb lr r dk A c dt i N RR WW buf pre ∧ rest = pre ++ (dt.drop i).take N

set_option maxHeartbeats 1000000 in
theorem readErr_walk (w : World) (b : Nat) (c0 c1 c2 c3 c5 c6 e0 : Value) (h : Cs w b #[c0, c1, c2, c3, e0, c5, c6]) (he : e0 = .nilIface ∨ e0 = eofV) :
    Calls Try.prog 124 #[.pointer (some ⟨b, 0, none⟩)] w fun e w' => e = .returned e0 ∧ w' = w.setCell ⟨b, 4, none⟩ .nilIface := by
  have k4 : w.cell? ⟨b, 4, none⟩ = some e0 := (h.cell 4).trans rfl
  have f4 := h.frozen 4
  clear h
  rcases he with rfl | rfl
  · go_enter Try.func124, Try.ntmps124
    go_wp2_with fail
    go_ret
    exact ⟨rfl, rfl⟩
  · unfold eofV at *
    go_enter Try.func124, Try.ntmps124
    go_wp2_with fail
    go_ret
    exact ⟨rfl, rfl⟩

set_option maxRecDepth 20000 in
set_option maxHeartbeats 4000000 in
theorem bf_read (w : World) (b bb lr r : Nat) (dk : Nat → Prop) (A : Option Addr) (c : Nat) (dt rest : List UInt8) (hst : BfSt b bb lr r dk A c dt w rest) (g off m cP : Nat) (cur : List Value) (hg : Cs w g cur.toArray) (hgX : ¬ BX b bb lr r dk g) (hm0 : 0 < m) (hm : m ≤ 4000) (hfit : off + m ≤ cur.length) :
    Calls Try.prog 121 #[.pointer (some ⟨b, 0, none⟩), .slice (some ⟨g, off, none⟩) m cP] w (RdPost (BfSt b bb lr r dk A c dt) (BX b bb lr r dk) w rest g off m cur) := by
  obtain ⟨i, N, RR, WW, buf, pre, hbf, hrest⟩ := hst
  have hmt := m180r
  have hnl := n180r
  obtain ⟨hbbb, hblr, hbr, hbd, hbblr, hbbr, hbbd⟩ := hbf.ne
  obtain ⟨hgb, hgbb, hglr, hgr, hgd⟩ : g ≠ b ∧ g ≠ bb ∧ g ≠ lr ∧ g ≠ r ∧ ¬ dk g := ⟨fun e => hgX (.inl e), fun e => hgX (.inr (.inl e)), fun e => hgX (.inr (.inr (.inl e))), fun e => hgX (.inr (.inr (.inr (.inl e)))), fun e => hgX (.inr (.inr (.inr (.inr e))))⟩
  obtain ⟨x0, y0, hbc⟩ := hbf.cs
  have hrw := hbf.rw
  have hwl := hbf.wl
  have hpl := hbf.plen
  have v2 : w.cell? ⟨b, 2, none⟩ = some (.int .i64 RR) := (hbc.cell 2).trans rfl
  have v3 : w.cell? ⟨b, 3, none⟩ = some (.int .i64 WW) := (hbc.cell 3).trans rfl
  have hmz : ((m : Int) == 0) = false := by simp; omega
  have Hbf := Lib.hid hbf
  have Hr := Lib.hid hrest
  have Hg := Lib.hid hg
  have Hbc := Lib.hid hbc
  clear hbf hrest hg hbc hgX
  go_enter Try.func121, Try.ntmps121
  go_upto_region 6 with (fail)
  go_cut [23] from 6 (fun s w' => s = .bool ((RR : Int) == (WW : Int)) ∧ ∃ nq, w' = w.drewN nq)
  case first =>
    go_quiet (fail)
    go_wp2_with fail
    go_meet
    case rel => exact ⟨rfl, nq, rfl⟩
  case rest =>
    obtain ⟨rfl, nq, rfl⟩ := hcut
    have Hbf' := Lib.hid (Hbf.out.keep (w' := w.drewN nq) (fun k _ => rfl))
    have Hg' := Lib.hid (Hg.out.drewN nq)
    have Hbc' := Lib.hid (Hbc.out.drewN nq)
    clear Hbf Hg Hbc v2 v3
    have Hbf := Hbf'
    have Hg := Hg'
    have Hbc := Hbc'
    clear Hbf' Hg' Hbc'
    have hDr : Fr w.heap.size (BX b bb lr r dk) w (w.drewN nq) := (Fr.refl _ _ _).drewN _
    obtain ⟨w0, hw0⟩ : ∃ w0, w0 = w.drewN nq := ⟨_, rfl⟩
    rw [← hw0] at Hbf Hg Hbc hDr ⊢
    have hz0 : w0.heap.size = w.heap.size := by rw [hw0]; rfl
    clear hw0
    go_upto_if 23 with (fail)
    go_cut [] from 6 (fun w' => ∃ i' N' RR' WW' buf' pre', BF w' b bb lr r dk A c dt i' N' RR' WW' buf' pre' ∧ RR' < WW' ∧ rest = pre' ++ (dt.drop i').take N' ∧ Cs w' g cur.toArray ∧ Fr w.heap.size (BX b bb lr r dk) w w')
    case first =>
      by_cases heq : RR = WW
      case neg =>
        have hd : ((RR : Int) == (WW : Int)) = false := by simp; omega
        rw [hd]
        have HM := Lib.hid (show ∃ i' N' RR' WW' buf' pre', BF w0 b bb lr r dk A c dt i' N' RR' WW' buf' pre' ∧ RR' < WW' ∧ rest = pre' ++ (dt.drop i').take N' ∧ Cs w0 g cur.toArray ∧ Fr w.heap.size (BX b bb lr r dk) w w0 from ⟨i, N, RR, WW, buf, pre, Hbf.out, by omega, Hr.out, Hg.out, hDr⟩)
        clear hd heq
        go_wp2_with fail
        go_meet
        case rel => exact HM.out
      have hd : ((RR : Int) == (WW : Int)) = true := by simp; omega
      rw [hd]
      have hpre : pre = [] := List.eq_nil_of_length_eq_zero (by omega)
      have hrest : rest = (dt.drop i).take N := by rw [Hr.out, hpre]; rfl
      have v4 : w0.cell? ⟨b, 4, none⟩ = some .nilIface := (Hbc.out.cell 4).trans rfl
      have v0' : w0.cell? ⟨b, 0, none⟩ = some (.slice (some ⟨bb, 0, none⟩) 4096 4096) := (Hbc.out.cell 0).trans rfl
      have v2 : w0.cell? ⟨b, 2, none⟩ = some (.int .i64 RR) := (Hbc.out.cell 2).trans rfl
      have v3 : w0.cell? ⟨b, 3, none⟩ = some (.int .i64 WW) := (Hbc.out.cell 3).trans rfl
      have f2 := Hbc.out.frozen 2
      have f3 := Hbc.out.frozen 3
      have h4096 : decide ((4096 : Int) ≤ (m : Int)) = false := decide_eq_false (by omega)
      have hb3 := (Hbc.out.set_ 2 (.int .i64 0)).set_ 3 (.int .i64 0)
      simp only [List.setIfInBounds_toArray, List.set_cons_zero, List.set_cons_succ] at hb3
      obtain ⟨W1, hW1⟩ : ∃ W1, W1 = (w0.setCell ⟨b, 2, none⟩ (.int .i64 0)).setCell ⟨b, 3, none⟩ (.int .i64 0) := ⟨_, rfl⟩
      rw [← hW1] at hb3
      have hk1 : ∀ k, k ≠ b → W1.heap[k]? = w0.heap[k]? := fun k hk => by rw [hW1, Below.heap_setCell _ _ _ _ hk, Below.heap_setCell _ _ _ _ hk]
      have hF1 : Fr w.heap.size (BX b bb lr r dk) w W1 := by rw [hW1]; exact (hDr.setCell (p := ⟨b, 2, none⟩) (.inr (.inl rfl)) _).setCell (p := ⟨b, 3, none⟩) (.inr (.inl rfl)) _
      have hls1 : LS W1 lr r dk A c dt i N := Hbf.out.ls.keep (hk1 lr (Ne.symm hblr)) (hk1 r (Ne.symm hbr)) (fun k hk => hk1 k (fun e => hbd (e ▸ hk)))
      have hbb1 : Cs W1 bb buf.toArray := Hbf.out.bc.keep (hk1 bb (Ne.symm hbbb))
      have hg1 : Cs W1 g cur.toArray := Hg.out.keep (hk1 g hgb)
      have HL := Lib.hid (lr_read W1.drew lr r dk A c dt i N (hls1.keep rfl rfl (fun k hk => rfl)) bb 0 4096 4096 buf hbb1.drew hbblr hbbr hbbd (by rw [Hbf.out.bl]; exact Nat.le_refl _) (by omega) (by omega) (by omega) (by omega))
      have v0 : W1.cell? ⟨b, 0, none⟩ = some (.slice (some ⟨bb, 0, none⟩) 4096 4096) := (hb3.cell 0).trans rfl
      have v1 : W1.cell? ⟨b, 1, none⟩ = some (.iface 180 (.pointer (some ⟨lr, 0, none⟩))) := (hb3.cell 1).trans rfl
      have Hb3 := Lib.hid hb3
      have HA1 := Lib.hid (And.intro hF1 (And.intro hg1 hrest))
      have HW1 := Lib.hid hW1
      clear hb3 hW1 hk1 hF1 hls1 hbb1 hg1 hd hpre hrest heq
      go_wp2_with fail
      rw [← HW1.out]
      clear v4 v0' v2 v3 f2 f3
      have fin5 : ∀ (w5 : World) (l5 : List UInt8), Fr W1.drew.heap.size (fun k => k = bb ∨ k = lr ∨ k = r) W1.drew w5 → Cs w5 g cur.toArray ∧ Fr w.heap.size (BX b bb lr r dk) w w5 := fun w5 l5 hf5 =>
        ⟨HA1.out.2.1.drew.fr2 hf5 (fun h => h.elim hgbb (fun h => h.elim hglr hgr)), HA1.out.1.drew.trans (hf5.mono HA1.out.1.size (fun k _ h => h.elim (fun h => .inr (.inl h)) (fun h => h.elim (fun h => .inr (.inr (.inl h))) (fun h => .inr (.inr (.inr (.inl h)))))))⟩
      have Fin5 := Lib.hid fin5
      clear fin5
      by_cases hN : N = 0
      · skip
        refine wp_region_plan (fun w' => w'.cell? ⟨b, 0, none⟩ = some (.slice (some ⟨bb, 0, none⟩) 4096 4096) ∧ w'.cell? ⟨b, 1, none⟩ = some (.iface 180 (.pointer (some ⟨lr, 0, none⟩)))) 18 (.quiet 0 (.quiet 1 (.quiet 2 (.quiet 3 (.quiet 4 (.quiet 5 (.quiet 6 (.quiet 7 (.quiet 8 (.quiet 9 (.quiet 10 (.eff 11 (.quiet 12 (.quiet 13 (.quiet 14 (.quiet 15 (.quiet 16 (.quiet 17 (.eff 18 .done))))))))))))))))))) (by kernel_rfl) (by kernel_rfl) ⟨v0, v1⟩ ?_
        simp only [planO, opAt, List.getElem?_toArray, List.getElem?_cons_zero, List.getElem?_cons_succ, Option.getD_some, Nat.reduceBEq]
        iterate 11
          refine' SeqT.quiet (by rfl) ?_ ?_
          rotate_left
          · rintro w' ⟨hS1, hS2⟩
            go_simp
            try with_reducible rfl
          try simp only [Act.put, List.setIfInBounds_toArray, List.set_cons_zero, List.set_cons_succ]
        refine SeqT.eff ?_ ?_
        · rfl
        intro K hK
        go_simp
        refine HL.out.mono ?_
        rintro e w5 ⟨l5, hl5, he5, hls5, hbb5, hf5⟩
        rw [if_pos hN] at he5
        unfold eofV at he5
        subst he5
        have hb5 := Hb3.out.drew.fr2 hf5 (fun h => h.elim hbbb (fun h => h.elim hblr hbr))
        have f54 := hb5.frozen 4
        have v54 : w5.cell? ⟨b, 4, none⟩ = some .nilIface := (hb5.cell 4).trans rfl
        have hll5 : l5.length = min 4096 N := by rw [hl5, List.length_take, List.length_take, List.length_drop]; have := Hbf.out.ls.fit; omega
        have H5 := Lib.hid (And.intro hl5 (And.intro hls5 (And.intro hbb5 (And.intro hf5 (And.intro hb5 hll5)))))
        clear hl5 hls5 hbb5 hf5 hll5
        refine hK.out _ _ (.inr ⟨(hb5.cell 0).trans rfl, (hb5.cell 1).trans rfl⟩) ?_
        clear hK K
        try simp only [Act.put, List.setIfInBounds_toArray, List.set_cons_zero, List.set_cons_succ]
        iterate 6
          refine' SeqT.quiet (by rfl) ?_ ?_
          rotate_left
          · rintro w' ⟨hS1, hS2⟩
            go_simp
            try with_reducible rfl
          try simp only [Act.put, List.setIfInBounds_toArray, List.set_cons_zero, List.set_cons_succ]
        refine SeqT.last ?_ ?_
        · rfl
        intro K hK
        go_simp
        refine hK.out _ _ ?_
        clear hK K
        obtain ⟨hl5, hls5, hbb5, hf5, hb5', hll5⟩ := H5.out
        obtain ⟨hg5, hF5⟩ := Fin5.out w5 l5 hf5
        obtain rfl : l5 = [] := List.eq_nil_of_length_eq_zero (by omega)
        have hb6 := hb5'.set_ 4 (.iface 207 (.string ⟨#[69, 79, 70]⟩))
        simp only [List.setIfInBounds_toArray, List.set_cons_zero, List.set_cons_succ] at hb6
        have HE := Lib.hid (readErr_walk _ b _ _ _ _ _ _ eofV hb6 (.inr rfl))
        have hb7 := hb6.set_ 4 .nilIface
        simp only [List.setIfInBounds_toArray, List.set_cons_zero, List.set_cons_succ] at hb7
        have hrest0 : rest = [] := by rw [HA1.out.2.2, hN]; simp
        have hbuf0 : splice buf 0 (([] : List UInt8).map bv) = buf := by rw [List.map_nil, splice_nil]
        rw [hbuf0] at hbb5
        have HFIN := Lib.hid (show RdPost (BfSt b bb lr r dk A c dt) (BX b bb lr r dk) w rest g off m cur (.returned (.tuple #[.int .i64 0, eofV])) ((w5.setCell ⟨b, 4, none⟩ (.iface 207 (.string ⟨#[69, 79, 70]⟩))).setCell ⟨b, 4, none⟩ .nilIface) from by
          refine ⟨[], [], by rw [hrest0]; rfl, by simp, fun h => absurd hrest0 h, by rw [hrest0]; rfl, ⟨i, N, 0, 0, buf, [], ⟨⟨x0, y0, hb7⟩, (hbb5.far (p := ⟨b, 4, none⟩) (Ne.symm hbbb) _).far (p := ⟨b, 4, none⟩) (Ne.symm hbbb) _, Hbf.out.bl, Nat.le_refl _, by omega, by simp, ?_, Hbf.out.ne⟩, by rw [hN]; simp⟩, ?_, ?_⟩
          · have e1 : i + ([] : List UInt8).length = i := rfl
            have e2 : N - ([] : List UInt8).length = N := rfl
            rw [e1, e2] at hls5
            have hk : ∀ k, k ≠ b → ((w5.setCell ⟨b, 4, none⟩ (.iface 207 (.string ⟨#[69, 79, 70]⟩))).setCell ⟨b, 4, none⟩ .nilIface).heap[k]? = w5.heap[k]? := fun k hk => by rw [Below.heap_setCell _ _ _ _ hk, Below.heap_setCell _ _ _ _ hk]
            exact hls5.keep (hk lr (Ne.symm hblr)) (hk r (Ne.symm hbr)) (fun k hk' => hk k (fun e => hbd (e ▸ hk')))
          · rw [List.map_nil, splice_nil]
            exact (hg5.far (p := ⟨b, 4, none⟩) hgb _).far (p := ⟨b, 4, none⟩) hgb _
          · exact ((hF5.mono (X' := fun k => k = g ∨ BX b bb lr r dk k) (Nat.le_refl _) (fun _ _ h => .inr h)).setCell (p := ⟨b, 4, none⟩) (.inr (.inr (.inl rfl))) _).setCell (p := ⟨b, 4, none⟩) (.inr (.inr (.inl rfl))) _)
        have hl00 : ((([] : List UInt8).length : Nat) : Int) = 0 := rfl
        unfold eofV at HE HFIN
        clear hl5 hls5 hbb5 hf5 hb5' hll5 hg5 hF5 hb6 hb7 hrest0 hbuf0 hb5 H5
        go_wp2_with fail
        refine HE.out.mono ?_
        rintro e w8 ⟨rfl, rfl⟩
        go_wp2_with fail
        go_ret2
        exact HFIN.out
      · skip
        refine wp_region_plan (fun w' => w'.cell? ⟨b, 0, none⟩ = some (.slice (some ⟨bb, 0, none⟩) 4096 4096) ∧ w'.cell? ⟨b, 1, none⟩ = some (.iface 180 (.pointer (some ⟨lr, 0, none⟩)))) 18 (.quiet 0 (.quiet 1 (.quiet 2 (.quiet 3 (.quiet 4 (.quiet 5 (.quiet 6 (.quiet 7 (.quiet 8 (.quiet 9 (.quiet 10 (.eff 11 (.quiet 12 (.quiet 13 (.quiet 14 (.quiet 15 (.quiet 16 (.quiet 17 (.eff 18 .done))))))))))))))))))) (by kernel_rfl) (by kernel_rfl) ⟨v0, v1⟩ ?_
        simp only [planO, opAt, List.getElem?_toArray, List.getElem?_cons_zero, List.getElem?_cons_succ, Option.getD_some, Nat.reduceBEq]
        iterate 11
          refine' SeqT.quiet (by rfl) ?_ ?_
          rotate_left
          · rintro w' ⟨hS1, hS2⟩
            go_simp
            try with_reducible rfl
          try simp only [Act.put, List.setIfInBounds_toArray, List.set_cons_zero, List.set_cons_succ]
        refine SeqT.eff ?_ ?_
        · rfl
        intro K hK
        go_simp
        refine HL.out.mono ?_
        rintro e w5 ⟨l5, hl5, he5, hls5, hbb5, hf5⟩
        rw [if_neg hN] at he5
        subst he5
        have hb5 := Hb3.out.drew.fr2 hf5 (fun h => h.elim hbbb (fun h => h.elim hblr hbr))
        have f54 := hb5.frozen 4
        have v54 : w5.cell? ⟨b, 4, none⟩ = some .nilIface := (hb5.cell 4).trans rfl
        have hll5 : l5.length = min 4096 N := by rw [hl5, List.length_take, List.length_take, List.length_drop]; have := Hbf.out.ls.fit; omega
        have H5 := Lib.hid (And.intro hl5 (And.intro hls5 (And.intro hbb5 (And.intro hf5 (And.intro hb5 hll5)))))
        clear hl5 hls5 hbb5 hf5 hll5
        refine hK.out _ _ (.inr ⟨(hb5.cell 0).trans rfl, (hb5.cell 1).trans rfl⟩) ?_
        clear hK K
        try simp only [Act.put, List.setIfInBounds_toArray, List.set_cons_zero, List.set_cons_succ]
        iterate 6
          refine' SeqT.quiet (by rfl) ?_ ?_
          rotate_left
          · rintro w' ⟨hS1, hS2⟩
            go_simp
            try with_reducible rfl
          try simp only [Act.put, List.setIfInBounds_toArray, List.set_cons_zero, List.set_cons_succ]
        refine SeqT.last ?_ ?_
        · rfl
        intro K hK
        go_simp
        refine hK.out _ _ ?_
        clear hK K
        obtain ⟨hl5, hls5, hbb5, hf5, hb5', hll5⟩ := H5.out
        obtain ⟨hg5, hF5⟩ := Fin5.out w5 l5 hf5
        have hl1 : 1 ≤ l5.length ∧ l5.length ≤ 4096 ∧ l5.length ≤ N := by omega
        have hb6 := hb5'.set_ 4 .nilIface
        simp only [List.setIfInBounds_toArray, List.set_cons_zero, List.set_cons_succ] at hb6
        have hb7 := hb6.set_ 3 (.int .i64 (l5.length : Int))
        simp only [List.setIfInBounds_toArray, List.set_cons_zero, List.set_cons_succ] at hb7
        have hls7 : LS ((w5.setCell ⟨b, 4, none⟩ .nilIface).setCell ⟨b, 3, none⟩ (.int .i64 (l5.length : Int))) lr r dk A c dt (i + l5.length) (N - l5.length) := by
          have hk : ∀ k, k ≠ b → ((w5.setCell ⟨b, 4, none⟩ .nilIface).setCell ⟨b, 3, none⟩ (.int .i64 (l5.length : Int))).heap[k]? = w5.heap[k]? := fun k hk => by rw [Below.heap_setCell _ _ _ _ hk, Below.heap_setCell _ _ _ _ hk]
          exact hls5.keep (hk lr (Ne.symm hblr)) (hk r (Ne.symm hbr)) (fun k hk' => hk k (fun e => hbd (e ▸ hk')))
        have hbl5 : (splice buf 0 (l5.map bv)).length = 4096 := by rw [length_splice _ _ _ (by rw [Hbf.out.bl, List.length_map]; omega)]; exact Hbf.out.bl
        have hpe5 : ((splice buf 0 (l5.map bv)).drop 0).take (l5.length - 0) = l5.map bv := by
          simp [splice]
        have hre5 : rest = l5 ++ (dt.drop (i + l5.length)).take (N - l5.length) := by
          rw [HA1.out.2.2, ← List.drop_drop, ← List.take_append_drop l5.length ((dt.drop i).take N)]
          congr 1
          · rw [hl5, List.length_take, List.length_take, List.length_drop]
            rw [List.take_take, List.take_take]
            congr 1
            have := Hbf.out.ls.fit
            omega
          · rw [List.drop_take]
        have HM := Lib.hid (show ∃ i' N' RR' WW' buf' pre', BF ((w5.setCell ⟨b, 4, none⟩ .nilIface).setCell ⟨b, 3, none⟩ (.int .i64 (l5.length : Int))) b bb lr r dk A c dt i' N' RR' WW' buf' pre' ∧ RR' < WW' ∧ rest = pre' ++ (dt.drop i').take N' ∧ Cs ((w5.setCell ⟨b, 4, none⟩ .nilIface).setCell ⟨b, 3, none⟩ (.int .i64 (l5.length : Int))) g cur.toArray ∧ Fr w.heap.size (BX b bb lr r dk) w ((w5.setCell ⟨b, 4, none⟩ .nilIface).setCell ⟨b, 3, none⟩ (.int .i64 (l5.length : Int))) from
          ⟨i + l5.length, N - l5.length, 0, l5.length, splice buf 0 (l5.map bv), l5, ⟨⟨x0, y0, hb7⟩, (hbb5.far (p := ⟨b, 4, none⟩) (Ne.symm hbbb) _).far (p := ⟨b, 3, none⟩) (Ne.symm hbbb) _, hbl5, by omega, by omega, hpe5, hls7, Hbf.out.ne⟩, by omega, hre5, (hg5.far (p := ⟨b, 4, none⟩) hgb _).far (p := ⟨b, 3, none⟩) hgb _, (hF5.setCell (p := ⟨b, 4, none⟩) (.inr (.inl rfl)) _).setCell (p := ⟨b, 3, none⟩) (.inr (.inl rfl)) _⟩)
        have d1 : decide ((l5.length : Int) < 0) = false := decide_eq_false (by omega)
        have d2 : ((l5.length : Int) == 0) = false := by rw [beq_eq_false_iff_ne]; omega
        have k3 : w5.cell? ⟨b, 3, none⟩ = some (.int .i64 0) := (hb5'.cell 3).trans rfl
        have f53 := hb5'.frozen 3
        have hwl5 : IntKind.i64.wrap (l5.length : Int) = (l5.length : Int) := by simp only [IntKind.wrap, IntKind.bits, IntKind.signed]; simp; omega
        clear hl5 hls5 hbb5 hf5 hb5' hll5 hg5 hF5 hb6 hb7 hls7 hbl5 hpe5 hre5 hb5 H5
        go_wp2_with fail
        go_meet
        case rel => exact HM.out
    case rest =>
      clear Hbf Hg Hbc Hr hrw hwl hpl hDr hz0
      clear x0 y0 i N RR WW buf pre w0
      obtain ⟨i, N, RR, WW, buf, pre, hbf, hlt, hrest, hg, hFc⟩ := hcut
      obtain ⟨x0, y0, hbc⟩ := hbf.cs
      have hbl := hbf.bl
      have hwl := hbf.wl
      have hpl := hbf.plen
      have hbg : ¬ b = g := Ne.symm hgb
      have hbbg : ¬ bb = g := Ne.symm hgbb
      have t0 : wc.cell? ⟨b, 0, none⟩ = some (.slice (some ⟨bb, 0, none⟩) 4096 4096) := (hbc.cell 0).trans rfl
      have t2 : wc.cell? ⟨b, 2, none⟩ = some (.int .i64 (RR : Nat)) := (hbc.cell 2).trans rfl
      have t3 : wc.cell? ⟨b, 3, none⟩ = some (.int .i64 (WW : Nat)) := (hbc.cell 3).trans rfl
      obtain ⟨l, hl⟩ : ∃ l, l = pre.take m := ⟨_, rfl⟩
      have Hll := Lib.hid (show l.length = min (WW - RR) m by rw [hl, List.length_take, hpl]; omega)
      have Hl := Lib.hid hl
      have hget : ∀ j u, (l.map bv)[j]? = some u → wc.cell? ⟨bb, RR + j, none⟩ = some u := fun j u hu => by
        have hj := (List.getElem?_eq_some_iff.1 hu).1
        rw [List.length_map, Hll.out] at hj
        rw [hl, List.map_take, List.getElem?_take_of_lt (by omega), ← hbf.pe, List.getElem?_take_of_lt (by omega), List.getElem?_drop] at hu
        rw [hbf.bc.cell]
        simpa using hu
      have Hrd := Lib.hid (show Rd wc.drew (some ⟨bb, RR, none⟩) (l.map bv) from .inr ⟨bb, RR, rfl, fun j u hu => hget j u hu⟩)
      have Hget := Lib.hid hget
      have Hbc := Lib.hid hbc
      have Hbf := Lib.hid hbf
      have Hg := Lib.hid hg
      have HA := Lib.hid (And.intro hrest hFc)
      have i0 : (0 : Int) ≤ (RR : Int) := by omega
      have i1 : (RR : Int) ≤ (WW : Int) := by omega
      have i2 : (WW : Int) ≤ 4096 := by omega
      have i3 : ¬ 4096 = RR := by omega
      clear hl hget hbc hbf hg hrest hFc hmz
      go_wp2_with fail
      refine wp_region_plan (fun w' => w'.cell? ⟨b, 0, none⟩ = some (.slice (some ⟨bb, 0, none⟩) 4096 4096) ∧ w'.cell? ⟨b, 2, none⟩ = some (.int .i64 (RR : Nat)) ∧ w'.cell? ⟨b, 3, none⟩ = some (.int .i64 (WW : Nat))) 15 (.quiet 0 (.quiet 1 (.quiet 2 (.quiet 3 (.quiet 4 (.quiet 5 (.quiet 6 (.quiet 7 (.quiet 8 (.quiet 9 (.quiet 10 (.quiet 11 (.quiet 12 (.quiet 13 (.eff 14 (.eff 15 .done)))))))))))))))) (by kernel_rfl) (by kernel_rfl) ⟨t0, t2, t3⟩ ?_
      simp only [planO, opAt, List.getElem?_toArray, List.getElem?_cons_zero, List.getElem?_cons_succ, Option.getD_some, Nat.reduceBEq]
      iterate 14
        refine' SeqT.quiet (by rfl) ?_ ?_
        rotate_left
        · rintro w' ⟨hS1, hS2, hS3⟩
          go_simp
          try with_reducible rfl
        try simp only [Act.put, List.setIfInBounds_toArray, List.set_cons_zero, List.set_cons_succ]
      refine SeqT.eff ?_ ?_
      · rfl
      intro K hK
      refine wp_copy_cs (.tmp 109) (.tmp 122) rfl g off m cP (some ⟨bb, RR, none⟩) (WW - RR) (4096 - RR) rfl rfl cur Hg.out.drew l Hll.out Hrd.out (by have := Hll.out; omega) ?_
      intro w2 hg2 hf2
      have hb2 := Hbc.out.drew.fr2 hf2 hbg
      have hbb2 := Hbf.out.bc.drew.fr2 hf2 hbbg
      refine hK.out _ _ (.inr ⟨(hb2.cell 0).trans rfl, (hb2.cell 2).trans rfl, (hb2.cell 3).trans rfl⟩) ?_
      clear hK K
      try simp only [Act.put, List.setIfInBounds_toArray, List.set_cons_zero, List.set_cons_succ]
      refine SeqT.last ?_ ?_
      · rfl
      intro K hK
      go_simp
      refine hK.out _ _ ?_
      clear hK K
      have hl1 : 1 ≤ l.length := by have := Hll.out; omega
      have hl2 : l.length ≤ WW - RR := by have := Hll.out; omega
      have hllm : l.length ≤ m := by have := Hll.out; omega
      obtain ⟨R1, hR1⟩ : ∃ R1, R1 = RR + l.length := ⟨_, rfl⟩
      obtain ⟨R0, hR0⟩ : ∃ R0, R0 = R1 - 1 := ⟨_, rfl⟩
      have hs1 : (RR : Int) + (l.length : Int) = (R1 : Int) := by omega
      have hs2 : IntKind.i64.wrap ((RR : Int) + (l.length : Int)) = (R1 : Int) := by rw [hs1]; simp only [IntKind.wrap, IntKind.bits, IntKind.signed]; simp; omega
      have hs3 : (R1 : Int) - 1 = (R0 : Int) := by omega
      have hs4 : IntKind.i64.wrap ((R1 : Int) - 1) = (R0 : Int) := by rw [hs3]; simp only [IntKind.wrap, IntKind.bits, IntKind.signed]; simp; omega
      have hs5 : IntKind.i64.wrap (R0 : Int) = (R0 : Int) := by simp only [IntKind.wrap, IntKind.bits, IntKind.signed]; simp; omega
      have u2 : w2.cell? ⟨b, 2, none⟩ = some (.int .i64 (RR : Nat)) := (hb2.cell 2).trans rfl
      have f2 := hb2.frozen 2
      have hb3 := hb2.set_ 2 (.int .i64 (R1 : Int))
      simp only [List.setIfInBounds_toArray, List.set_cons_zero, List.set_cons_succ] at hb3
      have hbb3 := hbb2.far (p := ⟨b, 2, none⟩) (Ne.symm hbbb) (.int .i64 (R1 : Int))
      have hg3 := hg2.far (p := ⟨b, 2, none⟩) hgb (.int .i64 (R1 : Int))
      have hF3 : Fr wc.heap.size (fun k => k = g ∨ k = b) wc (w2.setCell ⟨b, 2, none⟩ (.int .i64 (R1 : Int))) := ((Fr.refl wc.heap.size (fun k => k = g ∨ k = b) wc).drew.trans (hf2.mono (Nat.le_refl _) (fun _ _ h => .inl h))).setCell (p := ⟨b, 2, none⟩) (.inr (.inr rfl)) _
      obtain ⟨W3, hW3⟩ : ∃ W3, W3 = w2.setCell ⟨b, 2, none⟩ (.int .i64 (R1 : Int)) := ⟨_, rfl⟩
      rw [← hW3] at hb3 hbb3 hg3 hF3
      have hlast : ∃ yb, l[l.length - 1]? = some yb := ⟨_, List.getElem?_eq_getElem (by omega)⟩
      obtain ⟨yb, hyb⟩ := hlast
      have hyl := yb.toNat_lt
      have s0 : W3.cell? ⟨b, 0, none⟩ = some (.slice (some ⟨bb, 0, none⟩) 4096 4096) := (hb3.cell 0).trans rfl
      have s2 : W3.cell? ⟨b, 2, none⟩ = some (.int .i64 (R1 : Nat)) := (hb3.cell 2).trans rfl
      have sb : W3.cell? ⟨bb, R0, none⟩ = some (.int .u8 (yb.toNat : Int)) := by
        have e1 := Hget.out (l.length - 1) (bv yb) (by rw [List.getElem?_map, hyb]; rfl)
        rw [Hbf.out.bc.cell] at e1
        rw [hbb3.cell, show R0 = RR + (l.length - 1) by omega]
        exact e1
      have hwy : IntKind.i64.wrap (yb.toNat : Int) = (yb.toNat : Int) := by simp only [IntKind.wrap, IntKind.bits, IntKind.signed]; simp; omega
      have fb5 := hb3.frozen 5
      have fb6 := hb3.frozen 6
      have k5 : W3.cell? ⟨b, 5, none⟩ = some (.int .i64 x0) := (hb3.cell 5).trans rfl
      have k6 : W3.cell? ⟨b, 6, none⟩ = some (.int .i64 y0) := (hb3.cell 6).trans rfl
      have j0 : (0 : Int) ≤ (R0 : Int) := by omega
      have j1 : (R0 : Int) < 4096 := by omega
      have HW3 := Lib.hid hW3
      have H3 := Lib.hid (And.intro hb3 (And.intro hbb3 (And.intro hg3 hF3)))
      have Hn := Lib.hid (And.intro hR1 (And.intro hR0 (And.intro hl1 (And.intro hl2 hllm))))
      clear hb3 hbb3 hg3 hF3 hW3 hf2 hg2 hR1 hR0 hl1 hl2 hllm hyb t0 t2 t3 hb2 hbb2
      go_wp2_with fail
      rw [← HW3.out]
      clear u2 f2 hs1 hs2
      refine wp_region_plan (fun w' => w'.cell? ⟨b, 0, none⟩ = some (.slice (some ⟨bb, 0, none⟩) 4096 4096) ∧ w'.cell? ⟨b, 2, none⟩ = some (.int .i64 (R1 : Nat)) ∧ w'.cell? ⟨bb, R0, none⟩ = some (.int .u8 (yb.toNat : Int))) 15 (.quiet 0 (.quiet 1 (.quiet 2 (.quiet 3 (.quiet 4 (.quiet 5 (.quiet 6 (.quiet 7 (.quiet 8 (.quiet 9 (.quiet 10 (.quiet 11 (.quiet 12 (.quiet 13 (.quiet 14 (.eff 15 .done)))))))))))))))) (by kernel_rfl) (by kernel_rfl) ⟨s0, s2, sb⟩ ?_
      simp only [planO, opAt, List.getElem?_toArray, List.getElem?_cons_zero, List.getElem?_cons_succ, Option.getD_some, Nat.reduceBEq]
      iterate 15
        refine' SeqT.quiet (by rfl) ?_ ?_
        rotate_left
        · rintro w' ⟨hS1, hS2, hS3⟩
          go_simp
          try with_reducible rfl
        try simp only [Act.put, List.setIfInBounds_toArray, List.set_cons_zero, List.set_cons_succ]
      refine SeqT.last ?_ ?_
      · rfl
      intro K hK
      go_simp
      refine hK.out _ _ ?_
      clear hK K
      obtain ⟨hb3, hbb3, hg3, hF3⟩ := H3.out
      obtain ⟨hR1, hR0, hl1, hl2, hllm⟩ := Hn.out
      have hb5 := (hb3.set_ 5 (.int .i64 (yb.toNat : Int))).set_ 6 (.int .i64 (-1))
      simp only [List.setIfInBounds_toArray, List.set_cons_zero, List.set_cons_succ] at hb5
      have hk5 : ∀ k, k ≠ b → (((W3.setCell ⟨b, 5, none⟩ (.int .i64 (yb.toNat : Int))).setCell ⟨b, 6, none⟩ (.int .i64 (-1))).drew).heap[k]? = W3.heap[k]? := fun k hk => by
        show ((W3.setCell ⟨b, 5, none⟩ (.int .i64 (yb.toNat : Int))).setCell ⟨b, 6, none⟩ (.int .i64 (-1))).heap[k]? = _
        rw [Below.heap_setCell _ _ _ _ hk, Below.heap_setCell _ _ _ _ hk]
      have hkc : ∀ k, k ≠ b → k ≠ g → k < wc.heap.size → (((W3.setCell ⟨b, 5, none⟩ (.int .i64 (yb.toNat : Int))).setCell ⟨b, 6, none⟩ (.int .i64 (-1))).drew).heap[k]? = wc.heap[k]? := fun k h1 h2 h3 => (hk5 k h1).trans (hF3.block k h3 (fun h => h.elim h2 h1))
      have hbk := Hbf.out
      have hFin : Fr w.heap.size (fun k => k = g ∨ BX b bb lr r dk k) w (((W3.setCell ⟨b, 5, none⟩ (.int .i64 (yb.toNat : Int))).setCell ⟨b, 6, none⟩ (.int .i64 (-1))).drew) := ((((HA.out.2.mono (X' := fun k => k = g ∨ BX b bb lr r dk k) (Nat.le_refl _) (fun _ _ h => .inr h)).trans (hF3.mono HA.out.2.size (fun k _ h => h.elim .inl (fun h => .inr (.inl h))))).setCell (p := ⟨b, 5, none⟩) (.inr (.inr (.inl rfl))) _).setCell (p := ⟨b, 6, none⟩) (.inr (.inr (.inl rfl))) _).drew
      have hls5 : LS (((W3.setCell ⟨b, 5, none⟩ (.int .i64 (yb.toNat : Int))).setCell ⟨b, 6, none⟩ (.int .i64 (-1))).drew) lr r dk A c dt i N := hbk.ls.keep (hkc lr (Ne.symm hblr) (Ne.symm hglr) hbk.ls.cs.lt) (hkc r (Ne.symm hbr) (Ne.symm hgr) hbk.ls.br.cs.lt) (fun k hk => hkc k (fun e => hbd (e ▸ hk)) (fun e => hgd (e ▸ hk)) (hbk.ls.br.dl k hk))
      have hpe5 : (buf.drop R1).take (WW - R1) = (pre.drop m).map bv := by
        rw [hR1, ← List.drop_drop, List.map_drop, ← hbk.pe]
        have e1 : l.length = min (WW - RR) m := Hll.out
        by_cases hmw : m ≤ WW - RR
        · have e2 : l.length = m := by omega
          rw [e2, List.drop_take]
          congr 1
          omega
        · have e2 : WW - (RR + l.length) = 0 := by omega
          rw [e2, List.take_zero]
          exact (List.drop_eq_nil_of_le (by rw [List.length_take, List.length_drop]; omega)).symm
      have hrest5 : rest = l ++ (pre.drop m ++ (dt.drop i).take N) := by
        rw [HA.out.1, Hl.out, ← List.append_assoc, List.take_append_drop]
      have hne0 : rest ≠ [] := by
        rw [hrest5]
        intro e
        have h := (List.append_eq_nil_iff.1 e).1
        rw [h] at hl1
        simp at hl1
      have hre : rErr rest = .nilIface := by
        rcases rest with _ | ⟨x, xs⟩
        · exact absurd rfl hne0
        · rfl
      have HFIN := Lib.hid (show RdPost (BfSt b bb lr r dk A c dt) (BX b bb lr r dk) w rest g off m cur (.returned (.tuple #[.int .i64 l.length, .nilIface])) (((W3.setCell ⟨b, 5, none⟩ (.int .i64 (yb.toNat : Int))).setCell ⟨b, 6, none⟩ (.int .i64 (-1))).drew) from
        ⟨l, pre.drop m ++ (dt.drop i).take N, hrest5, hllm, fun _ e => by rw [e] at hl1; simp at hl1, by rw [hre], ⟨i, N, R1, WW, buf, pre.drop m, ⟨⟨_, _, hb5.drew⟩, ((hbb3.far (p := ⟨b, 5, none⟩) (Ne.symm hbbb) _).far (p := ⟨b, 6, none⟩) (Ne.symm hbbb) _).drew, hbk.bl, by omega, hbk.wl, hpe5, hls5, hbk.ne⟩, rfl⟩, ((hg3.far (p := ⟨b, 5, none⟩) hgb _).far (p := ⟨b, 6, none⟩) hgb _).drew, hFin⟩)
      clear hb3 hbb3 hg3 hF3 hR1 hR0 hl1 hl2 hllm hb5 hk5 hkc hbk hFin hls5 hpe5 hrest5 hne0 hre
      go_wp2_with fail
      go_ret2
      exact HFIN.out
end Go.Proofs.Ytlbhadggfipckaa
