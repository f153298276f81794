/-
  spec's writer: token.
-/
import Derived.Test.YtlbhadggfipckaaLb
set_option linter.unusedVariables false
set_option linter.unusedSimpArgs false
namespace Go.Proofs.Ytlbhadggfipckaa
open Go.RowKit

def nops (k : Nat) : List UInt8 := (List.replicate k (be4 4)).flatten

theorem nops_len (k : Nat) : (nops k).length = 4 * k := by simp [nops, be4]; omega
theorem nops_succ (k : Nat) : nops (k + 1) = nops k ++ be4 4 := by unfold nops; rw [List.replicate_succ']; simp
theorem be4_four : (be4 4).map bv = [.int .u8 0, .int .u8 0, .int .u8 0, .int .u8 4] := rfl

def WrP (w : World) (p lo : Nat) (st ss : List UInt8) (nop : Nat) (e : Ending) (w' : World) : Prop :=
  e = .returned (.tuple #[]) ∧ SWx w' p lo st ss nop ∧ Kw p lo w w'

set_option maxHeartbeats 1000000 in
theorem stoken_walk (w : World) (p lo : Nat) (st ss : List UInt8) (nop : Nat) (h : SWx w p lo st ss nop) (n : Nat) (hn : n < 4294967296) (hnop : nop ≤ 3) (hl : st.length ≤ 1000000) :
    Calls Try.prog 48 #[.pointer (some ⟨p, 0, none⟩), .int .u64 n] w (WrP w p lo (st ++ tok nop n) ss nop) := by
  obtain ⟨A, c, B, d, h⟩ := h
  have c2 := h.cs.cell 2
  simp at c2
  have H := Lib.hid h
  clear h
  go_enter Try.func48, Try.ntmps48
  go_wp2_with fail
  go_loopw [8] (fun i wr => ∃ k : Nat, k ≤ nop ∧ i = .int .i64 k ∧ ∃ A1 c1, SW wr p lo (st ++ nops k) ss nop A1 c1 B d ∧ Kw p lo w wr) (fun i _ => nop - (intOf i).toNat)
  case atStart => exact ⟨0, by omega, by go_num, A, c, by simpa [nops] using H.out, Kw.refl _ _ _⟩
  case round =>
    obtain ⟨k, hk, rfl, A1, c1, hq, hkw⟩ := hrel
    obtain ⟨wo, rfl⟩ : ∃ wo : World, wo = wr := ⟨_, rfl⟩
    clear c2
    have hsl : (st ++ nops k).length ≤ 1000012 := by rw [List.length_append, nops_len]; omega
    have Hst := Lib.hid (And.intro (rfl : st ++ nops k = st ++ nops k) hkw)
    have hki : (0 : Int) ≤ (k : Int) := by omega
    have x0 := hq.cs.cell 0
    have xf := hq.cs.frozen 0
    clear x0
    by_cases hlt : k < nop
    · obtain ⟨s1, hs1⟩ : ∃ s1, s1 = st ++ nops k := ⟨_, rfl⟩
      have xp := hq.plt
      rw [← hs1] at hq hsl
      have x0 : wo.cell? ⟨p, 0, none⟩ = some (.slice A1 s1.length c1) := (hq.cs.cell 0).trans rfl
      have Hs1 := Lib.hid hs1
      have Hq := Lib.hid hq
      have Hk := Lib.hid hkw
      clear hs1 hq hkw Hst
      go_wp2_with (at_builtin; go_must (refine wpList_append_el el24 rfl (.tmp 14) (.tmp 15) rfl lo (.slice A1 s1.length c1) s1.length (s1.map bv) rfl (Hq.out.o1.alloc _) (some ⟨wo.heap.size, 0, none⟩) 4 4 [.int .u8 0, .int .u8 0, .int .u8 0, .int .u8 4] rfl (by simp) ((Cs.new _ _ _).rd rfl) (by simp [Value.oneCell']) (by omega) (by omega) (by simp; have := Hq.out.lw; omega) ?_); intro v' w1 hown1 hgrow hnil hat; obtain ⟨A2, c2, rfl⟩ := own_slice hown1; clear hnil; have q1 := (Hq.out.cs.alloc _).grown hgrow (own_ne Hq.out.o1 Hq.out.lp); have y0 := q1.cell 0; have yf := q1.frozen 0; simp at y0)
      have hb : Below wo.heap.size wo (wo.alloc (.cells #[.int .u8 0, .int .u8 0, .int .u8 0, .int .u8 4] 5)) := (Below.refl _ _).alloc (Nat.le_refl _) _
      have hl2 : (s1 ++ be4 4).length = s1.length + 4 := by simp [be4]
      obtain ⟨z1, z2⟩ := sw_put0 (l := s1 ++ be4 4) (A' := A2) (c' := c2) Hq.out (grown_below hb hgrow) (by rw [hl2, List.map_append, be4_four]; exact hown1) (by rw [hl2]; exact NewRow.of_at hat (by simp))
      rw [hl2] at z1 z2
      refine ⟨⟨k + 1, by omega, by go_num, A2, c2, ?_, Hk.out.trans z2⟩, by simp [intOf]; omega⟩
      rw [nops_succ, ← List.append_assoc, ← Hs1.out]
      exact z1
    · obtain rfl : k = nop := by omega
      obtain ⟨s1, hs1⟩ : ∃ s1, s1 = st ++ nops k := ⟨_, rfl⟩
      rw [← hs1] at hq hsl
      have x0 : wo.cell? ⟨p, 0, none⟩ = some (.slice A1 s1.length c1) := (hq.cs.cell 0).trans rfl
      have xp := hq.plt
      have Hs1 := Lib.hid hs1
      have Hq := Lib.hid hq
      have Hk := Lib.hid hkw
      clear hs1 hq hkw Hst
      go_wp2_with fail
      refine wp_region_seq (fun w' => w'.cell? ⟨p, 0, none⟩ = some (.slice A1 s1.length c1)) 10
        [(0, true), (1, true), (2, true), (3, true), (4, true), (5, true), (6, false), (7, false), (8, true), (9, true), (10, false)] (by kernel_rfl) (by kernel_rfl) x0 ?_
      simp only [opsIn, List.map_cons, List.map_nil, List.getElem?_toArray, List.getElem?_cons_zero, List.getElem?_cons_succ, Option.getD_some, Nat.reduceBEq]
      iterate 6
        refine' Seq.quiet (by rfl) ?_ ?_
        rotate_left
        · rintro w' hS1
          go_simp
          try with_reducible rfl
        try simp only [Act.put, List.setIfInBounds_toArray, List.set_cons_zero, List.set_cons_succ]
      refine Seq.eff ?_ ?_
      · rfl
      intro K hK
      go_simp
      refine (put_walk wo.drew n 4 (by omega) (by omega)).mono ?_
      rintro e w1 ⟨rfl, hrow, hb⟩
      rw [low_len] at hrow
      have hb' : Below wo.heap.size wo w1 := (Below.refl wo.heap.size wo).drew.trans hb
      have q1 := Hq.out.below hb'
      rw [low_len]
      refine hK.out _ _ (.inr ((q1.cs.cell 0).trans rfl)) ?_
      clear hK K
      try simp only [Act.put, List.setIfInBounds_toArray, List.set_cons_zero, List.set_cons_succ]
      refine Seq.eff ?_ ?_
      · rfl
      intro K hK
      refine wp_append_el el24 (.tmp 24) (.tmp 26) rfl lo (.slice A1 s1.length c1) s1.length (s1.map bv) rfl q1.o1 (some ⟨wo.drew.heap.size, 0, none⟩) 4 4 ((low n 4).map bv) rfl (by simp [low_len]) (own_rd hrow) (bv_one _) (by omega) (by omega) q1.lw ?_
      intro v' w2 hown1 hgrow hnil hat
      obtain ⟨A2, c2, rfl⟩ := own_slice hown1
      clear hnil
      have q2 := q1.cs.grown hgrow (own_ne q1.o1 q1.lp)
      have y0 : w2.cell? ⟨p, 0, none⟩ = some (.slice A1 s1.length c1) := (q2.cell 0).trans rfl
      have f0 := q2.frozen 0
      refine hK.out _ _ (.inr y0) ?_
      clear hK K
      try simp only [Act.put, List.setIfInBounds_toArray, List.set_cons_zero, List.set_cons_succ]
      iterate 2
        refine' Seq.quiet (by rfl) ?_ ?_
        rotate_left
        · rintro w' hS1
          go_simp
          try with_reducible rfl
        try simp only [Act.put, List.setIfInBounds_toArray, List.set_cons_zero, List.set_cons_succ]
      refine Seq.last ?_ ?_
      · rfl
      intro K hK
      go_simp
      refine hK.out _ _ ?_
      clear hK K
      have hl2 : (s1 ++ be4 n).length = s1.length + 4 := by simp [be4]
      rw [low4] at hown1
      obtain ⟨z1, z2⟩ := sw_put0 (l := s1 ++ be4 n) (A' := A2) (c' := c2) Hq.out (grown_below hb' hgrow) (by rw [hl2, List.map_append]; exact hown1) (by rw [hl2]; exact NewRow.of_at hat hb'.size)
      rw [hl2] at z1 z2
      have HFIN := Lib.hid (show WrP w p lo (st ++ tok k n) ss k (.returned (.tuple #[])) _ from ⟨rfl, ⟨A2, c2, B, d, by
        have e : st ++ tok k n = s1 ++ be4 n := by rw [Hs1.out]; simp [tok, nops]
        rw [e]
        exact z1⟩, Hk.out.trans z2⟩)
      clear z1 z2 hown1 hgrow hat q2 y0 f0 q1 hb hb' hrow
      go_wp2_with fail
      go_end0
      exact HFIN.out
end Go.Proofs.Ytlbhadggfipckaa
