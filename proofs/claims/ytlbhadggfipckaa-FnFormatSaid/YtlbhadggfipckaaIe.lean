/-
  FDT.Write's second closure: the size of the structure.
-/
import Derived.Test.YtlbhadggfipckaaId
set_option linter.unusedVariables false
set_option linter.unusedSimpArgs false
namespace Go.Proofs.Ytlbhadggfipckaa
open Go.RowKit

def szP : List Pr → Nat
  | [] => 0
  | p :: r => 12 + al4 p.val.length + szP r

theorem szP_append : ∀ (a b : List Pr), szP (a ++ b) = szP a + szP b
  | [], b => by simp [szP]
  | p :: a, b => by simp [szP, szP_append a b]; omega

theorem szP_take (ps : List Pr) (k : Nat) (h : k < ps.length) : szP (ps.take (k + 1)) = szP (ps.take k) + (12 + al4 ps[k].val.length) ∧ szP (ps.take (k + 1)) ≤ szP ps := by
  have e1 : ps.take (k + 1) = ps.take k ++ [ps[k]] := by rw [List.take_succ_eq_append_getElem h]
  have e2 : szP ps = szP (ps.take (k + 1)) + szP (ps.drop (k + 1)) := by rw [← szP_append, List.take_append_drop]
  refine ⟨?_, by omega⟩
  rw [e1, szP_append]
  simp [szP]

theorem al4_le (n : Nat) : al4 n ≤ n + 3 ∧ n ≤ al4 n := by unfold al4; omega

/-- A tree of the package, in its block: the header's ten numbers, the rooms, the root. -/
def FD (h : Array Value) (x : Nat) : Array Value := h.setIfInBounds 9 (.int .u32 (x : Nat))

theorem FD_set {h : Array Value} {x y : Nat} {z : Int} (e : z = (y : Int)) : (FD h x).setIfInBounds 9 (.int .u32 z) = FD h y := by
  subst e
  simp [FD]

def SzInv (w : World) (fv f : Nat) (h : Array Value) (x : Nat) (wr : World) : Prop := Cs wr fv #[.pointer (some ⟨f, 0, none⟩)] ∧ Cs wr f (FD h x) ∧ Fr w.heap.size (· = f) w wr

def W2Post (w : World) (fv f : Nat) (h : Array Value) (x : Nat) (e : Ending) (w' : World) : Prop := e = .returned .nilIface ∧ SzInv w fv f h x w'

set_option maxHeartbeats 2000000 in
theorem w2_walk (w : World) (ok : Nat → Prop) (fv f x : Nat) (h : Array Value) (hh : h.size = 12) (hok : ∀ k, ok k → k < w.heap.size ∧ k ≠ f) (b : Nat) (name : ByteArray) (ps : List Pr) (ks : List LT) (hn : PN w ok (.mk b name ps ks)) (hns : name.size ≤ 100) (hff : fv ≠ f)
    (hi : SzInv w fv f h x w) (hx : x + 8 + al4 (name.size + 1) + szP ps ≤ 1000000) :
    Calls Try.prog 69 #[.pointer (some ⟨b, 0, none⟩), .pointer (some ⟨fv, 0, none⟩)] w (W2Post w fv f h (x + 8 + al4 (name.size + 1) + szP ps)) := by
  obtain ⟨vp, A, c, hob, hns', hcs, hps, hl1, hl2, hl3, hks, hrow⟩ := hn.open_
  obtain ⟨Ap, cp, ts, rfl, hp1, hp2, hp3, hp4, hp5⟩ := hps
  obtain ⟨h1, h2, -⟩ := hi
  have n0 := hcs.cell 0
  have n1 := hcs.cell 1
  have v0 := h1.cell 0
  have x9 := h2.cell 9
  have xf := h2.frozen 9
  simp at n0 n1 v0
  simp [FD, hh] at x9
  obtain ⟨hb1, hb2⟩ := hok b hob
  have zf := h1.lt
  have z2 := h2.lt
  have hA4 := align4_walk w.drew (name.size + 1) (by omega)
  have hle := al4_le (name.size + 1)
  have e1 : ((name.size + 1 : Nat) : Int) = (name.size : Int) + 1 := by omega
  rw [e1] at hA4
  have hw0 : IntKind.i64.wrap ((name.size : Int) + 1) = (name.size : Int) + 1 := by simp only [IntKind.wrap, IntKind.bits, IntKind.signed]; simp; omega
  have hw1 : IntKind.u32.wrap (8 + ((al4 (name.size + 1) : Nat) : Int)) = 8 + ((al4 (name.size + 1) : Nat) : Int) := by simp only [IntKind.wrap, IntKind.bits, IntKind.signed]; simp; omega
  have hw2 : IntKind.u32.wrap ((x : Int) + (8 + ((al4 (name.size + 1) : Nat) : Int))) = (x : Int) + (8 + ((al4 (name.size + 1) : Nat) : Int)) := by simp only [IntKind.wrap, IntKind.bits, IntKind.signed]; simp; omega
  have Hp4 := Lib.hid hp4
  have Hp5 := Lib.hid hp5
  have H12 := Lib.hid (And.intro h1 h2)
  clear hn hks hrow hcs hp4 hp5 h1 h2
  go_enter Try.func69, Try.ntmps69
  go_wp2_with fail
  refine wp_region_seq (fun w' => w'.cell? ⟨fv, 0, none⟩ = some (.pointer (some ⟨f, 0, none⟩)) ∧ w'.cell? ⟨f, 9, none⟩ = some (.int .u32 (x : Nat)) ∧ w'.cell? ⟨b, 0, none⟩ = some (.string name)) 17
    [(0, true), (1, true), (2, true), (3, true), (4, true), (5, true), (6, true), (7, true), (8, true), (9, true), (10, true), (11, false), (12, true), (13, true), (14, true), (15, true), (16, true), (17, false)] (by kernel_rfl) (by kernel_rfl) ⟨v0, x9, n0⟩ ?_
  simp only [opsIn, List.map_cons, List.map_nil, List.getElem?_toArray, List.getElem?_cons_zero, List.getElem?_cons_succ, Option.getD_some, Nat.reduceBEq]
  iterate 11
    refine' Seq.quiet (by rfl) ?_ ?_
    rotate_left
    · rintro w' ⟨hS1, hS2, hS3⟩
      go_simp
      try with_reducible rfl
    try simp only [Act.put, List.setIfInBounds_toArray, List.set_cons_zero, List.set_cons_succ]
  refine Seq.eff ?_ ?_
  · rfl
  intro K hK
  go_simp
  refine hA4.mono ?_
  rintro e w1 ⟨rfl, rfl⟩
  refine hK.out _ _ (.inr ⟨v0, x9, n0⟩) ?_
  clear hK K
  try simp only [Act.put, List.setIfInBounds_toArray, List.set_cons_zero, List.set_cons_succ]
  iterate 5
    refine' Seq.quiet (by rfl) ?_ ?_
    rotate_left
    · rintro w' ⟨hS1, hS2, hS3⟩
      go_simp
      try with_reducible rfl
    try simp only [Act.put, List.setIfInBounds_toArray, List.set_cons_zero, List.set_cons_succ]
  refine Seq.last ?_ ?_
  · rfl
  intro K hK
  go_simp
  refine hK.out _ _ ?_
  clear hK K
  go_wp2_with fail
  go_loopw [28] (fun i wr => ∃ k : Nat, k ≤ ps.length ∧ i = .int .i64 k ∧ SzInv w fv f h (x + 8 + al4 (name.size + 1) + szP (ps.take k)) wr) (fun i _ => ps.length - (intOf i).toNat)
  case atStart =>
    refine ⟨0, by omega, by go_num, (H12.out.1.far (p := ⟨f, 9, none⟩) hff _).drew, ?_, ((Fr.refl w.heap.size (· = f) w).setCell (p := ⟨f, 9, none⟩) (.inr rfl) _).drew⟩
    have q := (H12.out.2.set_ 9 (.int .u32 ((x : Int) + (8 + ((al4 (name.size + 1) : Nat) : Int))))).drew
    rw [FD_set (y := x + 8 + al4 (name.size + 1)) (by omega)] at q
    simpa [szP] using q
  case round =>
    obtain ⟨k, hk, rfl, h1, h2, hF⟩ := hrel
    clear hA4 n0 n1 v0 x9 xf zf z2 hw0 hw1 hw2
    have hlt0 : k < ps.length → x + 8 + al4 (name.size + 1) + szP (ps.take k) ≤ 1000000 := fun h => by have := szP_take ps k h; omega
    generalize hy : x + 8 + al4 (name.size + 1) + szP (ps.take k) = y at *
    have s0 := h1.cell 0
    have s9 := h2.cell 9
    have sf := h2.frozen 9
    simp at s0
    simp [FD, hh] at s9
    have zf := h1.lt
    have z2 := h2.lt
    by_cases hlt : k < ps.length
    · have hne : ps ≠ [] := by rintro rfl; simp at hlt
      obtain ⟨g, o, rfl, hog, hD⟩ := Hp5.out.resolve_left hne
      have hp4 := Hp4.out
      have hkp : ps[k]? = some ps[k] := List.getElem?_eq_getElem hlt
      have hlt2 : k < ts.length := by rw [← hp4.1]; exact hlt
      have hkt : ts[k]? = some (ts[k]'hlt2) := List.getElem?_eq_getElem hlt2
      obtain ⟨e1, pn, Av, cv, e3, -⟩ := hp4.2 k _ _ hkp hkt
      obtain ⟨d1, d2⟩ := hD k _ hkt
      obtain ⟨o1, o2⟩ := hok g hog
      rw [← hF.cell o1 o2, e1] at d1
      rw [← hF.cell o1 o2, e3] at d2
      obtain ⟨t1, t2⟩ := szP_take ps k hlt
      generalize ps[k] = pk at *
      clear e1 e3 hkt hkp hD hp4
      have hgl : g < wr.heap.size := by have := hF.size; omega
      have hki : (0 : Int) ≤ (k : Int) := by omega
      have hle2 := al4_le pk.val.length
      have hy2 : x + 8 + al4 (name.size + 1) + szP (ps.take (k + 1)) = y + (12 + al4 pk.val.length) := by omega
      have hA4 := align4_walk (wr.alloc (.cells #[.string pk.name, .slice Av pk.val.length cv] 70)).drew pk.val.length (by omega)
      have hw1 : IntKind.u32.wrap (12 + ((al4 pk.val.length : Nat) : Int)) = 12 + ((al4 pk.val.length : Nat) : Int) := by simp only [IntKind.wrap, IntKind.bits, IntKind.signed]; simp; omega
      have hw2 : IntKind.u32.wrap ((y : Int) + (12 + ((al4 pk.val.length : Nat) : Int))) = (y : Int) + (12 + ((al4 pk.val.length : Nat) : Int)) := by simp only [IntKind.wrap, IntKind.bits, IntKind.signed]; simp; omega
      have hs1 : (wr.alloc (.cells #[.string pk.name, .slice Av pk.val.length cv] 70)).drew.cell? ⟨fv, 0, none⟩ = some (.pointer (some ⟨f, 0, none⟩)) := (World.cell?_alloc_lt _ _ _ zf).trans s0
      have hs2 : (wr.alloc (.cells #[.string pk.name, .slice Av pk.val.length cv] 70)).drew.cell? ⟨f, 9, none⟩ = some (.int .u32 (y : Nat)) := (World.cell?_alloc_lt _ _ _ z2).trans s9
      have hs3 : (wr.alloc (.cells #[.string pk.name, .slice Av pk.val.length cv] 70)).drew.cell? ⟨wr.heap.size, 1, none⟩ = some (.slice Av pk.val.length cv) := ((Cs.new wr 70 #[.string pk.name, .slice Av pk.val.length cv]).drew.cell 1).trans rfl
      have H := Lib.hid (And.intro h1 (And.intro h2 hF))
      clear h1 h2 hF
      go_wp2_with fail
      refine wp_region_seq (fun w' => w'.cell? ⟨fv, 0, none⟩ = some (.pointer (some ⟨f, 0, none⟩)) ∧ w'.cell? ⟨f, 9, none⟩ = some (.int .u32 (y : Nat)) ∧ w'.cell? ⟨wr.heap.size, 1, none⟩ = some (.slice Av pk.val.length cv)) 14
        [(0, true), (1, true), (2, true), (3, true), (4, true), (5, true), (6, true), (7, true), (8, false), (9, true), (10, true), (11, true), (12, true), (13, true), (14, false)] (by kernel_rfl) (by kernel_rfl) ⟨hs1, hs2, hs3⟩ ?_
      simp only [opsIn, List.map_cons, List.map_nil, List.getElem?_toArray, List.getElem?_cons_zero, List.getElem?_cons_succ, Option.getD_some, Nat.reduceBEq]
      iterate 8
        refine' Seq.quiet (by rfl) ?_ ?_
        rotate_left
        · rintro w' ⟨hS1, hS2, hS3⟩
          go_simp
          try with_reducible rfl
        try simp only [Act.put, List.setIfInBounds_toArray, List.set_cons_zero, List.set_cons_succ]
      refine Seq.eff ?_ ?_
      · rfl
      intro K hK
      go_simp
      refine hA4.mono ?_
      rintro e w1 ⟨rfl, rfl⟩
      refine hK.out _ _ (.inr ⟨hs1, hs2, hs3⟩) ?_
      clear hK K
      try simp only [Act.put, List.setIfInBounds_toArray, List.set_cons_zero, List.set_cons_succ]
      iterate 5
        refine' Seq.quiet (by rfl) ?_ ?_
        rotate_left
        · rintro w' ⟨hS1, hS2, hS3⟩
          go_simp
          try with_reducible rfl
        try simp only [Act.put, List.setIfInBounds_toArray, List.set_cons_zero, List.set_cons_succ]
      refine Seq.last ?_ ?_
      · rfl
      intro K hK
      go_simp
      refine hK.out _ _ ?_
      clear hK K
      obtain ⟨h1, h2, hF⟩ := H.out
      have q := h2.set_ 9 (.int .u32 ((y : Int) + (12 + ((al4 pk.val.length : Nat) : Int))))
      rw [FD_set (y := y + (12 + al4 pk.val.length)) (by omega)] at q
      have hfin : SzInv w fv f h (y + (12 + al4 pk.val.length)) (((wr.setCell ⟨f, 9, none⟩ (.int .u32 ((y : Int) + (12 + ((al4 pk.val.length : Nat) : Int))))).alloc (.cells #[.string pk.name, .slice Av pk.val.length cv] 70)).drew) :=
        ⟨((h1.far hff _).alloc _).drew, (q.alloc _).drew, ((hF.setCell (p := ⟨f, 9, none⟩) (.inr rfl) _).alloc (by have := hF.size; simp [World.setCell]; omega) _).drew⟩
      rw [← hy2] at hfin
      have HFIN := Lib.hid hfin
      clear h1 h2 hF q hfin
      go_wp2_with fail
      exact ⟨⟨k + 1, hlt, by go_num, HFIN.out⟩, by simp [intOf]; omega⟩
    · obtain rfl : k = ps.length := by omega
      rw [List.take_length] at hy
      subst hy
      have H := Lib.hid (show SzInv w fv f h _ wr from ⟨h1, h2, hF⟩)
      clear h1 h2 hF
      go_wp2_with fail
      go_ret
      exact ⟨rfl, H.out⟩
end Go.Proofs.Ytlbhadggfipckaa
