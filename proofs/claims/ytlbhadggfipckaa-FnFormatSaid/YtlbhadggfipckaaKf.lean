/-
  spec.Same, spec.Equal of data that are the same.
-/
import Derived.Test.YtlbhadggfipckaaKe
set_option linter.unusedVariables false
set_option linter.unusedSimpArgs false
namespace Go.Proofs.Ytlbhadggfipckaa
open Go.RowKit

theorem bytes_str (w : World) {ok : Nat → Prop} {A : Option Addr} {c : Nat} {l : List UInt8} (h : ValC w ok (.slice A l.length c) l) (m : Nat) : (convert 24 9 (.slice A l.length c)).run Try.prog (w.drewN m) = .ok (.string (strOf l)) (w.drewN m) := by
  obtain ⟨A', c', e, h1, h2, h3, h4⟩ := h
  cases e
  refine conv_str (w.drewN m) A l.length c l rfl ?_
  rcases h4 with h4 | ⟨b, o, rfl, -, h4⟩
  · exact .inl h4
  · exact .inr ⟨b, o, rfl, h4⟩

set_option maxHeartbeats 2000000 in
theorem same_walk (n : Nd) : ∀ (w : World) (ok ok' : Nat → Prop) (t t' : Value × Value × Value), (∀ k, ok k → k < w.heap.size) → (∀ k, ok' k → k < w.heap.size) → NodeC w ok n t → NodeC w ok' n t' →
    Calls Try.prog 46 #[.agg #[t.1, t.2.1, t.2.2], .agg #[t'.1, t'.2.1, t'.2.2]] w fun e w' => e = .returned (.bool true) ∧ Below w.heap.size w w' := by
  refine Nd.ind (P := fun n => ∀ (w : World) (ok ok' : Nat → Prop) (t t' : Value × Value × Value), (∀ k, ok k → k < w.heap.size) → (∀ k, ok' k → k < w.heap.size) → NodeC w ok n t → NodeC w ok' n t' →
    Calls Try.prog 46 #[.agg #[t.1, t.2.1, t.2.2], .agg #[t'.1, t'.2.1, t'.2.2]] w fun e w' => e = .returned (.bool true) ∧ Below w.heap.size w w') ?_ n
  intro name ps ks IH w ok ok' t t' hok hok' hn hn'
  obtain ⟨vp, vk, rfl, hns, hps, hks⟩ := hn.open_
  obtain ⟨Ap, cp, ts, rfl, hp1, hp2, hp3, hp4, hp5⟩ := hps
  obtain ⟨Ak, ck, us, rfl, hk1, hk2, hk3, hk4, hk5⟩ := hks
  obtain ⟨vp', vk', rfl, -, hps', hks'⟩ := hn'.open_
  obtain ⟨Ap', cp', ts', rfl, -, -, -, hp4', hp5'⟩ := hps'
  obtain ⟨Ak', ck', us', rfl, -, -, -, hk4', hk5'⟩ := hks'
  have Hp4 := Lib.hid hp4
  have Hp5 := Lib.hid hp5
  have Hk4 := Lib.hid hk4
  have Hk5 := Lib.hid hk5
  have Hp4' := Lib.hid hp4'
  have Hp5' := Lib.hid hp5'
  have Hk4' := Lib.hid hk4'
  have Hk5' := Lib.hid hk5'
  have IH := Lib.hid IH
  have Hok := Lib.hid (And.intro hok hok')
  clear hp4 hp5 hk4 hk5 hn hp4' hp5' hk4' hk5' hn' hok hok'
  go_enter Try.func46, Try.ntmps46
  go_wp2_with fail
  go_loopw [34] (fun i wr => ∃ k : Nat, k ≤ ps.length ∧ i = .int .i64 k ∧ Below w.heap.size w wr ∧ Cs wr w.heap.size #[.string name, .slice Ap ps.length cp, .slice Ak ks.length ck] ∧ Cs wr (w.heap.size + 1) #[.string name, .slice Ap' ps.length cp', .slice Ak' ks.length ck']) (fun i _ => ps.length - (intOf i).toNat)
  case atStart => exact ⟨0, by omega, by go_num, ((Below.refl _ _).alloc (Nat.le_refl _) _).alloc (by simp) _, (Cs.new _ _ _).alloc _, Cs.new' _ _ _ _ (by simp)⟩
  case round =>
    obtain ⟨k, hk, rfl, hF, x, y⟩ := hrel
    have lx := x.lt
    have ly := y.lt
    by_cases hlt : k < ps.length
    · have hne : ps ≠ [] := by rintro rfl; simp at hlt
      obtain ⟨b, o, rfl, hob, hD⟩ := Hp5.out.resolve_left hne
      obtain ⟨b', o', rfl, hob', hD'⟩ := Hp5'.out.resolve_left hne
      have hp4 := Hp4.out
      have hp4' := Hp4'.out
      have hkp : ps[k]? = some ps[k] := List.getElem?_eq_getElem hlt
      have hlt2 : k < ts.length := by rw [← hp4.1]; exact hlt
      have hlt2' : k < ts'.length := by rw [← hp4'.1]; exact hlt
      have hkt : ts[k]? = some (ts[k]'hlt2) := List.getElem?_eq_getElem hlt2
      have hkt' : ts'[k]? = some (ts'[k]'hlt2') := List.getElem?_eq_getElem hlt2'
      obtain ⟨e1, pn, hval⟩ := hp4.2 k _ _ hkp hkt
      obtain ⟨e1', pn', hval'⟩ := hp4'.2 k _ _ hkp hkt'
      obtain ⟨Av, cv, e3, v1, v2, v3, v4⟩ := id hval
      obtain ⟨Av', cv', e3', v1', v2', v3', v4'⟩ := id hval'
      rw [e3] at hval
      rw [e3'] at hval'
      obtain ⟨d1, d2⟩ := hD k _ hkt
      obtain ⟨d1', d2'⟩ := hD' k _ hkt'
      have hbo := Hok.out.1 b hob
      have hbo' := Hok.out.2 b' hob'
      have tr : ∀ g y, g < w.heap.size → w.cell? ⟨g, y, none⟩ = wr.cell? ⟨g, y, none⟩ := fun g y hg => (World.cell?_of_block (a := ⟨g, y, none⟩) (hF.block g hg)).symm
      rw [tr b _ hbo, e1] at d1
      rw [tr b _ hbo, e3] at d2
      rw [tr b' _ hbo', e1'] at d1'
      rw [tr b' _ hbo', e3'] at d2'
      have hki : (0 : Int) ≤ (k : Int) := by omega
      have hbl : b < wr.heap.size := by omega
      have hbl' : b' < wr.heap.size := by omega
      have hB1 : Below w.heap.size w (wr.alloc (.cells #[.string ps[k].name, .slice Av ps[k].val.length cv] 125)) := hF.alloc (by omega) _
      have hcv := bytes_str _ (hval.mono (Same.of_below hB1 Hok.out.1) (fun _ h => h))
      have hcv' := bytes_str _ (hval'.mono (Same.of_below hB1 Hok.out.2) (fun _ h => h))
      have HX := Lib.hid (And.intro hF (And.intro x y))
      have x1 : wr.cell? ⟨w.heap.size, 1, none⟩ = some (.slice (some ⟨b, o, none⟩) ps.length cp) := (x.cell 1).trans rfl
      have y1 : wr.cell? ⟨w.heap.size + 1, 1, none⟩ = some (.slice (some ⟨b', o', none⟩) ps.length cp') := (y.cell 1).trans rfl
      generalize ps[k] = pk at *
      clear hkp hkt hkt' hD hD' hp4 hp4' hval hval' v4 v4' tr hF hB1 x y e1 e3 e1' e3'
      go_wp2_with fail
      go_quiet (fail)
      go_wp2_with fail
      go_roundw
      case rel => exact ⟨k + 1, hlt, by go_num, blw_drewN (HX.out.1.alloc (by omega) _) _, (HX.out.2.1.alloc _).drewN _, (HX.out.2.2.alloc _).drewN _⟩
      case measure => simp [intOf]; omega
    · obtain rfl : k = ps.length := by omega
      obtain ⟨wo, rfl⟩ : ∃ wo : World, wo = wr := ⟨_, rfl⟩
      have HX := Lib.hid (And.intro hF (And.intro x y))
      have x2 : wo.cell? ⟨w.heap.size, 2, none⟩ = some (.slice Ak ks.length ck) := (x.cell 2).trans rfl
      clear hF x y
      go_wp2_with fail
      go_loopw [65] (fun i wr => ∃ k : Nat, k ≤ ks.length ∧ i = .int .i64 k ∧ Below w.heap.size w wr ∧ Cs wr w.heap.size #[.string name, .slice Ap ps.length cp, .slice Ak ks.length ck] ∧ Cs wr (w.heap.size + 1) #[.string name, .slice Ap' ps.length cp', .slice Ak' ks.length ck']) (fun i _ => ks.length - (intOf i).toNat)
      case atStart => exact ⟨0, by omega, by go_num, HX.out.1, HX.out.2.1, HX.out.2.2⟩
      case round =>
        clear HX x2
        obtain ⟨k, hk, rfl, hF, x, y⟩ := hrel
        have lx := x.lt
        have ly := y.lt
        by_cases hlt : k < ks.length
        · have hne : ks ≠ [] := by rintro rfl; simp at hlt
          obtain ⟨b, o, rfl, hob, hD⟩ := Hk5.out.resolve_left hne
          obtain ⟨b', o', rfl, hob', hD'⟩ := Hk5'.out.resolve_left hne
          have hk4 := Hk4.out
          have hk4' := Hk4'.out
          have hkp : ks[k]? = some ks[k] := List.getElem?_eq_getElem hlt
          have hlt2 : k < us.length := by rw [← hk4.1]; exact hlt
          have hlt2' : k < us'.length := by rw [← hk4'.1]; exact hlt
          have hkt : us[k]? = some (us[k]'hlt2) := List.getElem?_eq_getElem hlt2
          have hkt' : us'[k]? = some (us'[k]'hlt2') := List.getElem?_eq_getElem hlt2'
          have hN := hk4.2 k _ _ hkp hkt
          have hN' := hk4'.2 k _ _ hkp hkt'
          obtain ⟨d1, d2, d3⟩ := hD k _ hkt
          obtain ⟨d1', d2', d3'⟩ := hD' k _ hkt'
          have hbo := Hok.out.1 b hob
          have hbo' := Hok.out.2 b' hob'
          have tr : ∀ g y, g < w.heap.size → w.cell? ⟨g, y, none⟩ = wr.cell? ⟨g, y, none⟩ := fun g y hg => (World.cell?_of_block (a := ⟨g, y, none⟩) (hF.block g hg)).symm
          rw [tr b _ hbo] at d1 d2 d3
          rw [tr b' _ hbo'] at d1' d2' d3'
          generalize us[k]'hlt2 = tk at *
          generalize us'[k]'hlt2' = tk' at *
          obtain ⟨s1, A3, n3, c3, A4, n4, c4, rfl⟩ := id hN.form
          obtain ⟨s1', A3', n3', c3', A4', n4', c4', rfl⟩ := id hN'.form
          simp only at d1 d2 d3 d1' d2' d3'
          have hki : (0 : Int) ≤ (k : Int) := by omega
          have hbl : b < wr.heap.size := by omega
          have hbl' : b' < wr.heap.size := by omega
          have hI := IH.out ks[k] (List.getElem_mem hlt) wr.drew ok ok' _ _ (fun x hx => by have := Hok.out.1 x hx; have := hF.size; show x < wr.heap.size; omega) (fun x hx => by have := Hok.out.2 x hx; have := hF.size; show x < wr.heap.size; omega) (NodeC.mono (Same.of_below hF.drew Hok.out.1) (fun _ h => h) hN) (NodeC.mono (Same.of_below hF.drew Hok.out.2) (fun _ h => h) hN')
          have HI := Lib.hid hI
          have g2 : wr.cell? ⟨w.heap.size, 2, none⟩ = some (.slice (some ⟨b, o, none⟩) ks.length ck) := (x.cell 2).trans rfl
          have g2' : wr.cell? ⟨w.heap.size + 1, 2, none⟩ = some (.slice (some ⟨b', o', none⟩) ks.length ck') := (y.cell 2).trans rfl
          have HX := Lib.hid (And.intro hF (And.intro x y))
          clear hkt hkt' hkp hD hD' hk4 hk4' hN hN' hI tr hF x y
          have hkb : (k : Int) < (ks.length : Int) := by omega
          go_wp2_with fail
          refine wp_region_seq (fun w' => w'.cell? ⟨w.heap.size, 2, none⟩ = some (.slice (some ⟨b, o, none⟩) ks.length ck) ∧ w'.cell? ⟨w.heap.size + 1, 2, none⟩ = some (.slice (some ⟨b', o', none⟩) ks.length ck') ∧ w'.cell? ⟨b, o + k * 3, none⟩ = some (.string s1) ∧ w'.cell? ⟨b, o + k * 3 + 1, none⟩ = some (.slice A3 n3 c3) ∧ w'.cell? ⟨b, o + k * 3 + 2, none⟩ = some (.slice A4 n4 c4) ∧ w'.cell? ⟨b', o' + k * 3, none⟩ = some (.string s1') ∧ w'.cell? ⟨b', o' + k * 3 + 1, none⟩ = some (.slice A3' n3' c3') ∧ w'.cell? ⟨b', o' + k * 3 + 2, none⟩ = some (.slice A4' n4' c4')) 11
            [(0, true), (1, true), (2, true), (3, true), (4, true), (5, true), (6, true), (7, true), (8, true), (9, true), (10, false), (11, false)] (by kernel_rfl) (by kernel_rfl) ⟨g2, g2', d1, d2, d3, d1', d2', d3'⟩ ?_
          simp only [opsIn, List.map_cons, List.map_nil, List.getElem?_toArray, List.getElem?_cons_zero, List.getElem?_cons_succ, Option.getD_some, Nat.reduceBEq]
          iterate 10
            refine' Seq.quiet (by rfl) ?_ ?_
            rotate_left
            · rintro w' ⟨hS1, hS2, hS3, hS4, hS5, hS6, hS7, hS8⟩
              go_simp
              try with_reducible rfl
            try simp only [Act.put, List.setIfInBounds_toArray, List.set_cons_zero, List.set_cons_succ]
          refine Seq.eff ?_ ?_
          · rfl
          intro K hK
          go_simp
          refine HI.out.mono ?_
          rintro e w1 ⟨rfl, hb⟩
          have hb' : Below wr.heap.size wr w1 := (Below.refl _ _).drew.trans hb
          refine hK.out _ _ (.inr ⟨(hb'.cell (p := ⟨w.heap.size, 2, none⟩) (by simp; omega)).trans g2, (hb'.cell (p := ⟨w.heap.size + 1, 2, none⟩) (by simp; omega)).trans g2', (hb'.cell (World.block_lt_of_cell? _ _ d1)).trans d1, (hb'.cell (World.block_lt_of_cell? _ _ d2)).trans d2, (hb'.cell (World.block_lt_of_cell? _ _ d3)).trans d3, (hb'.cell (World.block_lt_of_cell? _ _ d1')).trans d1', (hb'.cell (World.block_lt_of_cell? _ _ d2')).trans d2', (hb'.cell (World.block_lt_of_cell? _ _ d3')).trans d3'⟩) ?_
          clear hK K
          try simp only [Act.put, List.setIfInBounds_toArray, List.set_cons_zero, List.set_cons_succ]
          refine Seq.last ?_ ?_
          · rfl
          intro K hK
          go_simp
          refine hK.out _ _ ?_
          clear hK K
          have HF := Lib.hid (show Below w.heap.size w w1 ∧ Cs w1 w.heap.size #[.string name, .slice Ap ps.length cp, .slice (some ⟨b, o, none⟩) ks.length ck] ∧ Cs w1 (w.heap.size + 1) #[.string name, .slice Ap' ps.length cp', .slice (some ⟨b', o', none⟩) ks.length ck'] from ⟨HX.out.1.trans (hb'.mono (by omega)), HX.out.2.1.below hb' lx, HX.out.2.2.below hb' ly⟩)
          clear hb hb'
          go_wp2_with fail
          exact ⟨⟨k + 1, hlt, by go_num, HF.out⟩, by simp [intOf]; omega⟩
        · obtain rfl : k = ks.length := by omega
          have HF := Lib.hid hF
          clear hF x y
          go_wp2_with fail
          go_ret
          exact ⟨rfl, HF.out⟩
end Go.Proofs.Ytlbhadggfipckaa
