/-
  spec.Same, spec.Equal of data that are the same.
  spec.Equal of trees that are the same.
  spec.put, spec.padded.
  spec.padded; what spec's writer leaves as it was.
  spec's writer: token.
-/
import Derived.Test.YtlbhadggfipckaaMa16
import Derived.Test.YtlbhadggfipckaaMa10
set_option linter.unusedVariables false
set_option linter.unusedSimpArgs false
namespace Go.Proofs.Ytlbhadggfipckaa
open Go.RowKit

theorem bytes_str (w : World) {ok : Nat → Prop} {A : Option Addr} {c : Nat} {l : List UInt8} (h : ValC w ok (.slice A l.length c) l) (m : Nat) : (convert 24 9 (.slice A l.length c)).run Try.prog (w.drewN m) = .ok (.string (strOf l)) (w.drewN m) := by
  obtain ⟨A', c', e, h1, h2, h3, h4⟩ := h
  cases e
  refine conv_str (w.drewN m) A l.length c l rfl ?_
  rcases h4 with h4 | ⟨b, o, rfl, -, h4⟩
  · exact .inl h4
  · exact .inr ⟨b, o, rfl, h4⟩

set_option maxHeartbeats 2000000 in
theorem same_walk (n : Nd) : ∀ (w : World) (ok ok' : Nat → Prop) (t t' : Value × Value × Value), (∀ k, ok k → k < w.heap.size) → (∀ k, ok' k → k < w.heap.size) → NodeC w ok n t → NodeC w ok' n t' →
    Calls Try.prog 46 #[.agg #[t.1, t.2.1, t.2.2], .agg #[t'.1, t'.2.1, t'.2.2]] w fun e w' => e = .returned (.bool true) ∧ Below w.heap.size w w' := by
  refine Nd.ind (P := fun n => ∀ (w : World) (ok ok' : Nat → Prop) (t t' : Value × Value × Value), (∀ k, ok k → k < w.heap.size) → (∀ k, ok' k → k < w.heap.size) → NodeC w ok n t → NodeC w ok' n t' →
    Calls Try.prog 46 #[.agg #[t.1, t.2.1, t.2.2], .agg #[t'.1, t'.2.1, t'.2.2]] w fun e w' => e = .returned (.bool true) ∧ Below w.heap.size w w') ?_ n
  intro name ps ks IH w ok ok' t t' hok hok' hn hn'
  obtain ⟨vp, vk, rfl, hns, hps, hks⟩ := hn.open_
  obtain ⟨Ap, cp, ts, rfl, hp1, hp2, hp3, hp4, hp5⟩ := hps
  obtain ⟨Ak, ck, us, rfl, hk1, hk2, hk3, hk4, hk5⟩ := hks
  obtain ⟨vp', vk', rfl, -, hps', hks'⟩ := hn'.open_
  obtain ⟨Ap', cp', ts', rfl, -, -, -, hp4', hp5'⟩ := hps'
  obtain ⟨Ak', ck', us', rfl, -, -, -, hk4', hk5'⟩ := hks'
  have Hp4 := Lib.hid hp4
  have Hp5 := Lib.hid hp5
  have Hk4 := Lib.hid hk4
  have Hk5 := Lib.hid hk5
  have Hp4' := Lib.hid hp4'
  have Hp5' := Lib.hid hp5'
  have Hk4' := Lib.hid hk4'
  have Hk5' := Lib.hid hk5'
  have IH := Lib.hid IH
  have Hok := Lib.hid (And.intro hok hok')
  clear hp4 hp5 hk4 hk5 hn hp4' hp5' hk4' hk5' hn' hok hok'
  go_enter Try.func46, Try.ntmps46
  go_wp2_with fail
  go_loopw [34] (fun i wr => ∃ k : Nat, k ≤ ps.length ∧ i = .int .i64 k ∧ Below w.heap.size w wr ∧ Cs wr w.heap.size #[.string name, .slice Ap ps.length cp, .slice Ak ks.length ck] ∧ Cs wr (w.heap.size + 1) #[.string name, .slice Ap' ps.length cp', .slice Ak' ks.length ck']) (fun i _ => ps.length - (intOf i).toNat)
  case atStart => exact ⟨0, by omega, by go_num, ((Below.refl _ _).alloc (Nat.le_refl _) _).alloc (by simp) _, (Cs.new _ _ _).alloc _, Cs.new' _ _ _ _ (by simp)⟩
  case round =>
    obtain ⟨k, hk, rfl, hF, x, y⟩ := hrel
    have lx := x.lt
    have ly := y.lt
    by_cases hlt : k < ps.length
    · have hne : ps ≠ [] := by rintro rfl; simp at hlt
      obtain ⟨b, o, rfl, hob, hD⟩ := Hp5.out.resolve_left hne
      obtain ⟨b', o', rfl, hob', hD'⟩ := Hp5'.out.resolve_left hne
      have hp4 := Hp4.out
      have hp4' := Hp4'.out
      have hkp : ps[k]? = some ps[k] := List.getElem?_eq_getElem hlt
      have hlt2 : k < ts.length := by rw [← hp4.1]; exact hlt
      have hlt2' : k < ts'.length := by rw [← hp4'.1]; exact hlt
      have hkt : ts[k]? = some (ts[k]'hlt2) := List.getElem?_eq_getElem hlt2
      have hkt' : ts'[k]? = some (ts'[k]'hlt2') := List.getElem?_eq_getElem hlt2'
      obtain ⟨e1, pn, hval⟩ := hp4.2 k _ _ hkp hkt
      obtain ⟨e1', pn', hval'⟩ := hp4'.2 k _ _ hkp hkt'
      obtain ⟨Av, cv, e3, v1, v2, v3, v4⟩ := id hval
      obtain ⟨Av', cv', e3', v1', v2', v3', v4'⟩ := id hval'
      rw [e3] at hval
      rw [e3'] at hval'
      obtain ⟨d1, d2⟩ := hD k _ hkt
      obtain ⟨d1', d2'⟩ := hD' k _ hkt'
      have hbo := Hok.out.1 b hob
      have hbo' := Hok.out.2 b' hob'
      have tr : ∀ g y, g < w.heap.size → w.cell? ⟨g, y, none⟩ = wr.cell? ⟨g, y, none⟩ := fun g y hg => (World.cell?_of_block (a := ⟨g, y, none⟩) (hF.block g hg)).symm
      rw [tr b _ hbo, e1] at d1
      rw [tr b _ hbo, e3] at d2
      rw [tr b' _ hbo', e1'] at d1'
      rw [tr b' _ hbo', e3'] at d2'
      have hki : (0 : Int) ≤ (k : Int) := by omega
      have hbl : b < wr.heap.size := by omega
      have hbl' : b' < wr.heap.size := by omega
      have hB1 : Below w.heap.size w (wr.alloc (.cells #[.string ps[k].name, .slice Av ps[k].val.length cv] 125)) := hF.alloc (by omega) _
      have hcv := bytes_str _ (hval.mono (Same.of_below hB1 Hok.out.1) (fun _ h => h))
      have hcv' := bytes_str _ (hval'.mono (Same.of_below hB1 Hok.out.2) (fun _ h => h))
      have HX := Lib.hid (And.intro hF (And.intro x y))
      have x1 : wr.cell? ⟨w.heap.size, 1, none⟩ = some (.slice (some ⟨b, o, none⟩) ps.length cp) := (x.cell 1).trans rfl
      have y1 : wr.cell? ⟨w.heap.size + 1, 1, none⟩ = some (.slice (some ⟨b', o', none⟩) ps.length cp') := (y.cell 1).trans rfl
      generalize ps[k] = pk at *
      clear hkp hkt hkt' hD hD' hp4 hp4' hval hval' v4 v4' tr hF hB1 x y e1 e3 e1' e3'
      go_wp2_with fail
      go_quiet (fail)
      go_wp2_with fail
      go_roundw
      case rel => exact ⟨k + 1, hlt, by go_num, blw_drewN (HX.out.1.alloc (by omega) _) _, (HX.out.2.1.alloc _).drewN _, (HX.out.2.2.alloc _).drewN _⟩
      case measure => simp [intOf]; omega
    · obtain rfl : k = ps.length := by omega
      obtain ⟨wo, rfl⟩ : ∃ wo : World, wo = wr := ⟨_, rfl⟩
      have HX := Lib.hid (And.intro hF (And.intro x y))
      have x2 : wo.cell? ⟨w.heap.size, 2, none⟩ = some (.slice Ak ks.length ck) := (x.cell 2).trans rfl
      clear hF x y
      go_wp2_with fail
      go_loopw [65] (fun i wr => ∃ k : Nat, k ≤ ks.length ∧ i = .int .i64 k ∧ Below w.heap.size w wr ∧ Cs wr w.heap.size #[.string name, .slice Ap ps.length cp, .slice Ak ks.length ck] ∧ Cs wr (w.heap.size + 1) #[.string name, .slice Ap' ps.length cp', .slice Ak' ks.length ck']) (fun i _ => ks.length - (intOf i).toNat)
      case atStart => exact ⟨0, by omega, by go_num, HX.out.1, HX.out.2.1, HX.out.2.2⟩
      case round =>
        clear HX x2
        obtain ⟨k, hk, rfl, hF, x, y⟩ := hrel
        have lx := x.lt
        have ly := y.lt
        by_cases hlt : k < ks.length
        · have hne : ks ≠ [] := by rintro rfl; simp at hlt
          obtain ⟨b, o, rfl, hob, hD⟩ := Hk5.out.resolve_left hne
          obtain ⟨b', o', rfl, hob', hD'⟩ := Hk5'.out.resolve_left hne
          have hk4 := Hk4.out
          have hk4' := Hk4'.out
          have hkp : ks[k]? = some ks[k] := List.getElem?_eq_getElem hlt
          have hlt2 : k < us.length := by rw [← hk4.1]; exact hlt
          have hlt2' : k < us'.length := by rw [← hk4'.1]; exact hlt
          have hkt : us[k]? = some (us[k]'hlt2) := List.getElem?_eq_getElem hlt2
          have hkt' : us'[k]? = some (us'[k]'hlt2') := List.getElem?_eq_getElem hlt2'
          have hN := hk4.2 k _ _ hkp hkt
          have hN' := hk4'.2 k _ _ hkp hkt'
          obtain ⟨d1, d2, d3⟩ := hD k _ hkt
          obtain ⟨d1', d2', d3'⟩ := hD' k _ hkt'
          have hbo := Hok.out.1 b hob
          have hbo' := Hok.out.2 b' hob'
          have tr : ∀ g y, g < w.heap.size → w.cell? ⟨g, y, none⟩ = wr.cell? ⟨g, y, none⟩ := fun g y hg => (World.cell?_of_block (a := ⟨g, y, none⟩) (hF.block g hg)).symm
          rw [tr b _ hbo] at d1 d2 d3
          rw [tr b' _ hbo'] at d1' d2' d3'
          generalize us[k]'hlt2 = tk at *
          generalize us'[k]'hlt2' = tk' at *
          obtain ⟨s1, A3, n3, c3, A4, n4, c4, rfl⟩ := id hN.form
          obtain ⟨s1', A3', n3', c3', A4', n4', c4', rfl⟩ := id hN'.form
          simp only at d1 d2 d3 d1' d2' d3'
          have hki : (0 : Int) ≤ (k : Int) := by omega
          have hbl : b < wr.heap.size := by omega
          have hbl' : b' < wr.heap.size := by omega
          have hI := IH.out ks[k] (List.getElem_mem hlt) wr.drew ok ok' _ _ (fun x hx => by have := Hok.out.1 x hx; have := hF.size; show x < wr.heap.size; omega) (fun x hx => by have := Hok.out.2 x hx; have := hF.size; show x < wr.heap.size; omega) (NodeC.mono (Same.of_below hF.drew Hok.out.1) (fun _ h => h) hN) (NodeC.mono (Same.of_below hF.drew Hok.out.2) (fun _ h => h) hN')
          have HI := Lib.hid hI
          have g2 : wr.cell? ⟨w.heap.size, 2, none⟩ = some (.slice (some ⟨b, o, none⟩) ks.length ck) := (x.cell 2).trans rfl
          have g2' : wr.cell? ⟨w.heap.size + 1, 2, none⟩ = some (.slice (some ⟨b', o', none⟩) ks.length ck') := (y.cell 2).trans rfl
          have HX := Lib.hid (And.intro hF (And.intro x y))
          clear hkt hkt' hkp hD hD' hk4 hk4' hN hN' hI tr hF x y
          have hkb : (k : Int) < (ks.length : Int) := by omega
          go_wp2_with fail
          refine wp_region_seq (fun w' => w'.cell? ⟨w.heap.size, 2, none⟩ = some (.slice (some ⟨b, o, none⟩) ks.length ck) ∧ w'.cell? ⟨w.heap.size + 1, 2, none⟩ = some (.slice (some ⟨b', o', none⟩) ks.length ck') ∧ w'.cell? ⟨b, o + k * 3, none⟩ = some (.string s1) ∧ w'.cell? ⟨b, o + k * 3 + 1, none⟩ = some (.slice A3 n3 c3) ∧ w'.cell? ⟨b, o + k * 3 + 2, none⟩ = some (.slice A4 n4 c4) ∧ w'.cell? ⟨b', o' + k * 3, none⟩ = some (.string s1') ∧ w'.cell? ⟨b', o' + k * 3 + 1, none⟩ = some (.slice A3' n3' c3') ∧ w'.cell? ⟨b', o' + k * 3 + 2, none⟩ = some (.slice A4' n4' c4')) 11
            [(0, true), (1, true), (2, true), (3, true), (4, true), (5, true), (6, true), (7, true), (8, true), (9, true), (10, false), (11, false)] (by kernel_rfl) (by kernel_rfl) ⟨g2, g2', d1, d2, d3, d1', d2', d3'⟩ ?_
          simp only [opsIn, List.map_cons, List.map_nil, List.getElem?_toArray, List.getElem?_cons_zero, List.getElem?_cons_succ, Option.getD_some, Nat.reduceBEq]
          iterate 10
            refine' Seq.quiet (by rfl) ?_ ?_
            rotate_left
            · rintro w' ⟨hS1, hS2, hS3, hS4, hS5, hS6, hS7, hS8⟩
              go_simp
              try with_reducible rfl
            try simp only [Act.put, List.setIfInBounds_toArray, List.set_cons_zero, List.set_cons_succ]
          refine Seq.eff ?_ ?_
          · rfl
          intro K hK
          go_simp
          refine HI.out.mono ?_
          rintro e w1 ⟨rfl, hb⟩
          have hb' : Below wr.heap.size wr w1 := (Below.refl _ _).drew.trans hb
          refine hK.out _ _ (.inr ⟨(hb'.cell (p := ⟨w.heap.size, 2, none⟩) (by simp; omega)).trans g2, (hb'.cell (p := ⟨w.heap.size + 1, 2, none⟩) (by simp; omega)).trans g2', (hb'.cell (World.block_lt_of_cell? _ _ d1)).trans d1, (hb'.cell (World.block_lt_of_cell? _ _ d2)).trans d2, (hb'.cell (World.block_lt_of_cell? _ _ d3)).trans d3, (hb'.cell (World.block_lt_of_cell? _ _ d1')).trans d1', (hb'.cell (World.block_lt_of_cell? _ _ d2')).trans d2', (hb'.cell (World.block_lt_of_cell? _ _ d3')).trans d3'⟩) ?_
          clear hK K
          try simp only [Act.put, List.setIfInBounds_toArray, List.set_cons_zero, List.set_cons_succ]
          refine Seq.last ?_ ?_
          · rfl
          intro K hK
          go_simp
          refine hK.out _ _ ?_
          clear hK K
          have HF := Lib.hid (show Below w.heap.size w w1 ∧ Cs w1 w.heap.size #[.string name, .slice Ap ps.length cp, .slice (some ⟨b, o, none⟩) ks.length ck] ∧ Cs w1 (w.heap.size + 1) #[.string name, .slice Ap' ps.length cp', .slice (some ⟨b', o', none⟩) ks.length ck'] from ⟨HX.out.1.trans (hb'.mono (by omega)), HX.out.2.1.below hb' lx, HX.out.2.2.below hb' ly⟩)
          clear hb hb'
          go_wp2_with fail
          exact ⟨⟨k + 1, hlt, by go_num, HF.out⟩, by simp [intOf]; omega⟩
        · obtain rfl : k = ks.length := by omega
          have HF := Lib.hid hF
          clear hF x y
          go_wp2_with fail
          go_ret
          exact ⟨rfl, HF.out⟩
end Go.Proofs.Ytlbhadggfipckaa

set_option linter.unusedVariables false
set_option linter.unusedSimpArgs false
namespace Go.Proofs.Ytlbhadggfipckaa
open Go.RowKit

set_option maxHeartbeats 1000000 in
theorem equal_walk (t : Tr) (w : World) (ok ok' : Nat → Prop) (cs cs' : Array Value) (hok : ∀ k, ok k → k < w.heap.size) (hok' : ∀ k, ok' k → k < w.heap.size) (ht : TreeC w ok t cs) (ht' : TreeC w ok' t cs') :
    Calls Try.prog 22 #[.agg cs, .agg cs'] w fun e w' => e = .returned (.bool true) ∧ Below w.heap.size w w' := by
  obtain ⟨vr, ⟨k1, k2, k3⟩, rfl, hr, hn, hb⟩ := ht
  obtain ⟨vr', ⟨k1', k2', k3'⟩, rfl, hr', hn', -⟩ := ht'
  obtain ⟨s1, A3, n3, c3, A4, n4, c4, hk⟩ := id hn.form
  obtain ⟨s1', A3', n3', c3', A4', n4', c4', hk'⟩ := id hn'.form
  simp only [Prod.mk.injEq] at hk hk'
  obtain ⟨rfl, rfl, rfl⟩ := hk
  obtain ⟨rfl, rfl, rfl⟩ := hk'
  obtain ⟨A, c, rfl, h1, h2, h3, h4, h5⟩ := hr
  obtain ⟨A', c', rfl, -, -, -, -, h5'⟩ := hr'
  have H5 := Lib.hid h5
  have H5' := Lib.hid h5'
  have Hn := Lib.hid (And.intro hn hn')
  have Hok := Lib.hid (And.intro hok hok')
  clear hn hn' h4 h5 h5' hok hok'
  go_enter Try.func22, Try.ntmps22
  go_wp2_with fail
  go_loopw [37] (fun i wr => ∃ k : Nat, k ≤ t.rooms.length ∧ i = .int .i64 k ∧ Below w.heap.size w wr ∧ Cs wr w.heap.size #[.int .i64 t.ver, .int .i64 t.lc, .int .i64 t.boot, .slice A t.rooms.length c, .string s1, .slice A3 n3 c3, .slice A4 n4 c4] ∧ Cs wr (w.heap.size + 1) #[.int .i64 t.ver, .int .i64 t.lc, .int .i64 t.boot, .slice A' t.rooms.length c', .string s1', .slice A3' n3' c3', .slice A4' n4' c4']) (fun i _ => t.rooms.length - (intOf i).toNat)
  case atStart => exact ⟨0, by omega, by go_num, ((Below.refl _ _).alloc (Nat.le_refl _) _).alloc (by simp) _, (Cs.new _ _ _).alloc _, Cs.new' _ _ _ _ (by simp)⟩
  case round =>
    obtain ⟨k, hk, rfl, hF, x, y⟩ := hrel
    have lx := x.lt
    have ly := y.lt
    obtain ⟨x0, x1, x2, x3, x4, x5, x6⟩ := cells7 x
    obtain ⟨y0, y1, y2, y3, y4, y5, y6⟩ := cells7 y
    by_cases hlt : k < t.rooms.length
    · have hne : t.rooms ≠ [] := by intro e; rw [e] at hlt; simp at hlt
      obtain ⟨b, o, rfl, hob, hD⟩ := H5.out.resolve_left hne
      obtain ⟨b', o', rfl, hob', hD'⟩ := H5'.out.resolve_left hne
      obtain ⟨d1, d2⟩ := hD k (roomC t.rooms[k]) (by simp [hlt])
      obtain ⟨d1', d2'⟩ := hD' k (roomC t.rooms[k]) (by simp [hlt])
      have hbo := Hok.out.1 b hob
      have hbo' := Hok.out.2 b' hob'
      have tr : ∀ g y, g < w.heap.size → w.cell? ⟨g, y, none⟩ = wr.cell? ⟨g, y, none⟩ := fun g y hg => (World.cell?_of_block (a := ⟨g, y, none⟩) (hF.block g hg)).symm
      rw [tr b _ hbo] at d1 d2
      rw [tr b' _ hbo'] at d1' d2'
      generalize t.rooms[k] = rk at *
      obtain ⟨ra, rz⟩ := rk
      simp only [roomC] at d1 d2 d1' d2'
      have hki : (0 : Int) ≤ (k : Int) := by omega
      have hkb : (k : Int) < (t.rooms.length : Int) := by omega
      have HX := Lib.hid (And.intro hF (And.intro x y))
      clear hD hD' tr hF x y
      go_wp2_with fail
      go_quiet (fail)
      go_wp2_with fail
      go_roundw
      case rel => exact ⟨k + 1, hlt, by go_num, blw_drewN HX.out.1 _, HX.out.2.1.drewN _, HX.out.2.2.drewN _⟩
      case measure => simp [intOf]; omega
    · obtain rfl : k = t.rooms.length := by omega
      have HS := Lib.hid (same_walk t.root wr ok ok' _ _ (fun x hx => Nat.lt_of_lt_of_le (Hok.out.1 x hx) hF.size) (fun x hx => Nat.lt_of_lt_of_le (Hok.out.2 x hx) hF.size) (NodeC.mono (Same.of_below hF Hok.out.1) (fun _ h => h) Hn.out.1) (NodeC.mono (Same.of_below hF Hok.out.2) (fun _ h => h) Hn.out.2))
      have HF := Lib.hid hF
      clear hF x y
      go_wp2_with fail
      refine HS.out.mono ?_
      rintro e w1 ⟨rfl, hb⟩
      go_wp2_with fail
      go_ret
      exact ⟨rfl, HF.out.trans (hb.mono HF.out.size)⟩
end Go.Proofs.Ytlbhadggfipckaa

set_option linter.unusedVariables false
set_option linter.unusedSimpArgs false
namespace Go.Proofs.Ytlbhadggfipckaa
open Go.RowKit

/-- The last k bytes of a number, the highest one first. -/
def low (n : Nat) : Nat → List UInt8
  | 0 => []
  | k + 1 => UInt8.ofNat (n / 256 ^ k % 256) :: low n k

theorem low_len (n : Nat) : ∀ k, (low n k).length = k
  | 0 => rfl
  | k + 1 => by simp [low, low_len n k]

theorem ofNat_byteOf (n k : Nat) : UInt8.ofNat (n / 2 ^ k % 256) = byteOf (n : Int) k := by
  unfold byteOf
  have e : ((n : Int) / 2 ^ k % 256).toNat = n / 2 ^ k % 256 := by
    have : ((n : Int) / 2 ^ k % 256) = ((n / 2 ^ k % 256 : Nat) : Int) := by simp
    rw [this, Int.toNat_natCast]
  rw [e]

theorem low4 (n : Nat) : low n 4 = be4 (n : Int) := by
  simp only [low, be4, ← ofNat_byteOf]

theorem low8 (n : Nat) (h : n < 18446744073709551616) : low n 8 = be4 ((n / 4294967296 : Nat) : Int) ++ be4 ((n % 4294967296 : Nat) : Int) := by
  simp only [low, be4, ← ofNat_byteOf, List.cons_append, List.nil_append]
  simp only [Nat.reducePow, Nat.div_one, List.cons.injEq, and_true]
  refine ⟨?_, ?_, ?_, ?_, ?_, ?_, ?_, ?_⟩ <;> first | trivial | (refine congrArg UInt8.ofNat ?_; omega)

def PutPost (w : World) (l : List UInt8) (e : Ending) (w' : World) : Prop :=
  e = .returned (.slice (some ⟨w.heap.size, 0, none⟩) l.length l.length) ∧ w'.ownsRow w.heap.size 5 1 (.slice (some ⟨w.heap.size, 0, none⟩) l.length l.length) l.length (l.map bv) ∧ Below w.heap.size w w'

theorem put_set {n c k : Nat} (hk : k < c) : ((zeros (c - k) ++ low n k).map bv).set (c - 1 - k) (bv (UInt8.ofNat (n / 256 ^ k % 256))) = (zeros (c - (k + 1)) ++ low n (k + 1)).map bv := by
  have e : zeros (c - k) = zeros (c - (k + 1)) ++ [0] := by
    unfold zeros
    rw [show c - k = (c - (k + 1)) + 1 by omega, List.replicate_succ']
  rw [e, ← List.map_set]
  congr 1
  rw [List.append_assoc, List.set_append_right _ _ (by simp [zeros_len]; omega), zeros_len]
  rw [show c - 1 - k - (c - (k + 1)) = 0 by omega]
  rfl

set_option maxHeartbeats 1000000 in
theorem put_walk (w : World) (n c : Nat) (hn : n < 18446744073709551616) (hc : c ≤ 8) : Calls Try.prog 49 #[.int .u64 n, .int .i64 c] w (PutPost w (low n c)) := by
  have hmk := make5 w c (by omega)
  have hrow : (w.alloc (.cells (Array.replicate c (.int .u8 0)) 5)).ownsRow w.heap.size 5 1 (.slice (some ⟨w.heap.size, 0, none⟩) c c) c ((zeros c).map bv) := by
    have := World.ownsRow_lit (base := w.heap.size) (e := 5) (size := 1) w (Array.replicate c (.int .u8 0)) c (Nat.le_refl _) (by simp only [maxLen]; omega) (by simp)
    simpa [zeros, bv] using this
  have Hrow := Lib.hid hrow
  clear hrow
  go_enter Try.func49, Try.ntmps49
  go_wp2_with fail
  go_loopw [11, 0] (fun i m wr => ∃ k : Nat, k ≤ c ∧ i = .int .i64 k ∧ m = .int .u64 ((n / 256 ^ k : Nat) : Int) ∧ wr.ownsRow w.heap.size 5 1 (.slice (some ⟨w.heap.size, 0, none⟩) c c) c ((zeros (c - k) ++ low n k).map bv) ∧ Below w.heap.size w wr) (fun i _ _ => c - (intOf i).toNat)
  case atStart => exact ⟨0, by omega, by go_num, by simp, by simpa [low] using Hrow.out, (Below.refl _ _).alloc (Nat.le_refl _) _⟩
  case round =>
    obtain ⟨k, hk, rfl, rfl, hw, hF⟩ := hrel
    clear hmk
    by_cases hlt : k < c
    · have hget : ((zeros (c - k) ++ low n k).map bv)[c - 1 - k]? = some (.int .u8 0) := by
        rw [List.getElem?_map, List.getElem?_append_left (by simp [zeros_len]; omega)]
        simp [zeros, List.getElem?_replicate]
        omega
      have c0 : wr.cell? ⟨w.heap.size, c - 1 - k, none⟩ = some (.int .u8 0) := by rw [hw.cellAt _ (by omega)]; exact hget
      have f0 := hw.frozenAt (c - 1 - k)
      have st := (hw.stored (c - 1 - k) (bv (UInt8.ofNat (n / 256 ^ k % 256)))).1
      rw [put_set hlt] at st
      have hnk : n / 256 ^ (k + 1) = n / 256 ^ k / 256 := by rw [Nat.pow_succ, Nat.div_div_eq_div_mul]
      have hmb : n / 256 ^ k < 18446744073709551616 := Nat.lt_of_le_of_lt (Nat.div_le_self _ _) hn
      have hbv : bv (UInt8.ofNat (n / 256 ^ k % 256)) = .int .u8 (((n / 256 ^ k : Nat) : Int) % 256) := by
        unfold bv
        rw [UInt8.toNat_ofNat']
        congr 1
        omega
      rw [hbv] at st
      obtain ⟨j, hj⟩ : ∃ j, j = c - 1 - k := ⟨_, rfl⟩
      rw [← hj] at c0 f0 st
      have hjw : IntKind.i64.wrap ((c : Int) - 1 - (k : Int)) = (j : Int) := by simp only [IntKind.wrap, IntKind.bits, IntKind.signed]; simp; omega
      have hjw2 : IntKind.i64.wrap ((c : Int) - 1) = (c : Int) - 1 := by simp only [IntKind.wrap, IntKind.bits, IntKind.signed]; simp; omega
      have hjc : (j : Int) < (c : Int) := by omega
      have hj0 : (0 : Int) ≤ (j : Int) := by omega
      have hki : (0 : Int) ≤ (k : Int) := by omega
      generalize n / 256 ^ k = m at *
      have HF := Lib.hid hF
      have St := Lib.hid st
      have Hnk := Lib.hid hnk
      clear hF st hw hnk hbv hget hj
      go_wp2_with fail
      go_roundw
      case rel => exact ⟨k + 1, hlt, by go_num, by rw [Hnk.out]; simp, St.out, HF.out.setCell (by simp) _⟩
      case measure => simp [intOf]; omega
    · obtain rfl : k = c := by omega
      rw [Nat.sub_self, show zeros 0 ++ low n k = low n k from rfl] at hw
      have HF := Lib.hid (And.intro hw hF)
      clear hw hF
      go_wp2_with fail
      go_ret
      exact ⟨(by rw [low_len]; rfl), by rw [low_len]; exact HF.out.1, HF.out.2⟩
end Go.Proofs.Ytlbhadggfipckaa

set_option linter.unusedVariables false
set_option linter.unusedSimpArgs false
namespace Go.Proofs.Ytlbhadggfipckaa
open Go.RowKit

theorem grown_below {w w1 w2 : World} {r : Option Nat} (h : Below w.heap.size w w1) (g : w1.grownBy w2 r) : w.grownBy w2 r :=
  ⟨g.os.trans h.os, g.tape.trans h.tape, g.output.trans h.output, Nat.le_trans h.size g.size, fun k hk hr => (g.block k (Nat.lt_of_lt_of_le hk h.size) hr).trans (h.block k hk)⟩

theorem grown_then {w w1 w2 : World} {r : Option Nat} (g : w.grownBy w1 r) (h : Below w1.heap.size w1 w2) : w.grownBy w2 r :=
  ⟨h.os.trans g.os, h.tape.trans g.tape, h.output.trans g.output, Nat.le_trans g.size h.size, fun k hk hr => (h.block k (Nat.lt_of_lt_of_le hk g.size)).trans (g.block k hk hr)⟩

/-- The row is the old one, or one that came behind w. -/
def NewRow (w : World) (v v' : Value) : Prop := v'.ownBlock = v.ownBlock ∨ ∀ g, v'.ownBlock = some g → w.heap.size ≤ g

theorem NewRow.refl (w : World) (v : Value) : NewRow w v v := .inl rfl
theorem NewRow.trans {w w1 : World} {v v1 v2 : Value} (h : NewRow w v v1) (k : NewRow w1 v1 v2) (hs : w.heap.size ≤ w1.heap.size) : NewRow w v v2 := by
  rcases k with k | k
  · rcases h with h | h
    · exact .inl (k.trans h)
    · exact .inr fun g hg => h g (k.symm.trans hg)
  · exact .inr fun g hg => Nat.le_trans hs (k g hg)
theorem NewRow.of_at {w w1 : World} {v v' : Value} (h : v'.ownBlock = v.ownBlock ∨ v'.ownBlock = some w1.heap.size) (hs : w.heap.size ≤ w1.heap.size) : NewRow w v v' := by
  rcases h with h | h
  · exact .inl h
  · refine .inr fun g hg => ?_
    rw [h] at hg
    injection hg with hg
    omega

theorem grown_trans {w w1 w2 : World} {v v1 : Value} (h : w.grownBy w1 v.ownBlock) (k : w1.grownBy w2 v1.ownBlock) (hv : NewRow w v v1) : w.grownBy w2 v.ownBlock :=
  ⟨k.os.trans h.os, k.tape.trans h.tape, k.output.trans h.output, Nat.le_trans h.size k.size, fun x hx hr => (k.block x (Nat.lt_of_lt_of_le hx h.size) (fun e => by
    rcases hv with hv | hv
    · exact hr (e.trans hv)
    · have := hv x e.symm
      omega)).trans (h.block x hx hr)⟩

def slen : Value → Nat
  | .slice _ n _ => n
  | _ => 0

theorem zeros_succ (k : Nat) : zeros (k + 1) = zeros k ++ [0] := by unfold zeros; rw [List.replicate_succ']

theorem pad4_zeros (l : List UInt8) : pad4 l = l ++ zeros ((4 - l.length % 4) % 4) := by
  unfold pad4 pad
  split
  · rename_i h; rw [h]; simp [zeros]
  · rename_i h
    have : (4 - l.length % 4) % 4 = 4 - l.length % 4 := by omega
    rw [this]

def PadPost (w : World) (lo : Nat) (v : Value) (l : List UInt8) (e : Ending) (w' : World) : Prop :=
  ∃ A' c', e = .returned (.slice A' l.length c') ∧ w'.ownsRow lo 5 1 (.slice A' l.length c') l.length (l.map bv) ∧ w.grownBy w' v.ownBlock ∧ NewRow w v (.slice A' l.length c')

theorem padded_walk (w : World) (lo : Nat) (A : Option Addr) (c : Nat) (l : List UInt8) (hown : w.ownsRow lo 5 1 (.slice A l.length c) l.length (l.map bv)) (hlo : lo ≤ w.heap.size) (hl : l.length ≤ 10000000) :
    Calls Try.prog 64 #[.slice A l.length c] w (PadPost w lo (.slice A l.length c) (pad4 l)) := by
  have hm : (4 - l.length % 4) % 4 ≤ 3 := by omega
  have hmm : (l.length + (4 - l.length % 4) % 4) % 4 = 0 := by omega
  have hmin : ∀ k, k < (4 - l.length % 4) % 4 → (l.length + k) % 4 ≠ 0 := fun k hk => by omega
  have hp := pad4_zeros l
  have Hown := Lib.hid hown
  have Hp := Lib.hid hp
  clear hp hown
  generalize (4 - l.length % 4) % 4 = m at *
  go_enter Try.func64, Try.ntmps64
  go_wp2_with fail
  go_loopw [0] (fun x wr => ∃ k : Nat, k ≤ m ∧ ∃ A' c', x = .slice A' (l.length + k) c' ∧ wr.ownsRow lo 5 1 (.slice A' (l.length + k) c') (l.length + k) ((l ++ zeros k).map bv) ∧ w.grownBy wr (Value.slice A l.length c).ownBlock ∧ NewRow w (.slice A l.length c) (.slice A' (l.length + k) c')) (fun x _ => l.length + m - slen x)
  case atStart => exact ⟨0, by omega, A, c, rfl, by simpa [zeros] using Hown.out, ⟨rfl, rfl, rfl, Nat.le_refl _, fun _ _ _ => rfl⟩, .inl rfl⟩
  case round =>
    obtain ⟨k, hk, A', c', rfl, hw, hg, hat⟩ := hrel
    have hrem : (((l.length + k : Nat) : Int)).tmod 4 = (((l.length + k) % 4 : Nat) : Int) := by
      rw [Int.tmod_eq_emod_of_nonneg (by omega)]; simp
    have hcast : (l.length : Int) + (k : Int) = ((l.length + k : Nat) : Int) := by simp
    obtain ⟨n, hn⟩ : ∃ n, n = l.length + k := ⟨_, rfl⟩
    have Hn := Lib.hid hn
    rw [← hn] at hw hat hrem hcast
    have hlw := hg.size
    by_cases hlt : k < m
    · have hne : (((n % 4 : Nat) : Int) != 0) = true := by have := hmin k hlt; rw [← hn] at this; simp; omega
      have Hw := Lib.hid hw
      have Hg := Lib.hid hg
      have Hat := Lib.hid hat
      clear hw hg hat
      rw [← hn]
      clear hn
      go_wp2_with (at_builtin; go_must (refine wpList_append_el el24 rfl (.tmp 7) (.tmp 8) rfl lo (.slice A' n c') n ((l ++ zeros k).map bv) rfl (Hw.out.alloc _) (some ⟨wr.heap.size, 0, none⟩) 1 1 [.int .u8 0] rfl (by simp) ((Cs.new _ _ _).rd rfl) (by simp [Value.oneCell']) (by have := Hn.out; omega) (by have := Hn.out; omega) (by simp; omega) ?_); intro v' w1 hown1 hgrow hnil hat2; obtain ⟨A2, c2, rfl⟩ := own_slice hown1; clear hnil)
      have hb : Below wr.heap.size wr (wr.alloc (.cells #[.int .u8 0] 5)) := (Below.refl _ _).alloc (Nat.le_refl _) _
      have e1 := Hn.out
      subst e1
      refine ⟨⟨k + 1, by omega, A2, c2, rfl, ?_, ?_, ?_⟩, by simp [slen]; omega⟩
      · rw [zeros_succ, ← List.append_assoc, List.map_append]
        exact hown1
      · exact grown_trans Hg.out (grown_below hb hgrow) Hat.out
      · exact Hat.out.trans (NewRow.of_at hat2 (by simp)) hlw
    · obtain rfl : k = m := by omega
      have hne : (((n % 4 : Nat) : Int) != 0) = false := by rw [← hn] at hmm; simp; omega
      have HF := Lib.hid (show PadPost w lo (.slice A l.length c) (pad4 l) (.returned (.slice A' n c')) wr from ⟨A', c', by rw [Hp.out, List.length_append, zeros_len, hn], by rw [Hp.out, List.length_append, zeros_len, ← hn]; exact hw, hg, by rw [Hp.out, List.length_append, zeros_len, ← hn]; exact hat⟩)
      clear hw hg hat
      rw [← hn]
      clear hn
      go_wp2_with fail
      go_ret
      exact HF.out

/-- spec's writer at block p: the structure st, the strings ss. -/
structure SW (w : World) (p lo : Nat) (st ss : List UInt8) (nop : Nat) (A : Option Addr) (c : Nat) (B : Option Addr) (d : Nat) : Prop where
  cs : Cs w p #[.slice A st.length c, .slice B ss.length d, .int .i64 nop]
  o1 : w.ownsRow lo 5 1 (.slice A st.length c) st.length (st.map bv)
  o2 : w.ownsRow lo 5 1 (.slice B ss.length d) ss.length (ss.map bv)
  ne : ∀ g, (Value.slice A st.length c).ownBlock = some g → (Value.slice B ss.length d).ownBlock ≠ some g
  lp : p < lo
  lw : lo ≤ w.heap.size

def SWx (w : World) (p lo : Nat) (st ss : List UInt8) (nop : Nat) : Prop := ∃ A c B d, SW w p lo st ss nop A c B d

/-- Block k holds one of the writer's rows. -/
def Rw2 (w : World) (p k : Nat) : Prop := ∃ i a n c, w.cell? ⟨p, i, none⟩ = some (.slice (some a) n c) ∧ a.block = k

def Ou (w : World) (p k : Nat) : Prop := k < w.heap.size ∧ k ≠ p ∧ ¬ Rw2 w p k

/-- What is no part of the writer stays, and does not become a part. -/
structure Kw (p lo : Nat) (w w' : World) : Prop where
  fr : Fr lo (· = p) w w'
  kp : ∀ k, Ou w p k → w'.heap[k]? = w.heap[k]? ∧ Ou w' p k

theorem Kw.refl (p lo : Nat) (w : World) : Kw p lo w w := ⟨Fr.refl _ _ _, fun k h => ⟨rfl, h⟩⟩
theorem Kw.trans {p lo : Nat} {a b c : World} (h : Kw p lo a b) (k : Kw p lo b c) : Kw p lo a c := ⟨h.fr.trans k.fr, fun x hx => ⟨(k.kp x (h.kp x hx).2).1.trans (h.kp x hx).1, (k.kp x (h.kp x hx).2).2⟩⟩
theorem Kw.below {p lo : Nat} {w w' : World} (h : Below w.heap.size w w') (hp : p < w.heap.size) (hl : lo ≤ w.heap.size) : Kw p lo w w' :=
  ⟨Fr.of_below (h.mono hl), fun k hk => ⟨h.block k hk.1, Nat.lt_of_lt_of_le hk.1 h.size, hk.2.1, fun ⟨i, a, n, c, e, hb⟩ => hk.2.2 ⟨i, a, n, c, (World.cell?_of_block (a := ⟨p, i, none⟩) (h.block p hp)).symm.trans e, hb⟩⟩⟩

theorem SW.plt {w : World} {p lo : Nat} {st ss : List UInt8} {nop : Nat} {A : Option Addr} {c : Nat} {B : Option Addr} {d : Nat} (h : SW w p lo st ss nop A c B d) : p < w.heap.size := h.cs.lt

theorem SW.below {w w' : World} {p lo : Nat} {st ss : List UInt8} {nop : Nat} {A : Option Addr} {c : Nat} {B : Option Addr} {d : Nat} (h : SW w p lo st ss nop A c B d) (hb : Below w.heap.size w w') : SW w' p lo st ss nop A c B d :=
  ⟨h.cs.below hb h.plt, own_keep h.o1 (fun g hg => hb.block g (h.o1.lt g hg).2), own_keep h.o2 (fun g hg => hb.block g (h.o2.lt g hg).2), h.ne, h.lp, Nat.le_trans h.lw hb.size⟩

theorem SW.rw2 {w : World} {p lo : Nat} {st ss : List UInt8} {nop : Nat} {A : Option Addr} {c : Nat} {B : Option Addr} {d : Nat} (h : SW w p lo st ss nop A c B d) {k : Nat} :
    Rw2 w p k ↔ (Value.slice A st.length c).ownBlock = some k ∨ (Value.slice B ss.length d).ownBlock = some k := by
  constructor
  · rintro ⟨i, a, n, c', e, hb⟩
    rw [h.cs.cell i] at e
    match i, e with
    | 0, e => simp at e; obtain ⟨rfl, -⟩ := e; exact .inl (by simp [Value.ownBlock, hb])
    | 1, e => simp at e; obtain ⟨rfl, -⟩ := e; exact .inr (by simp [Value.ownBlock, hb])
    | 2, e => simp at e
    | i + 3, e => simp at e
  · rintro (e | e)
    · rcases A with _ | a
      · simp [Value.ownBlock] at e
      · exact ⟨0, a, _, _, (h.cs.cell 0).trans rfl, by simpa [Value.ownBlock] using e⟩
    · rcases B with _ | a
      · simp [Value.ownBlock] at e
      · exact ⟨1, a, _, _, (h.cs.cell 1).trans rfl, by simpa [Value.ownBlock] using e⟩

theorem sw_put0 {w w2 : World} {p lo : Nat} {st ss l : List UInt8} {nop : Nat} {A : Option Addr} {c : Nat} {B : Option Addr} {d : Nat} {A' : Option Addr} {c' : Nat} (h : SW w p lo st ss nop A c B d)
    (hg : w.grownBy w2 (Value.slice A st.length c).ownBlock) (hown : w2.ownsRow lo 5 1 (.slice A' l.length c') l.length (l.map bv)) (hat : NewRow w (.slice A st.length c) (.slice A' l.length c')) :
    SW (w2.setCell ⟨p, 0, none⟩ (.slice A' l.length c')) p lo l ss nop A' c' B d ∧ Kw p lo w (w2.setCell ⟨p, 0, none⟩ (.slice A' l.length c')) := by
  have hp := h.lp
  have hs := hg.size
  have hpl := h.plt
  have hpr : some p ≠ (Value.slice A st.length c).ownBlock := own_ne h.o1 hp
  have hne' : ∀ g, (Value.slice A' l.length c').ownBlock = some g → (Value.slice B ss.length d).ownBlock ≠ some g := fun g hg e => by
    rcases hat with h2 | h2
    · exact h.ne g (h2.symm.trans hg) e
    · have := (h.o2.lt g e).2
      have := h2 g hg
      omega
  have hblk : ∀ k, k < w.heap.size → k ≠ p → some k ≠ (Value.slice A st.length c).ownBlock → (w2.setCell ⟨p, 0, none⟩ (.slice A' l.length c')).heap[k]? = w.heap[k]? := fun k h1 h2 h3 => by
    rw [Below.heap_setCell _ _ _ _ h2, hg.block k h1 h3]
  have hsw : SW (w2.setCell ⟨p, 0, none⟩ (.slice A' l.length c')) p lo l ss nop A' c' B d := by
    refine ⟨?_, ownsRow_setCell_below (a := ⟨p, 0, none⟩) hown hp _, own_keep h.o2 (fun g hg' => hblk g (h.o2.lt g hg').2 (by have := (h.o2.lt g hg').1; omega) (fun e => h.ne g e.symm hg')), hne', hp, by have := h.lw; simp [World.setCell]; omega⟩
    have := (h.cs.grown hg hpr).set_ 0 (.slice A' l.length c')
    simpa using this
  refine ⟨hsw, ⟨(Fr.grown (Fr.refl lo (· = p) w) hg h.lw (fun k hk => .inl (h.o1.lt k hk).1)).setCell (p := ⟨p, 0, none⟩) (.inr rfl) _, fun k hk => ?_⟩⟩
  obtain ⟨h1, h2, h3⟩ := hk
  rw [h.rw2] at h3
  have h4 : some k ≠ (Value.slice A st.length c).ownBlock := fun e => h3 (.inl e.symm)
  refine ⟨hblk k h1 h2 h4, by simp [World.setCell]; omega, h2, fun hr => ?_⟩
  rcases hsw.rw2.1 hr with e | e
  · rcases hat with h5 | h5
    · exact h4 (e.symm.trans h5)
    · have := h5 k e
      omega
  · exact h3 (.inr e)

theorem sw_put1 {w w2 : World} {p lo : Nat} {st ss l : List UInt8} {nop : Nat} {A : Option Addr} {c : Nat} {B : Option Addr} {d : Nat} {A' : Option Addr} {c' : Nat} (h : SW w p lo st ss nop A c B d)
    (hg : w.grownBy w2 (Value.slice B ss.length d).ownBlock) (hown : w2.ownsRow lo 5 1 (.slice A' l.length c') l.length (l.map bv)) (hat : NewRow w (.slice B ss.length d) (.slice A' l.length c')) :
    SW (w2.setCell ⟨p, 1, none⟩ (.slice A' l.length c')) p lo st l nop A c A' c' ∧ Kw p lo w (w2.setCell ⟨p, 1, none⟩ (.slice A' l.length c')) := by
  have hp := h.lp
  have hs := hg.size
  have hpl := h.plt
  have hpr : some p ≠ (Value.slice B ss.length d).ownBlock := own_ne h.o2 hp
  have hne' : ∀ g, (Value.slice A st.length c).ownBlock = some g → (Value.slice A' l.length c').ownBlock ≠ some g := fun g hg e => by
    rcases hat with h2 | h2
    · exact h.ne g hg (h2.symm.trans e)
    · have := (h.o1.lt g hg).2
      have := h2 g e
      omega
  have hblk : ∀ k, k < w.heap.size → k ≠ p → some k ≠ (Value.slice B ss.length d).ownBlock → (w2.setCell ⟨p, 1, none⟩ (.slice A' l.length c')).heap[k]? = w.heap[k]? := fun k h1 h2 h3 => by
    rw [Below.heap_setCell _ _ _ _ h2, hg.block k h1 h3]
  have hsw : SW (w2.setCell ⟨p, 1, none⟩ (.slice A' l.length c')) p lo st l nop A c A' c' := by
    refine ⟨?_, own_keep h.o1 (fun g hg' => hblk g (h.o1.lt g hg').2 (by have := (h.o1.lt g hg').1; omega) (fun e => h.ne g hg' e.symm)), ownsRow_setCell_below (a := ⟨p, 1, none⟩) hown hp _, hne', hp, by have := h.lw; simp [World.setCell]; omega⟩
    have := (h.cs.grown hg hpr).set_ 1 (.slice A' l.length c')
    simpa using this
  refine ⟨hsw, ⟨(Fr.grown (Fr.refl lo (· = p) w) hg h.lw (fun k hk => .inl (h.o2.lt k hk).1)).setCell (p := ⟨p, 1, none⟩) (.inr rfl) _, fun k hk => ?_⟩⟩
  obtain ⟨h1, h2, h3⟩ := hk
  rw [h.rw2] at h3
  have h4 : some k ≠ (Value.slice B ss.length d).ownBlock := fun e => h3 (.inr e.symm)
  refine ⟨hblk k h1 h2 h4, by simp [World.setCell]; omega, h2, fun hr => ?_⟩
  rcases hsw.rw2.1 hr with e | e
  · exact h3 (.inl e)
  · rcases hat with h5 | h5
    · exact h4 (e.symm.trans h5)
    · have := h5 k e
      omega
end Go.Proofs.Ytlbhadggfipckaa

set_option linter.unusedVariables false
set_option linter.unusedSimpArgs false
namespace Go.Proofs.Ytlbhadggfipckaa
open Go.RowKit

def nops (k : Nat) : List UInt8 := (List.replicate k (be4 4)).flatten

theorem nops_len (k : Nat) : (nops k).length = 4 * k := by simp [nops, be4]; omega
theorem nops_succ (k : Nat) : nops (k + 1) = nops k ++ be4 4 := by unfold nops; rw [List.replicate_succ']; simp
theorem be4_four : (be4 4).map bv = [.int .u8 0, .int .u8 0, .int .u8 0, .int .u8 4] := rfl

def WrP (w : World) (p lo : Nat) (st ss : List UInt8) (nop : Nat) (e : Ending) (w' : World) : Prop :=
  e = .returned (.tuple #[]) ∧ SWx w' p lo st ss nop ∧ Kw p lo w w'

set_option maxHeartbeats 1000000 in
theorem stoken_walk (w : World) (p lo : Nat) (st ss : List UInt8) (nop : Nat) (h : SWx w p lo st ss nop) (n : Nat) (hn : n < 4294967296) (hnop : nop ≤ 3) (hl : st.length ≤ 1000000) :
    Calls Try.prog 48 #[.pointer (some ⟨p, 0, none⟩), .int .u64 n] w (WrP w p lo (st ++ tok nop n) ss nop) := by
  obtain ⟨A, c, B, d, h⟩ := h
  have c2 := h.cs.cell 2
  simp at c2
  have H := Lib.hid h
  clear h
  go_enter Try.func48, Try.ntmps48
  go_wp2_with fail
  go_loopw [8] (fun i wr => ∃ k : Nat, k ≤ nop ∧ i = .int .i64 k ∧ ∃ A1 c1, SW wr p lo (st ++ nops k) ss nop A1 c1 B d ∧ Kw p lo w wr) (fun i _ => nop - (intOf i).toNat)
  case atStart => exact ⟨0, by omega, by go_num, A, c, by simpa [nops] using H.out, Kw.refl _ _ _⟩
  case round =>
    obtain ⟨k, hk, rfl, A1, c1, hq, hkw⟩ := hrel
    obtain ⟨wo, rfl⟩ : ∃ wo : World, wo = wr := ⟨_, rfl⟩
    clear c2
    have hsl : (st ++ nops k).length ≤ 1000012 := by rw [List.length_append, nops_len]; omega
    have Hst := Lib.hid (And.intro (rfl : st ++ nops k = st ++ nops k) hkw)
    have hki : (0 : Int) ≤ (k : Int) := by omega
    have x0 := hq.cs.cell 0
    have xf := hq.cs.frozen 0
    clear x0
    by_cases hlt : k < nop
    · obtain ⟨s1, hs1⟩ : ∃ s1, s1 = st ++ nops k := ⟨_, rfl⟩
      have xp := hq.plt
      rw [← hs1] at hq hsl
      have x0 : wo.cell? ⟨p, 0, none⟩ = some (.slice A1 s1.length c1) := (hq.cs.cell 0).trans rfl
      have Hs1 := Lib.hid hs1
      have Hq := Lib.hid hq
      have Hk := Lib.hid hkw
      clear hs1 hq hkw Hst
      go_wp2_with (at_builtin; go_must (refine wpList_append_el el24 rfl (.tmp 14) (.tmp 15) rfl lo (.slice A1 s1.length c1) s1.length (s1.map bv) rfl (Hq.out.o1.alloc _) (some ⟨wo.heap.size, 0, none⟩) 4 4 [.int .u8 0, .int .u8 0, .int .u8 0, .int .u8 4] rfl (by simp) ((Cs.new _ _ _).rd rfl) (by simp [Value.oneCell']) (by omega) (by omega) (by simp; have := Hq.out.lw; omega) ?_); intro v' w1 hown1 hgrow hnil hat; obtain ⟨A2, c2, rfl⟩ := own_slice hown1; clear hnil; have q1 := (Hq.out.cs.alloc _).grown hgrow (own_ne Hq.out.o1 Hq.out.lp); have y0 := q1.cell 0; have yf := q1.frozen 0; simp at y0)
      have hb : Below wo.heap.size wo (wo.alloc (.cells #[.int .u8 0, .int .u8 0, .int .u8 0, .int .u8 4] 5)) := (Below.refl _ _).alloc (Nat.le_refl _) _
      have hl2 : (s1 ++ be4 4).length = s1.length + 4 := by simp [be4]
      obtain ⟨z1, z2⟩ := sw_put0 (l := s1 ++ be4 4) (A' := A2) (c' := c2) Hq.out (grown_below hb hgrow) (by rw [hl2, List.map_append, be4_four]; exact hown1) (by rw [hl2]; exact NewRow.of_at hat (by simp))
      rw [hl2] at z1 z2
      refine ⟨⟨k + 1, by omega, by go_num, A2, c2, ?_, Hk.out.trans z2⟩, by simp [intOf]; omega⟩
      rw [nops_succ, ← List.append_assoc, ← Hs1.out]
      exact z1
    · obtain rfl : k = nop := by omega
      obtain ⟨s1, hs1⟩ : ∃ s1, s1 = st ++ nops k := ⟨_, rfl⟩
      rw [← hs1] at hq hsl
      have x0 : wo.cell? ⟨p, 0, none⟩ = some (.slice A1 s1.length c1) := (hq.cs.cell 0).trans rfl
      have xp := hq.plt
      have Hs1 := Lib.hid hs1
      have Hq := Lib.hid hq
      have Hk := Lib.hid hkw
      clear hs1 hq hkw Hst
      go_wp2_with fail
      refine wp_region_seq (fun w' => w'.cell? ⟨p, 0, none⟩ = some (.slice A1 s1.length c1)) 10
        [(0, true), (1, true), (2, true), (3, true), (4, true), (5, true), (6, false), (7, false), (8, true), (9, true), (10, false)] (by kernel_rfl) (by kernel_rfl) x0 ?_
      simp only [opsIn, List.map_cons, List.map_nil, List.getElem?_toArray, List.getElem?_cons_zero, List.getElem?_cons_succ, Option.getD_some, Nat.reduceBEq]
      iterate 6
        refine' Seq.quiet (by rfl) ?_ ?_
        rotate_left
        · rintro w' hS1
          go_simp
          try with_reducible rfl
        try simp only [Act.put, List.setIfInBounds_toArray, List.set_cons_zero, List.set_cons_succ]
      refine Seq.eff ?_ ?_
      · rfl
      intro K hK
      go_simp
      refine (put_walk wo.drew n 4 (by omega) (by omega)).mono ?_
      rintro e w1 ⟨rfl, hrow, hb⟩
      rw [low_len] at hrow
      have hb' : Below wo.heap.size wo w1 := (Below.refl wo.heap.size wo).drew.trans hb
      have q1 := Hq.out.below hb'
      rw [low_len]
      refine hK.out _ _ (.inr ((q1.cs.cell 0).trans rfl)) ?_
      clear hK K
      try simp only [Act.put, List.setIfInBounds_toArray, List.set_cons_zero, List.set_cons_succ]
      refine Seq.eff ?_ ?_
      · rfl
      intro K hK
      refine wp_append_el el24 (.tmp 24) (.tmp 26) rfl lo (.slice A1 s1.length c1) s1.length (s1.map bv) rfl q1.o1 (some ⟨wo.drew.heap.size, 0, none⟩) 4 4 ((low n 4).map bv) rfl (by simp [low_len]) (own_rd hrow) (bv_one _) (by omega) (by omega) q1.lw ?_
      intro v' w2 hown1 hgrow hnil hat
      obtain ⟨A2, c2, rfl⟩ := own_slice hown1
      clear hnil
      have q2 := q1.cs.grown hgrow (own_ne q1.o1 q1.lp)
      have y0 : w2.cell? ⟨p, 0, none⟩ = some (.slice A1 s1.length c1) := (q2.cell 0).trans rfl
      have f0 := q2.frozen 0
      refine hK.out _ _ (.inr y0) ?_
      clear hK K
      try simp only [Act.put, List.setIfInBounds_toArray, List.set_cons_zero, List.set_cons_succ]
      iterate 2
        refine' Seq.quiet (by rfl) ?_ ?_
        rotate_left
        · rintro w' hS1
          go_simp
          try with_reducible rfl
        try simp only [Act.put, List.setIfInBounds_toArray, List.set_cons_zero, List.set_cons_succ]
      refine Seq.last ?_ ?_
      · rfl
      intro K hK
      go_simp
      refine hK.out _ _ ?_
      clear hK K
      have hl2 : (s1 ++ be4 n).length = s1.length + 4 := by simp [be4]
      rw [low4] at hown1
      obtain ⟨z1, z2⟩ := sw_put0 (l := s1 ++ be4 n) (A' := A2) (c' := c2) Hq.out (grown_below hb' hgrow) (by rw [hl2, List.map_append]; exact hown1) (by rw [hl2]; exact NewRow.of_at hat hb'.size)
      rw [hl2] at z1 z2
      have HFIN := Lib.hid (show WrP w p lo (st ++ tok k n) ss k (.returned (.tuple #[])) _ from ⟨rfl, ⟨A2, c2, B, d, by
        have e : st ++ tok k n = s1 ++ be4 n := by rw [Hs1.out]; simp [tok, nops]
        rw [e]
        exact z1⟩, Hk.out.trans z2⟩)
      clear z1 z2 hown1 hgrow hat q2 y0 f0 q1 hb hb' hrow
      go_wp2_with fail
      go_end0
      exact HFIN.out
end Go.Proofs.Ytlbhadggfipckaa
