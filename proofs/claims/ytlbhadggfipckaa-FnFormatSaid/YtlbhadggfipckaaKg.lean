/-
  spec.Equal of trees that are the same.
-/
import Derived.Test.YtlbhadggfipckaaKf
set_option linter.unusedVariables false
set_option linter.unusedSimpArgs false
namespace Go.Proofs.Ytlbhadggfipckaa
open Go.RowKit

set_option maxHeartbeats 1000000 in
theorem equal_walk (t : Tr) (w : World) (ok ok' : Nat → Prop) (cs cs' : Array Value) (hok : ∀ k, ok k → k < w.heap.size) (hok' : ∀ k, ok' k → k < w.heap.size) (ht : TreeC w ok t cs) (ht' : TreeC w ok' t cs') :
    Calls Try.prog 22 #[.agg cs, .agg cs'] w fun e w' => e = .returned (.bool true) ∧ Below w.heap.size w w' := by
  obtain ⟨vr, ⟨k1, k2, k3⟩, rfl, hr, hn, hb⟩ := ht
  obtain ⟨vr', ⟨k1', k2', k3'⟩, rfl, hr', hn', -⟩ := ht'
  obtain ⟨s1, A3, n3, c3, A4, n4, c4, hk⟩ := id hn.form
  obtain ⟨s1', A3', n3', c3', A4', n4', c4', hk'⟩ := id hn'.form
  simp only [Prod.mk.injEq] at hk hk'
  obtain ⟨rfl, rfl, rfl⟩ := hk
  obtain ⟨rfl, rfl, rfl⟩ := hk'
  obtain ⟨A, c, rfl, h1, h2, h3, h4, h5⟩ := hr
  obtain ⟨A', c', rfl, -, -, -, -, h5'⟩ := hr'
  have H5 := Lib.hid h5
  have H5' := Lib.hid h5'
  have Hn := Lib.hid (And.intro hn hn')
  have Hok := Lib.hid (And.intro hok hok')
  clear hn hn' h4 h5 h5' hok hok'
  go_enter Try.func22, Try.ntmps22
  go_wp2_with fail
  go_loopw [37] (fun i wr => ∃ k : Nat, k ≤ t.rooms.length ∧ i = .int .i64 k ∧ Below w.heap.size w wr ∧ Cs wr w.heap.size #[.int .i64 t.ver, .int .i64 t.lc, .int .i64 t.boot, .slice A t.rooms.length c, .string s1, .slice A3 n3 c3, .slice A4 n4 c4] ∧ Cs wr (w.heap.size + 1) #[.int .i64 t.ver, .int .i64 t.lc, .int .i64 t.boot, .slice A' t.rooms.length c', .string s1', .slice A3' n3' c3', .slice A4' n4' c4']) (fun i _ => t.rooms.length - (intOf i).toNat)
  case atStart => exact ⟨0, by omega, by go_num, ((Below.refl _ _).alloc (Nat.le_refl _) _).alloc (by simp) _, (Cs.new _ _ _).alloc _, Cs.new' _ _ _ _ (by simp)⟩
  case round =>
    obtain ⟨k, hk, rfl, hF, x, y⟩ := hrel
    have lx := x.lt
    have ly := y.lt
    obtain ⟨x0, x1, x2, x3, x4, x5, x6⟩ := cells7 x
    obtain ⟨y0, y1, y2, y3, y4, y5, y6⟩ := cells7 y
    by_cases hlt : k < t.rooms.length
    · have hne : t.rooms ≠ [] := by intro e; rw [e] at hlt; simp at hlt
      obtain ⟨b, o, rfl, hob, hD⟩ := H5.out.resolve_left hne
      obtain ⟨b', o', rfl, hob', hD'⟩ := H5'.out.resolve_left hne
      obtain ⟨d1, d2⟩ := hD k (roomC t.rooms[k]) (by simp [hlt])
      obtain ⟨d1', d2'⟩ := hD' k (roomC t.rooms[k]) (by simp [hlt])
      have hbo := Hok.out.1 b hob
      have hbo' := Hok.out.2 b' hob'
      have tr : ∀ g y, g < w.heap.size → w.cell? ⟨g, y, none⟩ = wr.cell? ⟨g, y, none⟩ := fun g y hg => (World.cell?_of_block (a := ⟨g, y, none⟩) (hF.block g hg)).symm
      rw [tr b _ hbo] at d1 d2
      rw [tr b' _ hbo'] at d1' d2'
      generalize t.rooms[k] = rk at *
      obtain ⟨ra, rz⟩ := rk
      simp only [roomC] at d1 d2 d1' d2'
      have hki : (0 : Int) ≤ (k : Int) := by omega
      have hkb : (k : Int) < (t.rooms.length : Int) := by omega
      have HX := Lib.hid (And.intro hF (And.intro x y))
      clear hD hD' tr hF x y
      go_wp2_with fail
      go_quiet (fail)
      go_wp2_with fail
      go_roundw
      case rel => exact ⟨k + 1, hlt, by go_num, blw_drewN HX.out.1 _, HX.out.2.1.drewN _, HX.out.2.2.drewN _⟩
      case measure => simp [intOf]; omega
    · obtain rfl : k = t.rooms.length := by omega
      have HS := Lib.hid (same_walk t.root wr ok ok' _ _ (fun x hx => Nat.lt_of_lt_of_le (Hok.out.1 x hx) hF.size) (fun x hx => Nat.lt_of_lt_of_le (Hok.out.2 x hx) hF.size) (NodeC.mono (Same.of_below hF Hok.out.1) (fun _ h => h) Hn.out.1) (NodeC.mono (Same.of_below hF Hok.out.2) (fun _ h => h) Hn.out.2))
      have HF := Lib.hid hF
      clear hF x y
      go_wp2_with fail
      refine HS.out.mono ?_
      rintro e w1 ⟨rfl, hb⟩
      go_wp2_with fail
      go_ret
      exact ⟨rfl, HF.out.trans (hb.mono HF.out.size)⟩
end Go.Proofs.Ytlbhadggfipckaa
