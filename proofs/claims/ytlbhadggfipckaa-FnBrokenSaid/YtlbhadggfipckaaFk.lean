/-
  spec.Fits.
-/
import Derived.Test.YtlbhadggfipckaaFj
set_option linter.unusedVariables false
set_option linter.unusedSimpArgs false
namespace Go.Proofs.Ytlbhadggfipckaa
open Go.RowKit

def FitsP (x : Tr) : Prop := (∀ r ∈ x.rooms, r.2 ≠ 0) ∧ x.root.has ∧ x.ver = 17 ∧ x.lc = 16 ∧ 0 ≤ x.boot ∧ x.boot < 2147483648 ∧ (x.rooms.length : Int) ≤ 5 ∧ ProperR true x.root ∧ x.root.depth ≤ 6 ∧ x.root.costQ ≤ 2000

def FitsPost (w : World) (x : Tr) (e : Ending) (w' : World) : Prop := Below w.heap.size w w' ∧ (e = .returned (.bool false) ∨ e = .returned (.bool true) ∧ FitsP x)

theorem fits_below {w wr w1 w2 : World} {o : Obj} (h1 : Below w.heap.size w wr) (h2 : Below (wr.alloc o).heap.size (wr.alloc o) w1) (h3 : Fr w1.heap.size (· = wr.heap.size) w1 w2) (hz : w.heap.size < wr.heap.size) : Below w.heap.size w w2 := by
  have := h2.size
  simp at this
  exact ((h1.alloc (by omega) o).trans (h2.mono (by simp; omega))).trans (h3.below (by omega) (by omega))

set_option maxHeartbeats 4000000 in
theorem fits_walk (w : World) (ok : Nat → Prop) (x : Tr) (cs : Array Value) (hok : ∀ k, ok k → k < w.heap.size) (h : TreeC w ok x cs) : Calls Try.prog 17 #[.agg cs] w (FitsPost w x) := by
  obtain ⟨vr, ⟨k1, k2, k3⟩, rfl, hr, hn, hb⟩ := h
  obtain ⟨A, c, rfl, h1, h2, h3, h4, h5⟩ := hr
  obtain ⟨s1, A3, n3, c3, A4, n4, c4, hk⟩ := id hn.form
  simp only [Prod.mk.injEq] at hk
  obtain ⟨rfl, rfl, rfl⟩ := hk
  have Hn := Lib.hid hn
  have H4 := Lib.hid h4
  have H5 := Lib.hid h5
  clear hn hb h4 h5
  go_enter Try.func17, Try.ntmps17
  go_wp2_with fail
  go_loopw [9] (fun i wr => ∃ k : Nat, k ≤ x.rooms.length ∧ i = .int .i64 k ∧ Below w.heap.size w wr ∧ Cs wr w.heap.size #[.int .i64 x.ver, .int .i64 x.lc, .int .i64 x.boot, .slice A x.rooms.length c, .string s1, .slice A3 n3 c3, .slice A4 n4 c4] ∧ Hid (∀ r ∈ x.rooms.take k, r.2 ≠ 0)) (fun i _ => x.rooms.length - (intOf i).toNat)
  case atStart => exact ⟨0, by omega, by go_num, (Below.refl _ _).alloc (by omega) _, Cs.new' _ _ _ _ rfl, Lib.hid (by simp)⟩
  case round =>
    obtain ⟨k, hk, rfl, hF, q, Hnz⟩ := hrel
    have hz := q.lt
    by_cases hlt : k < x.rooms.length
    · have hne : x.rooms ≠ [] := by intro e; simp [e] at hlt
      obtain ⟨b, o, rfl, hob, hD⟩ := H5.out.resolve_left hne
      have hkt : (x.rooms.map roomC)[k]? = some (roomC x.rooms[k]) := by simp [hlt]
      obtain ⟨d1, d2⟩ := hD k _ hkt
      have hbo := hok b hob
      have tr : ∀ y, w.cell? ⟨b, y, none⟩ = wr.cell? ⟨b, y, none⟩ := fun y => (World.cell?_of_block (a := ⟨b, y, none⟩) (hF.block b hbo)).symm
      rw [tr] at d1 d2
      have hmem : ∀ q ∈ x.rooms.take (k + 1), q ∈ x.rooms.take k ∨ q = x.rooms[k] := fun q hq => by
        rw [List.take_succ_eq_append_getElem hlt] at hq
        rcases List.mem_append.1 hq with h | h
        · exact .inl h
        · exact .inr (List.mem_singleton.1 h)
      generalize x.rooms[k] = rk at *
      obtain ⟨ra, rs⟩ := rk
      simp only [roomC] at d1 d2
      have hbl : b < wr.heap.size := by omega
      have hki : (0 : Int) ≤ (k : Int) := by omega
      have HF := Lib.hid hF
      have Hq := Lib.hid q
      have Hm := Lib.hid hmem
      clear hkt hD tr hF q hmem
      by_cases h0 : rs = 0
      · have he : (rs == 0) = true := by simpa using h0
        go_wp2_with fail
        go_ret
        exact ⟨HF.out.alloc (by omega) _, .inl rfl⟩
      · have he : (rs == 0) = false := by simpa using h0
        have Hnz2 : Hid (∀ r ∈ x.rooms.take (k + 1), r.2 ≠ 0) := Lib.hid fun r hr => by
          rcases Hm.out r hr with h | h
          · exact Hnz.out r h
          · rw [h]; exact h0
        go_wp2_with fail
        go_roundw
        case rel => exact ⟨k + 1, by omega, by go_num, HF.out.alloc (by omega) _, Hq.out.alloc _, Hnz2⟩
        case measure => simp [intOf]; omega
    · obtain rfl : k = x.rooms.length := by omega
      rw [List.take_length] at Hnz
      have t0 := q.cell 0
      have t1 := q.cell 1
      have t2 := q.cell 2
      have t3 := q.cell 3
      have t4 := q.cell 4
      have t5 := q.cell 5
      have t6 := q.cell 6
      simp at t0 t1 t2 t3 t4 t5 t6
      have HF := Lib.hid hF
      have Hq := Lib.hid q
      clear hF q
      by_cases g0 : x.ver = 17
      · have b0 : (x.ver == 17) = true := by simpa using g0
        by_cases g1 : x.lc = 16
        · have b1 : (x.lc == 16) = true := by simpa using g1
          by_cases g2 : 0 ≤ x.boot
          · have b2 : decide (0 ≤ x.boot) = true := decide_eq_true g2
            by_cases g3 : x.boot < 2147483648
            · have b3 : decide (x.boot < 2147483648) = true := decide_eq_true g3
              by_cases g4 : (x.rooms.length : Int) ≤ 5
              · have b4 : decide ((x.rooms.length : Int) ≤ 5) = true := decide_eq_true g4
                go_wp2_with (first | (go_at_call 34; refine (some_walk x.root _ ok _ (fun y hy => by have := hok y hy; simp; omega) (NodeC.mono (Same.of_below (HF.out.alloc (by omega) (.cells #[.int .i64 2000] 3)) hok) (fun _ h => h) Hn.out)).mono ?_; rintro e w1 ⟨hor, hb⟩; have q1 := (Hq.out.alloc (.cells #[.int .i64 2000] 3)).below hb (by simp; omega); have t0 := q1.cell 0; have t1 := q1.cell 1; have t2 := q1.cell 2; have t3 := q1.cell 3; have t4 := q1.cell 4; have t5 := q1.cell 5; have t6 := q1.cell 6; simp at t0 t1 t2 t3 t4 t5 t6; have Hb1 := Lib.hid hb; clear q1 hb; rcases hor with rfl | ⟨rfl, hhas⟩) | (go_at_call 35; refine (prop_root 5 (by omega) w1 ok wr.heap.size x.root _ 2000 (by omega) (by omega) (fun y hy => by have := hok y hy; have := Hb1.out.size; simp at this; omega) (fun hy => by have := hok _ hy; omega) (NodeC.mono (Same.of_below ((HF.out.alloc (by omega) (.cells #[.int .i64 2000] 3)).trans (Hb1.out.mono (by simp; omega))) hok) (fun _ h => h) Hn.out) ((Cs.new _ _ _).below Hb1.out (by simp))).mono ?_; rintro e w2 ⟨hf2, hor⟩; have Hf2 := Lib.hid hf2; clear hf2; rcases hor with rfl | ⟨rfl, hpr, hdp, hcq, -⟩))
                · go_ret
                  exact ⟨(HF.out.alloc (by omega) _).trans (Hb1.out.mono (by simp; omega)), .inl rfl⟩
                · go_ret
                  exact ⟨fits_below HF.out Hb1.out Hf2.out hz, .inl rfl⟩
                · go_ret
                  exact ⟨fits_below HF.out Hb1.out Hf2.out hz, .inr ⟨rfl, Hnz.out, hhas, g0, g1, g2, g3, g4, hpr, hdp, by omega⟩⟩
              · have b4 : decide ((x.rooms.length : Int) ≤ 5) = false := decide_eq_false g4
                go_wp2_with (first | (go_at_call 34; refine (some_walk x.root _ ok _ (fun y hy => by have := hok y hy; simp; omega) (NodeC.mono (Same.of_below (HF.out.alloc (by omega) (.cells #[.int .i64 2000] 3)) hok) (fun _ h => h) Hn.out)).mono ?_; rintro e w1 ⟨hor, hb⟩; have q1 := (Hq.out.alloc (.cells #[.int .i64 2000] 3)).below hb (by simp; omega); have t0 := q1.cell 0; have t1 := q1.cell 1; have t2 := q1.cell 2; have t3 := q1.cell 3; have t4 := q1.cell 4; have t5 := q1.cell 5; have t6 := q1.cell 6; simp at t0 t1 t2 t3 t4 t5 t6; have Hb1 := Lib.hid hb; clear q1 hb; rcases hor with rfl | ⟨rfl, hhas⟩))
                · go_ret
                  exact ⟨(HF.out.alloc (by omega) _).trans (Hb1.out.mono (by simp; omega)), .inl rfl⟩
                · go_ret
                  exact ⟨(HF.out.alloc (by omega) _).trans (Hb1.out.mono (by simp; omega)), .inl rfl⟩
            · have b3 : decide (x.boot < 2147483648) = false := decide_eq_false g3
              go_wp2_with (first | (go_at_call 34; refine (some_walk x.root _ ok _ (fun y hy => by have := hok y hy; simp; omega) (NodeC.mono (Same.of_below (HF.out.alloc (by omega) (.cells #[.int .i64 2000] 3)) hok) (fun _ h => h) Hn.out)).mono ?_; rintro e w1 ⟨hor, hb⟩; have q1 := (Hq.out.alloc (.cells #[.int .i64 2000] 3)).below hb (by simp; omega); have t0 := q1.cell 0; have t1 := q1.cell 1; have t2 := q1.cell 2; have t3 := q1.cell 3; have t4 := q1.cell 4; have t5 := q1.cell 5; have t6 := q1.cell 6; simp at t0 t1 t2 t3 t4 t5 t6; have Hb1 := Lib.hid hb; clear q1 hb; rcases hor with rfl | ⟨rfl, hhas⟩))
              · go_ret
                exact ⟨(HF.out.alloc (by omega) _).trans (Hb1.out.mono (by simp; omega)), .inl rfl⟩
              · go_ret
                exact ⟨(HF.out.alloc (by omega) _).trans (Hb1.out.mono (by simp; omega)), .inl rfl⟩
          · have b2 : decide (0 ≤ x.boot) = false := decide_eq_false g2
            go_wp2_with (first | (go_at_call 34; refine (some_walk x.root _ ok _ (fun y hy => by have := hok y hy; simp; omega) (NodeC.mono (Same.of_below (HF.out.alloc (by omega) (.cells #[.int .i64 2000] 3)) hok) (fun _ h => h) Hn.out)).mono ?_; rintro e w1 ⟨hor, hb⟩; have q1 := (Hq.out.alloc (.cells #[.int .i64 2000] 3)).below hb (by simp; omega); have t0 := q1.cell 0; have t1 := q1.cell 1; have t2 := q1.cell 2; have t3 := q1.cell 3; have t4 := q1.cell 4; have t5 := q1.cell 5; have t6 := q1.cell 6; simp at t0 t1 t2 t3 t4 t5 t6; have Hb1 := Lib.hid hb; clear q1 hb; rcases hor with rfl | ⟨rfl, hhas⟩))
            · go_ret
              exact ⟨(HF.out.alloc (by omega) _).trans (Hb1.out.mono (by simp; omega)), .inl rfl⟩
            · go_ret
              exact ⟨(HF.out.alloc (by omega) _).trans (Hb1.out.mono (by simp; omega)), .inl rfl⟩
        · have b1 : (x.lc == 16) = false := by simpa using g1
          go_wp2_with (first | (go_at_call 34; refine (some_walk x.root _ ok _ (fun y hy => by have := hok y hy; simp; omega) (NodeC.mono (Same.of_below (HF.out.alloc (by omega) (.cells #[.int .i64 2000] 3)) hok) (fun _ h => h) Hn.out)).mono ?_; rintro e w1 ⟨hor, hb⟩; have q1 := (Hq.out.alloc (.cells #[.int .i64 2000] 3)).below hb (by simp; omega); have t0 := q1.cell 0; have t1 := q1.cell 1; have t2 := q1.cell 2; have t3 := q1.cell 3; have t4 := q1.cell 4; have t5 := q1.cell 5; have t6 := q1.cell 6; simp at t0 t1 t2 t3 t4 t5 t6; have Hb1 := Lib.hid hb; clear q1 hb; rcases hor with rfl | ⟨rfl, hhas⟩))
          · go_ret
            exact ⟨(HF.out.alloc (by omega) _).trans (Hb1.out.mono (by simp; omega)), .inl rfl⟩
          · go_ret
            exact ⟨(HF.out.alloc (by omega) _).trans (Hb1.out.mono (by simp; omega)), .inl rfl⟩
      · have b0 : (x.ver == 17) = false := by simpa using g0
        go_wp2_with (first | (go_at_call 34; refine (some_walk x.root _ ok _ (fun y hy => by have := hok y hy; simp; omega) (NodeC.mono (Same.of_below (HF.out.alloc (by omega) (.cells #[.int .i64 2000] 3)) hok) (fun _ h => h) Hn.out)).mono ?_; rintro e w1 ⟨hor, hb⟩; have q1 := (Hq.out.alloc (.cells #[.int .i64 2000] 3)).below hb (by simp; omega); have t0 := q1.cell 0; have t1 := q1.cell 1; have t2 := q1.cell 2; have t3 := q1.cell 3; have t4 := q1.cell 4; have t5 := q1.cell 5; have t6 := q1.cell 6; simp at t0 t1 t2 t3 t4 t5 t6; have Hb1 := Lib.hid hb; clear q1 hb; rcases hor with rfl | ⟨rfl, hhas⟩))
        · go_ret
          exact ⟨(HF.out.alloc (by omega) _).trans (Hb1.out.mono (by simp; omega)), .inl rfl⟩
        · go_ret
          exact ⟨(HF.out.alloc (by omega) _).trans (Hb1.out.mono (by simp; omega)), .inl rfl⟩
end Go.Proofs.Ytlbhadggfipckaa
