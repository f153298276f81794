/-
  laws.FnFind, walked.
-/
import Derived.Test.YtlbhadggfipckaaGf
set_option linter.unusedVariables false
set_option linter.unusedSimpArgs false
namespace Go.Proofs.Ytlbhadggfipckaa
open Go.RowKit

theorem cells7 {w : World} {b : Nat} {v1 v2 v3 v4 v5 v6 v7 : Value} (h : Cs w b #[v1, v2, v3, v4, v5, v6, v7]) :
    w.cell? ⟨b, 0, none⟩ = some v1 ∧ w.cell? ⟨b, 1, none⟩ = some v2 ∧ w.cell? ⟨b, 2, none⟩ = some v3 ∧ w.cell? ⟨b, 3, none⟩ = some v4 ∧ w.cell? ⟨b, 4, none⟩ = some v5 ∧ w.cell? ⟨b, 5, none⟩ = some v6 ∧ w.cell? ⟨b, 6, none⟩ = some v7 :=
  ⟨(h.cell 0).trans rfl, (h.cell 1).trans rfl, (h.cell 2).trans rfl, (h.cell 3).trans rfl, (h.cell 4).trans rfl, (h.cell 5).trans rfl, (h.cell 6).trans rfl⟩

theorem TreeC.form {w : World} {ok : Nat → Prop} {t : Tr} {cs : Array Value} (h : TreeC w ok t cs) : ∃ A c s B n d C m e, cs = #[.int .i64 t.ver, .int .i64 t.lc, .int .i64 t.boot, .slice A t.rooms.length c, .string s, .slice B n d, .slice C m e] := by
  obtain ⟨vr, ⟨k1, k2, k3⟩, rfl, hr, hn, hb⟩ := h
  obtain ⟨A, c, rfl, -⟩ := hr
  obtain ⟨s1, A3, n3, c3, A4, n4, c4, hk⟩ := hn.form
  simp only [Prod.mk.injEq] at hk
  obtain ⟨rfl, rfl, rfl⟩ := hk
  exact ⟨_, _, _, _, _, _, _, _, _, rfl⟩

theorem TreeC.root {w : World} {ok : Nat → Prop} {t : Tr} {a b c d e f g : Value} (h : TreeC w ok t #[a, b, c, d, e, f, g]) : NodeC w ok t.root (e, f, g) := by
  obtain ⟨vr, ⟨k1, k2, k3⟩, hk, hr, hn, hb⟩ := h
  have hk := congrArg Array.toList hk
  simp at hk
  obtain ⟨-, -, -, -, h1, h2, h3⟩ := hk
  subst h1 h2 h3
  exact hn

def TruePost (w : World) (e : Ending) (w' : World) : Prop := e = .returned (.bool true) ∧ Below w.heap.size w w'

set_option maxHeartbeats 2000000 in
theorem fnFind_walk (s : ByteArray) (t : Tr) (cs : Array Value) (w : World) (ok : Nat → Prop) (hok : ∀ k, ok k → k < w.heap.size) (ht : TreeC w ok t cs) : Calls Try.prog 5 #[.agg cs, .string s] w (TruePost w) := by
  obtain ⟨A, c, s1, A3, n3, c3, A4, n4, c4, rfl⟩ := ht.form
  have hb0 : Below w.heap.size w (w.alloc (.cells #[.int .i64 t.ver, .int .i64 t.lc, .int .i64 t.boot, .slice A t.rooms.length c, .string s1, .slice A3 n3 c3, .slice A4 n4 c4] 40)) := (Below.refl _ _).alloc (Nat.le_refl _) _
  have H15 := Lib.hid (fits1_walk _ ok t _ (ht.mono (Same.of_below hb0 hok) (fun _ h => h)))
  have HT := Lib.hid ht
  have HB0 := Lib.hid hb0
  have q0 := Cs.new w 40 #[.int .i64 t.ver, .int .i64 t.lc, .int .i64 t.boot, .slice A t.rooms.length c, .string s1, .slice A3 n3 c3, .slice A4 n4 c4]
  have Hq0 := Lib.hid q0
  clear ht hb0 q0
  go_enter Try.func5, Try.ntmps5
  go_wp2_with fail
  refine H15.out.mono ?_
  rintro e w1 ⟨rfl, hb⟩
  have HB1 := Lib.hid (HB0.out.trans (hb.mono (by simp)))
  have q1 := Hq0.out.below hb (by simp)
  obtain ⟨c0, c1, c2, c3', c4', c5, c6⟩ := cells7 q1
  have Hq1 := Lib.hid q1
  have l1 := q1.lt
  clear hb q1
  by_cases hr : (t.rooms.length : Int) ≤ 2147483647
  case neg =>
    have hd : decide ((t.rooms.length : Int) ≤ 2147483647) = false := decide_eq_false hr
    rw [hd]
    go_wp2_with fail
    go_ret
    exact ⟨rfl, HB1.out⟩
  have hd : decide ((t.rooms.length : Int) ≤ 2147483647) = true := decide_eq_true hr
  rw [hd]
  by_cases hs : (2147483647 : Int) < (s.size : Int)
  · have hd2 : decide ((2147483647 : Int) < (s.size : Int)) = true := decide_eq_true hs
    go_wp2_with fail
    go_ret
    exact ⟨rfl, HB1.out⟩
  have hd2 : decide ((2147483647 : Int) < (s.size : Int)) = false := decide_eq_false hs
  go_wp2_with fail
  have hok1 : ∀ k, ok k → k < w1.heap.size := fun k hk => Nat.lt_of_lt_of_le (hok k hk) HB1.out.size
  refine (tree_walk w1 ok t _ hok1 (HT.out.mono (Same.of_below HB1.out hok) (fun _ h => h))).mono ?_
  rintro e w2 ⟨x, cx, rfl, hx, hb2, e1, e2, e3, e4, r', hcut⟩
  obtain ⟨B, d, s2, B3, m3, d3, B4, m4, d4, rfl⟩ := hx.form
  have HB2 := Lib.hid (HB1.out.trans (hb2.mono HB1.out.size))
  have Hq2 := Lib.hid (Hq1.out.below hb2 l1)
  have Hsz2 : w.heap.size + 1 ≤ w2.heap.size := by have := hb2.size; omega
  have Hx := Lib.hid hx
  have He := Lib.hid (And.intro e1 (And.intro e2 (And.intro e3 (And.intro e4 hcut))))
  have HX3 := Lib.hid (hx.mono (w' := w2.alloc (.cells #[.int .i64 x.ver, .int .i64 x.lc, .int .i64 x.boot, .slice B x.rooms.length d, .string s2, .slice B3 m3 d3, .slice B4 m4 d4] 48)) (Same.of_below ((Below.refl _ _).alloc (Nat.le_refl _) _) (fun k hk => hk.elim (fun h => by have := hok k h; omega) (fun h => h.2))) (fun _ h => h))
  have hokx : ∀ k, Blo ok w1 w2 k → k < w2.heap.size := fun k hk => hk.elim (fun h => by have := hok k h; omega) (fun h => h.2)
  have q5 := Cs.new w2 48 #[.int .i64 x.ver, .int .i64 x.lc, .int .i64 x.boot, .slice B x.rooms.length d, .string s2, .slice B3 m3 d3, .slice B4 m4 d4]
  have Hq5 := Lib.hid q5
  clear hb2 e1 e2 e3 e4 hcut hx c0 c1 c2 c3' c4' c5 c6 hd hd2 q5
  go_wp2_with fail
  refine (fits_walk _ (Blo ok w1 w2) x _ (fun k hk => by have := hokx k hk; simp; omega) HX3.out).mono ?_
  rintro e w3 ⟨hb3, hor⟩
  have s3z := hb3.size
  simp at s3z
  have Hb23 := Lib.hid (((Below.refl w2.heap.size w2).alloc (Nat.le_refl _) _).trans (hb3.mono (by simp)))
  have HB3 := Lib.hid (HB2.out.trans (Hb23.out.mono HB2.out.size))
  have Hq3 := Lib.hid (Hq2.out.below Hb23.out Hsz2)
  have Hq6 := Lib.hid (Hq5.out.below hb3 (by simp))
  clear hb3
  rcases hor with rfl | ⟨rfl, hfit⟩
  · go_wp2_with fail
    refine (works_true w3).mono ?_
    rintro e w4 ⟨rfl, hb4⟩
    go_wp2_with fail
    go_ret
    exact ⟨rfl, HB3.out.trans (hb4.mono HB3.out.size)⟩
  by_cases hemp : s = ⟨#[]⟩
  · have hq := empty_true hemp
    clear hemp
    go_wp2_with fail
    refine (works_true w3).mono ?_
    rintro e w4 ⟨rfl, hb4⟩
    go_wp2_with fail
    go_ret
    exact ⟨rfl, HB3.out.trans (hb4.mono HB3.out.size)⟩
  have hq := empty_false hemp
  have hxt : x = t := fits_same hfit He.out.1 He.out.2.1 He.out.2.2.1 He.out.2.2.2.1 He.out.2.2.2.2
  have hdep : t.root.depth ≤ 1000 := by
    have := hfit.2.2.2.2.2.2.2.2.1
    rw [← hxt]
    omega
  obtain ⟨-, -, -, -, c4', c5, c6⟩ := cells7 Hq6.out
  obtain ⟨x0, x1, x2, x3, x4, x5, x6⟩ := cells7 Hq3.out
  have H18 := Lib.hid (find_walk s x.root w3 (Blo ok w1 w2) _ (fun k hk => by have := hokx k hk; omega) (NodeC.mono (Same.of_below Hb23.out hokx) (fun _ h => h) Hx.out.root) (by rw [hxt]; exact hdep))
  have H19 := Lib.hid (fun (w4 : World) (hb4 : Below w3.heap.size w3 w4) => ifind_walk s t _ w4 ok (fun k hk => by have := hok k hk; have := hb4.size; omega) (HT.out.mono (Same.of_below (HB3.out.trans (hb4.mono HB3.out.size)) hok) (fun _ h => h)) hdep)
  rw [hxt] at H18
  have Hq3' := Lib.hid Hq3.out
  clear hemp hfit hxt hdep HX3 Hx He
  generalize t.root.find s = fr at *
  have l3 := Hq3.out.lt
  go_wp2_with fail
  refine H18.out.mono ?_
  rintro e w4 ⟨v, rfl, hb4, hst⟩
  obtain ⟨A5, c5', rfl⟩ := own_slice hst
  have HB4 := Lib.hid (HB3.out.trans (hb4.mono HB3.out.size))
  have H19' := Lib.hid (H19.out w4 hb4)
  obtain ⟨y0, y1, y2, y3, y4, y5, y6⟩ := cells7 (Hq3.out.below hb4 l3)
  have Hst := Lib.hid hst
  clear hst hb4 x0 x1 x2 x3 x4 x5 x6 c4' c5 c6 H19 H18
  go_wp2_with fail
  refine H19'.out.mono ?_
  rintro e w5 ⟨v, rfl, hb5, hst5⟩
  obtain ⟨A6, c6', rfl⟩ := own_slice hst5
  have HB5 := Lib.hid (HB4.out.trans (hb5.mono HB4.out.size))
  have Hst4 := Lib.hid (own_keep Hst.out fun g hg => hb5.block g (Hst.out.lt g hg).2)
  have Hst5 := Lib.hid hst5
  clear hst5 hb5 Hst H19' y0 y1 y2 y3 y4 y5 y6
  generalize fr.getD [] = l at *
  generalize fr.isSome = b at *
  have hbb : (b != b) = false := by simp
  have hll : ((l.length : Int) != (l.length : Int)) = false := by simp
  go_wp2_with fail
  go_loopw [54] (fun i wr => ∃ k : Nat, k ≤ l.length ∧ i = .int .i64 k ∧ Below w5.heap.size w5 wr) (fun i _ => l.length - (intOf i).toNat)
  case atStart => exact ⟨0, by omega, by go_num, Below.refl _ _⟩
  case round =>
    obtain ⟨k, hk, rfl, hF⟩ := hrel
    by_cases hlt : k < l.length
    · obtain ⟨g5, rfl⟩ := own_some Hst4.out (by omega)
      obtain ⟨g6, rfl⟩ := own_some Hst5.out (by omega)
      have k5 := own_keep Hst4.out fun g hg => hF.block g (Hst4.out.lt g hg).2
      have k6 := own_keep Hst5.out fun g hg => hF.block g (Hst5.out.lt g hg).2
      have d5 := k5.cellAt k (by omega)
      have d6 := k6.cellAt k (by omega)
      rw [List.getElem?_map, List.getElem?_eq_getElem hlt] at d5 d6
      simp only [Option.map_some] at d5 d6
      have hki : (0 : Int) ≤ (k : Int) := by omega
      have hkl : (k : Int) < (l.length : Int) := by omega
      have HF := Lib.hid hF
      clear k5 k6 hF
      go_wp2_with fail
      have hlm : l.length ≤ maxLen := Nat.le_trans (own_form Hst4.out).1 (own_form Hst4.out).2.1
      simp only [maxLen] at hlm
      have Hlt := Lib.hid (And.intro hlt hlm)
      go_quiet (fail)
      go_wp2_with fail
      obtain ⟨hlt', hlm'⟩ := Hlt.out
      go_roundw
      case rel => exact ⟨k + 1, hlt', by go_num, blw_drewN HF.out _⟩
      case measure => simp [intOf]; omega
    · obtain rfl : k = l.length := by omega
      have HF := Lib.hid hF
      clear hF
      go_wp2_with fail
      refine (works_true wr).mono ?_
      rintro e w6 ⟨rfl, hb6⟩
      go_wp2_with fail
      go_ret
      exact ⟨rfl, HB5.out.trans ((HF.out.trans (hb6.mono HF.out.size)).mono HB5.out.size)⟩
end Go.Proofs.Ytlbhadggfipckaa
