/-
  FnRoad walked.
-/
import Derived.Test.YtlbhadggfipckaaMa33
set_option linter.unusedVariables false
set_option linter.unusedSimpArgs false
namespace Go.Proofs.Ytlbhadggfipckaa
open Go.RowKit

theorem fmt_lay {ver lc boot : Int} {rs : List (Int × Int)} {n : Nd} {out : List UInt8} (h : Fmt ver lc boot rs n out) : ∃ st strs, EncN strs 0 n st ∧ strs.length ≤ 100000 ∧ st.length ≤ 1000000 ∧ out = Lay 8 ver lc boot rs (st ++ tok 0 9) strs := by
  obtain ⟨st, strs, h1, h2, h3, rfl⟩ := h
  refine ⟨st, strs, h1, h2, h3, ?_⟩
  have e : tok 0 9 = be4 9 := rfl
  have hl : (st ++ be4 9).length = 4 + st.length := by rw [List.length_append, Nat.add_comm]; rfl
  rw [e]
  unfold Lay
  rw [hl]
  simp only [List.append_assoc]
  rfl

set_option maxRecDepth 20000 in
set_option maxHeartbeats 4000000 in
theorem fnRoad_walk (t : Tr) (cs : Array Value) (w : World) (ok : Nat → Prop) (hok : ∀ k, ok k → k < w.heap.size) (ht : TreeC w ok t cs) :
    Calls Try.prog 9 #[.agg cs] w (TruePost w) := by
  obtain ⟨A, c, s1, A3, n3, c3, A4, n4, c4, rfl⟩ := ht.form
  have hb0 : Below w.heap.size w (w.alloc (.cells #[.int .i64 t.ver, .int .i64 t.lc, .int .i64 t.boot, .slice A t.rooms.length c, .string s1, .slice A3 n3 c3, .slice A4 n4 c4] 40)) := (Below.refl _ _).alloc (Nat.le_refl _) _
  have H15 := Lib.hid (fits1_walk _ ok t _ (ht.mono (Same.of_below hb0 hok) (fun _ h => h)))
  have HT := Lib.hid ht
  have HB0 := Lib.hid hb0
  have q0 := Cs.new w 40 #[.int .i64 t.ver, .int .i64 t.lc, .int .i64 t.boot, .slice A t.rooms.length c, .string s1, .slice A3 n3 c3, .slice A4 n4 c4]
  have Hq0 := Lib.hid q0
  clear ht hb0 q0
  go_enter Try.func9, Try.ntmps9
  go_wp2_with fail
  refine H15.out.mono ?_
  rintro e w1 ⟨rfl, hb⟩
  have HB1 := Lib.hid (HB0.out.trans (hb.mono (by simp)))
  have q1 := Hq0.out.below hb (by simp)
  obtain ⟨c0, c1, c2, c3', c4', c5, c6⟩ := cells7 q1
  have Hq1 := Lib.hid q1
  have l1 := q1.lt
  clear hb q1
  by_cases hr : (t.rooms.length : Int) ≤ 2147483647
  case neg =>
    have hd : decide ((t.rooms.length : Int) ≤ 2147483647) = false := decide_eq_false hr
    rw [hd]
    go_wp2_with fail
    go_ret
    exact ⟨rfl, HB1.out⟩
  have hd : decide ((t.rooms.length : Int) ≤ 2147483647) = true := decide_eq_true hr
  rw [hd]
  go_wp2_with fail
  have hok1 : ∀ k, ok k → k < w1.heap.size := fun k hk => Nat.lt_of_lt_of_le (hok k hk) HB1.out.size
  refine (tree_walk w1 ok t _ hok1 (HT.out.mono (Same.of_below HB1.out hok) (fun _ h => h))).mono ?_
  rintro e w2 ⟨x, cx, rfl, hx, hb2, e1, e2, e3, e4, r', hcut⟩
  obtain ⟨B, d, s2, B3, m3, d3, B4, m4, d4, rfl⟩ := hx.form
  have HB2 := Lib.hid (HB1.out.trans (hb2.mono HB1.out.size))
  have Hq2 := Lib.hid (Hq1.out.below hb2 l1)
  have Hsz2 : w.heap.size + 1 ≤ w2.heap.size := by have := hb2.size; omega
  have Hx := Lib.hid hx
  have He := Lib.hid (And.intro e1 (And.intro e2 (And.intro e3 (And.intro e4 hcut))))
  have HX3 := Lib.hid (hx.mono (w' := w2.alloc (.cells #[.int .i64 x.ver, .int .i64 x.lc, .int .i64 x.boot, .slice B x.rooms.length d, .string s2, .slice B3 m3 d3, .slice B4 m4 d4] 48)) (Same.of_below ((Below.refl _ _).alloc (Nat.le_refl _) _) (fun k hk => hk.elim (fun h => by have := hok k h; omega) (fun h => h.2))) (fun _ h => h))
  have hokx : ∀ k, Blo ok w1 w2 k → k < w2.heap.size := fun k hk => hk.elim (fun h => by have := hok k h; omega) (fun h => h.2)
  have q5 := Cs.new w2 48 #[.int .i64 x.ver, .int .i64 x.lc, .int .i64 x.boot, .slice B x.rooms.length d, .string s2, .slice B3 m3 d3, .slice B4 m4 d4]
  have Hq5 := Lib.hid q5
  clear hb2 e1 e2 e3 e4 hcut hx c0 c1 c2 c3' c4' c5 c6 hd q5
  go_wp2_with fail
  refine (fits_walk _ (Blo ok w1 w2) x _ (fun k hk => by have := hokx k hk; simp; omega) HX3.out).mono ?_
  rintro e w3 ⟨hb3, hor⟩
  have s3z := hb3.size
  simp at s3z
  have Hb23 := Lib.hid (((Below.refl w2.heap.size w2).alloc (Nat.le_refl _) _).trans (hb3.mono (by simp)))
  have HB3 := Lib.hid (HB2.out.trans (Hb23.out.mono HB2.out.size))
  have Hq3 := Lib.hid (Hq2.out.below Hb23.out Hsz2)
  have Hq6 := Lib.hid (Hq5.out.below hb3 (by simp))
  clear hb3
  rcases hor with rfl | ⟨rfl, hfit⟩
  · go_wp2_with fail
    refine (works_true w3).mono ?_
    rintro e w4 ⟨rfl, hb4⟩
    go_wp2_with fail
    go_ret
    exact ⟨rfl, HB3.out.trans (hb4.mono HB3.out.size)⟩
  have Hcut := Lib.hid (fits_cut hfit He.out.2.2.2.2)
  have hxt : x = t := fits_same hfit He.out.1 He.out.2.1 He.out.2.2.1 He.out.2.2.2.1 He.out.2.2.2.2
  subst hxt
  obtain ⟨z0, z1, z2, z3, z4, z5, z6⟩ := cells7 Hq6.out
  have hrb : ∀ r ∈ x.rooms, 0 ≤ r.1 ∧ r.1 ≤ 18446744073709551615 ∧ 0 ≤ r.2 ∧ r.2 ≤ 18446744073709551615 := by
    obtain ⟨vr, k, -, ⟨-, -, -, -, -, -, h, -⟩, -⟩ := HT.out
    exact h
  have hok3 : ∀ k, Blo ok w1 w2 k → k < w3.heap.size := fun k hk => by have := hokx k hk; omega
  obtain ⟨x0, x1, x2, x3, x4, x5, x6⟩ := cells7 Hq3.out
  have H20 := Lib.hid (format_walk x _ w3 ok (fun k hk => by have := hok k hk; have := HB3.out.size; omega) (HT.out.mono (Same.of_below HB3.out hok) (fun _ h => h)) hfit)
  have Hfit := Lib.hid (And.intro hfit hrb)
  have l3 := Hq6.out.lt
  clear hfit hrb He H15
  go_wp2_with fail
  refine H20.out.mono ?_
  rintro e w4 ⟨v, out, rfl, hb4, hown, hfmt⟩
  obtain ⟨A5, c5, rfl⟩ := own_slice hown
  obtain ⟨st, strs, henc, hsl, hstl, hout⟩ := fmt_lay hfmt
  obtain ⟨bt, rsN, hgood, hx5⟩ := good_of (gap := 8) Hfit.out.1 Hfit.out.2 henc hsl hstl (by omega) (by omega) (by omega)
  rw [← hout] at hgood
  obtain ⟨o1, o2, -⟩ := own_form hown
  have hsb : SlB w4 (.slice A5 out.length c5) out := ⟨_, c5, rfl, o1, o2, own_rd hown⟩
  have HP := Lib.hid (parse_ok w4 _ out hsb (good_len hgood) bt rsN x.root hgood)
  rw [hx5] at HP
  have HB4 := Lib.hid hb4
  have hz4 := hb4.size
  clear hown hb4 hfmt henc hsl hstl hout hgood hx5 hsb o1 o2 H20 z0 z1 z2 z3 z4 z5 z6 x0 x1 x2 x3 x4 x5 x6
  go_wp2_with fail
  refine HP.out.mono ?_
  rintro e w5 ⟨cs5, rfl, hT5, hb5⟩
  obtain ⟨E, ed, es, E3, en, ee, E4, em, ef, rfl⟩ := hT5.form
  have hz5 := hb5.size
  have q75 : Cs w5 w2.heap.size #[.int .i64 x.ver, .int .i64 x.lc, .int .i64 x.boot, .slice B x.rooms.length d, .string s2, .slice B3 m3 d3, .slice B4 m4 d4] := (Hq6.out.below HB4.out l3).below hb5 (by omega)
  have Hq8 := Lib.hid (And.intro (Cs.new w5 40 #[.int .i64 x.ver, .int .i64 x.lc, .int .i64 x.boot, .slice E x.rooms.length ed, .string es, .slice E3 en ee, .slice E4 em ef]).drew (q75.alloc (.cells #[.int .i64 x.ver, .int .i64 x.lc, .int .i64 x.boot, .slice E x.rooms.length ed, .string es, .slice E3 en ee, .slice E4 em ef] 40)).drew)
  have hokE : ∀ k, Rng w4 w5 k → k < ((w5.alloc (.cells #[.int .i64 x.ver, .int .i64 x.lc, .int .i64 x.boot, .slice E x.rooms.length ed, .string es, .slice E3 en ee, .slice E4 em ef] 40)).drew).heap.size := fun k hk => by have := hk.2; simp; omega
  have hokE0 : ∀ k, Rng w4 w5 k → k < w5.heap.size := fun k hk => hk.2
  have HTE := Lib.hid hT5
  have HX8 := Lib.hid (HX3.out.mono (w' := w5) (fun k hk => by
    have := hokx k hk
    rw [Below.heap_alloc _ _ _ this, hb5.block k (by omega), HB4.out.block k (by omega)]
    exact Hb23.out.block k this) (fun _ h => h))
  have HB5 := Lib.hid (((HB3.out.trans (HB4.out.mono HB3.out.size)).trans (hb5.mono (by have := HB3.out.size; omega))))
  clear hT5 hb5 q75 HP
  go_wp2_with fail
  refine wp_region_plan (fun w' => w'.cell? ⟨w5.heap.size, 0, none⟩ = some (.int .i64 x.ver) ∧ w'.cell? ⟨w5.heap.size, 1, none⟩ = some (.int .i64 x.lc) ∧ w'.cell? ⟨w5.heap.size, 2, none⟩ = some (.int .i64 x.boot) ∧ w'.cell? ⟨w5.heap.size, 3, none⟩ = some (.slice E x.rooms.length ed) ∧ w'.cell? ⟨w5.heap.size, 4, none⟩ = some (.string es) ∧ w'.cell? ⟨w5.heap.size, 5, none⟩ = some (.slice E3 en ee) ∧ w'.cell? ⟨w5.heap.size, 6, none⟩ = some (.slice E4 em ef) ∧ w'.cell? ⟨w2.heap.size, 0, none⟩ = some (.int .i64 x.ver) ∧ w'.cell? ⟨w2.heap.size, 1, none⟩ = some (.int .i64 x.lc) ∧ w'.cell? ⟨w2.heap.size, 2, none⟩ = some (.int .i64 x.boot) ∧ w'.cell? ⟨w2.heap.size, 3, none⟩ = some (.slice B x.rooms.length d) ∧ w'.cell? ⟨w2.heap.size, 4, none⟩ = some (.string s2) ∧ w'.cell? ⟨w2.heap.size, 5, none⟩ = some (.slice B3 m3 d3) ∧ w'.cell? ⟨w2.heap.size, 6, none⟩ = some (.slice B4 m4 d4)) 14 (.quiet 0 (.quiet 1 (.quiet 2 (.quiet 3 (.quiet 4 (.quiet 5 (.quiet 7 (.eff 6 (.eff 8 (.quiet 9 (.quiet 10 (.eff 11 (.quiet 12 (.quiet 13 .done)))))))))))))) (by kernel_rfl) (by kernel_rfl) ⟨(Cs.cell (cs := #[.int .i64 x.ver, .int .i64 x.lc, .int .i64 x.boot, .slice E x.rooms.length ed, .string es, .slice E3 en ee, .slice E4 em ef]) Hq8.out.1 0).trans rfl, (Cs.cell (cs := #[.int .i64 x.ver, .int .i64 x.lc, .int .i64 x.boot, .slice E x.rooms.length ed, .string es, .slice E3 en ee, .slice E4 em ef]) Hq8.out.1 1).trans rfl, (Cs.cell (cs := #[.int .i64 x.ver, .int .i64 x.lc, .int .i64 x.boot, .slice E x.rooms.length ed, .string es, .slice E3 en ee, .slice E4 em ef]) Hq8.out.1 2).trans rfl, (Cs.cell (cs := #[.int .i64 x.ver, .int .i64 x.lc, .int .i64 x.boot, .slice E x.rooms.length ed, .string es, .slice E3 en ee, .slice E4 em ef]) Hq8.out.1 3).trans rfl, (Cs.cell (cs := #[.int .i64 x.ver, .int .i64 x.lc, .int .i64 x.boot, .slice E x.rooms.length ed, .string es, .slice E3 en ee, .slice E4 em ef]) Hq8.out.1 4).trans rfl, (Cs.cell (cs := #[.int .i64 x.ver, .int .i64 x.lc, .int .i64 x.boot, .slice E x.rooms.length ed, .string es, .slice E3 en ee, .slice E4 em ef]) Hq8.out.1 5).trans rfl, (Cs.cell (cs := #[.int .i64 x.ver, .int .i64 x.lc, .int .i64 x.boot, .slice E x.rooms.length ed, .string es, .slice E3 en ee, .slice E4 em ef]) Hq8.out.1 6).trans rfl, (Cs.cell (cs := #[.int .i64 x.ver, .int .i64 x.lc, .int .i64 x.boot, .slice B x.rooms.length d, .string s2, .slice B3 m3 d3, .slice B4 m4 d4]) Hq8.out.2 0).trans rfl, (Cs.cell (cs := #[.int .i64 x.ver, .int .i64 x.lc, .int .i64 x.boot, .slice B x.rooms.length d, .string s2, .slice B3 m3 d3, .slice B4 m4 d4]) Hq8.out.2 1).trans rfl, (Cs.cell (cs := #[.int .i64 x.ver, .int .i64 x.lc, .int .i64 x.boot, .slice B x.rooms.length d, .string s2, .slice B3 m3 d3, .slice B4 m4 d4]) Hq8.out.2 2).trans rfl, (Cs.cell (cs := #[.int .i64 x.ver, .int .i64 x.lc, .int .i64 x.boot, .slice B x.rooms.length d, .string s2, .slice B3 m3 d3, .slice B4 m4 d4]) Hq8.out.2 3).trans rfl, (Cs.cell (cs := #[.int .i64 x.ver, .int .i64 x.lc, .int .i64 x.boot, .slice B x.rooms.length d, .string s2, .slice B3 m3 d3, .slice B4 m4 d4]) Hq8.out.2 4).trans rfl, (Cs.cell (cs := #[.int .i64 x.ver, .int .i64 x.lc, .int .i64 x.boot, .slice B x.rooms.length d, .string s2, .slice B3 m3 d3, .slice B4 m4 d4]) Hq8.out.2 5).trans rfl, (Cs.cell (cs := #[.int .i64 x.ver, .int .i64 x.lc, .int .i64 x.boot, .slice B x.rooms.length d, .string s2, .slice B3 m3 d3, .slice B4 m4 d4]) Hq8.out.2 6).trans rfl⟩ ?_
  simp only [planO, opAt, List.getElem?_toArray, List.getElem?_cons_zero, List.getElem?_cons_succ, Option.getD_some, Nat.reduceBEq]
  iterate 7
    first | refine' SeqT.quiet (by rfl) ?_ ?_ | refine' SeqT.quietG (by rfl) ?_ ?_
    rotate_left
    · rintro w' ⟨hS1, hS2, hS3, hS4, hS5, hS6, hS7, hS8, hS9, hS10, hS11, hS12, hS13, hS14⟩
      go_simp
      try with_reducible rfl
    try simp only [Act.put, List.setIfInBounds_toArray, List.set_cons_zero, List.set_cons_succ]
  refine SeqT.effG ?_ ?_
  · rfl
  intro K hK
  go_simp
  refine (tree_walk _ _ x _ hokE (HTE.out.mono (w' := (w5.alloc (.cells #[.int .i64 x.ver, .int .i64 x.lc, .int .i64 x.boot, .slice E x.rooms.length ed, .string es, .slice E3 en ee, .slice E4 em ef] 40)).drew) (fun k hk => Below.heap_alloc _ _ _ (hokE0 k hk)) (fun _ h => h))).mono ?_
  rintro e w6 ⟨y, cy, rfl, hy, hb6, y1, y2, y3, y4, ry, hcy⟩
  obtain ⟨F, fd, fs, F3, fn, fe, F4, fm, ff, rfl⟩ := hy.form
  have hyx : y = x := tr_ext y1 y2 y3 y4 (cut_again Hcut.out hcy)
  subst hyx
  have hz6 := hb6.size
  simp at hz6
  have q66 := Hq8.out.1.below hb6 (by simp)
  have q65 := Hq8.out.2.below hb6 (by simp; omega)
  refine hK.out _ _ (.inr ⟨(Cs.cell (cs := #[.int .i64 y.ver, .int .i64 y.lc, .int .i64 y.boot, .slice E y.rooms.length ed, .string es, .slice E3 en ee, .slice E4 em ef]) q66 0).trans rfl, (Cs.cell (cs := #[.int .i64 y.ver, .int .i64 y.lc, .int .i64 y.boot, .slice E y.rooms.length ed, .string es, .slice E3 en ee, .slice E4 em ef]) q66 1).trans rfl, (Cs.cell (cs := #[.int .i64 y.ver, .int .i64 y.lc, .int .i64 y.boot, .slice E y.rooms.length ed, .string es, .slice E3 en ee, .slice E4 em ef]) q66 2).trans rfl, (Cs.cell (cs := #[.int .i64 y.ver, .int .i64 y.lc, .int .i64 y.boot, .slice E y.rooms.length ed, .string es, .slice E3 en ee, .slice E4 em ef]) q66 3).trans rfl, (Cs.cell (cs := #[.int .i64 y.ver, .int .i64 y.lc, .int .i64 y.boot, .slice E y.rooms.length ed, .string es, .slice E3 en ee, .slice E4 em ef]) q66 4).trans rfl, (Cs.cell (cs := #[.int .i64 y.ver, .int .i64 y.lc, .int .i64 y.boot, .slice E y.rooms.length ed, .string es, .slice E3 en ee, .slice E4 em ef]) q66 5).trans rfl, (Cs.cell (cs := #[.int .i64 y.ver, .int .i64 y.lc, .int .i64 y.boot, .slice E y.rooms.length ed, .string es, .slice E3 en ee, .slice E4 em ef]) q66 6).trans rfl, (Cs.cell (cs := #[.int .i64 y.ver, .int .i64 y.lc, .int .i64 y.boot, .slice B y.rooms.length d, .string s2, .slice B3 m3 d3, .slice B4 m4 d4]) q65 0).trans rfl, (Cs.cell (cs := #[.int .i64 y.ver, .int .i64 y.lc, .int .i64 y.boot, .slice B y.rooms.length d, .string s2, .slice B3 m3 d3, .slice B4 m4 d4]) q65 1).trans rfl, (Cs.cell (cs := #[.int .i64 y.ver, .int .i64 y.lc, .int .i64 y.boot, .slice B y.rooms.length d, .string s2, .slice B3 m3 d3, .slice B4 m4 d4]) q65 2).trans rfl, (Cs.cell (cs := #[.int .i64 y.ver, .int .i64 y.lc, .int .i64 y.boot, .slice B y.rooms.length d, .string s2, .slice B3 m3 d3, .slice B4 m4 d4]) q65 3).trans rfl, (Cs.cell (cs := #[.int .i64 y.ver, .int .i64 y.lc, .int .i64 y.boot, .slice B y.rooms.length d, .string s2, .slice B3 m3 d3, .slice B4 m4 d4]) q65 4).trans rfl, (Cs.cell (cs := #[.int .i64 y.ver, .int .i64 y.lc, .int .i64 y.boot, .slice B y.rooms.length d, .string s2, .slice B3 m3 d3, .slice B4 m4 d4]) q65 5).trans rfl, (Cs.cell (cs := #[.int .i64 y.ver, .int .i64 y.lc, .int .i64 y.boot, .slice B y.rooms.length d, .string s2, .slice B3 m3 d3, .slice B4 m4 d4]) q65 6).trans rfl⟩) ?_
  clear hK K
  try simp only [Act.put, List.setIfInBounds_toArray, List.set_cons_zero, List.set_cons_succ]
  refine SeqT.effG ?_ ?_
  · rfl
  intro K hK
  go_simp
  refine (equal_walk y w6 _ (Blo ok w1 w2) _ _ (fun k hk => hk.elim (fun h => by have := hokE0 k h; omega) (fun h => h.2)) (fun k hk => by have := hokx k hk; omega) hy (HX8.out.mono (w := w5) (w' := w6) (fun k hk => by have h1 := hokx k hk; rw [hb6.block k (by simp; omega)]; exact Below.heap_alloc _ _ _ (by omega)) (fun _ h => h))).mono ?_
  rintro e w7 ⟨rfl, hb7⟩
  have q76 := q66.below hb7 (by omega)
  have q75 := q65.below hb7 (by omega)
  refine hK.out _ _ (.inr ⟨(Cs.cell (cs := #[.int .i64 y.ver, .int .i64 y.lc, .int .i64 y.boot, .slice E y.rooms.length ed, .string es, .slice E3 en ee, .slice E4 em ef]) q76 0).trans rfl, (Cs.cell (cs := #[.int .i64 y.ver, .int .i64 y.lc, .int .i64 y.boot, .slice E y.rooms.length ed, .string es, .slice E3 en ee, .slice E4 em ef]) q76 1).trans rfl, (Cs.cell (cs := #[.int .i64 y.ver, .int .i64 y.lc, .int .i64 y.boot, .slice E y.rooms.length ed, .string es, .slice E3 en ee, .slice E4 em ef]) q76 2).trans rfl, (Cs.cell (cs := #[.int .i64 y.ver, .int .i64 y.lc, .int .i64 y.boot, .slice E y.rooms.length ed, .string es, .slice E3 en ee, .slice E4 em ef]) q76 3).trans rfl, (Cs.cell (cs := #[.int .i64 y.ver, .int .i64 y.lc, .int .i64 y.boot, .slice E y.rooms.length ed, .string es, .slice E3 en ee, .slice E4 em ef]) q76 4).trans rfl, (Cs.cell (cs := #[.int .i64 y.ver, .int .i64 y.lc, .int .i64 y.boot, .slice E y.rooms.length ed, .string es, .slice E3 en ee, .slice E4 em ef]) q76 5).trans rfl, (Cs.cell (cs := #[.int .i64 y.ver, .int .i64 y.lc, .int .i64 y.boot, .slice E y.rooms.length ed, .string es, .slice E3 en ee, .slice E4 em ef]) q76 6).trans rfl, (Cs.cell (cs := #[.int .i64 y.ver, .int .i64 y.lc, .int .i64 y.boot, .slice B y.rooms.length d, .string s2, .slice B3 m3 d3, .slice B4 m4 d4]) q75 0).trans rfl, (Cs.cell (cs := #[.int .i64 y.ver, .int .i64 y.lc, .int .i64 y.boot, .slice B y.rooms.length d, .string s2, .slice B3 m3 d3, .slice B4 m4 d4]) q75 1).trans rfl, (Cs.cell (cs := #[.int .i64 y.ver, .int .i64 y.lc, .int .i64 y.boot, .slice B y.rooms.length d, .string s2, .slice B3 m3 d3, .slice B4 m4 d4]) q75 2).trans rfl, (Cs.cell (cs := #[.int .i64 y.ver, .int .i64 y.lc, .int .i64 y.boot, .slice B y.rooms.length d, .string s2, .slice B3 m3 d3, .slice B4 m4 d4]) q75 3).trans rfl, (Cs.cell (cs := #[.int .i64 y.ver, .int .i64 y.lc, .int .i64 y.boot, .slice B y.rooms.length d, .string s2, .slice B3 m3 d3, .slice B4 m4 d4]) q75 4).trans rfl, (Cs.cell (cs := #[.int .i64 y.ver, .int .i64 y.lc, .int .i64 y.boot, .slice B y.rooms.length d, .string s2, .slice B3 m3 d3, .slice B4 m4 d4]) q75 5).trans rfl, (Cs.cell (cs := #[.int .i64 y.ver, .int .i64 y.lc, .int .i64 y.boot, .slice B y.rooms.length d, .string s2, .slice B3 m3 d3, .slice B4 m4 d4]) q75 6).trans rfl⟩) ?_
  clear hK K
  try simp only [Act.put, List.setIfInBounds_toArray, List.set_cons_zero, List.set_cons_succ]
  iterate 2
    first | refine' SeqT.quiet (by rfl) ?_ ?_ | refine' SeqT.quietG (by rfl) ?_ ?_
    rotate_left
    · rintro w' ⟨hS1, hS2, hS3, hS4, hS5, hS6, hS7, hS8, hS9, hS10, hS11, hS12, hS13, hS14⟩
      go_simp
      try with_reducible rfl
    try simp only [Act.put, List.setIfInBounds_toArray, List.set_cons_zero, List.set_cons_succ]
  refine SeqT.effG ?_ ?_
  · rfl
  intro K hK
  go_simp
  refine (works_true w7).mono ?_
  rintro e w8 ⟨rfl, hb8⟩
  have hz7 := hb7.size
  have q86 := q76.below hb8 (by omega)
  have q85 := q75.below hb8 (by omega)
  refine hK.out _ _ (.inr ⟨(Cs.cell (cs := #[.int .i64 y.ver, .int .i64 y.lc, .int .i64 y.boot, .slice E y.rooms.length ed, .string es, .slice E3 en ee, .slice E4 em ef]) q86 0).trans rfl, (Cs.cell (cs := #[.int .i64 y.ver, .int .i64 y.lc, .int .i64 y.boot, .slice E y.rooms.length ed, .string es, .slice E3 en ee, .slice E4 em ef]) q86 1).trans rfl, (Cs.cell (cs := #[.int .i64 y.ver, .int .i64 y.lc, .int .i64 y.boot, .slice E y.rooms.length ed, .string es, .slice E3 en ee, .slice E4 em ef]) q86 2).trans rfl, (Cs.cell (cs := #[.int .i64 y.ver, .int .i64 y.lc, .int .i64 y.boot, .slice E y.rooms.length ed, .string es, .slice E3 en ee, .slice E4 em ef]) q86 3).trans rfl, (Cs.cell (cs := #[.int .i64 y.ver, .int .i64 y.lc, .int .i64 y.boot, .slice E y.rooms.length ed, .string es, .slice E3 en ee, .slice E4 em ef]) q86 4).trans rfl, (Cs.cell (cs := #[.int .i64 y.ver, .int .i64 y.lc, .int .i64 y.boot, .slice E y.rooms.length ed, .string es, .slice E3 en ee, .slice E4 em ef]) q86 5).trans rfl, (Cs.cell (cs := #[.int .i64 y.ver, .int .i64 y.lc, .int .i64 y.boot, .slice E y.rooms.length ed, .string es, .slice E3 en ee, .slice E4 em ef]) q86 6).trans rfl, (Cs.cell (cs := #[.int .i64 y.ver, .int .i64 y.lc, .int .i64 y.boot, .slice B y.rooms.length d, .string s2, .slice B3 m3 d3, .slice B4 m4 d4]) q85 0).trans rfl, (Cs.cell (cs := #[.int .i64 y.ver, .int .i64 y.lc, .int .i64 y.boot, .slice B y.rooms.length d, .string s2, .slice B3 m3 d3, .slice B4 m4 d4]) q85 1).trans rfl, (Cs.cell (cs := #[.int .i64 y.ver, .int .i64 y.lc, .int .i64 y.boot, .slice B y.rooms.length d, .string s2, .slice B3 m3 d3, .slice B4 m4 d4]) q85 2).trans rfl, (Cs.cell (cs := #[.int .i64 y.ver, .int .i64 y.lc, .int .i64 y.boot, .slice B y.rooms.length d, .string s2, .slice B3 m3 d3, .slice B4 m4 d4]) q85 3).trans rfl, (Cs.cell (cs := #[.int .i64 y.ver, .int .i64 y.lc, .int .i64 y.boot, .slice B y.rooms.length d, .string s2, .slice B3 m3 d3, .slice B4 m4 d4]) q85 4).trans rfl, (Cs.cell (cs := #[.int .i64 y.ver, .int .i64 y.lc, .int .i64 y.boot, .slice B y.rooms.length d, .string s2, .slice B3 m3 d3, .slice B4 m4 d4]) q85 5).trans rfl, (Cs.cell (cs := #[.int .i64 y.ver, .int .i64 y.lc, .int .i64 y.boot, .slice B y.rooms.length d, .string s2, .slice B3 m3 d3, .slice B4 m4 d4]) q85 6).trans rfl⟩) ?_
  clear hK K
  try simp only [Act.put, List.setIfInBounds_toArray, List.set_cons_zero, List.set_cons_succ]
  iterate 2
    first | refine' SeqT.quiet (by rfl) ?_ ?_ | refine' SeqT.quietG (by rfl) ?_ ?_
    rotate_left
    · rintro w' ⟨hS1, hS2, hS3, hS4, hS5, hS6, hS7, hS8, hS9, hS10, hS11, hS12, hS13, hS14⟩
      go_simp
      try with_reducible rfl
    try simp only [Act.put, List.setIfInBounds_toArray, List.set_cons_zero, List.set_cons_succ]
  refine SeqT.done ?_
  have h56 : Below w.heap.size w w6 := ((HB5.out.alloc (by have := HB5.out.size; omega) (.cells #[.int .i64 y.ver, .int .i64 y.lc, .int .i64 y.boot, .slice E y.rooms.length ed, .string es, .slice E3 en ee, .slice E4 em ef] 40)).drew).trans (hb6.mono (by have := HB5.out.size; simp; omega))
  have h57 : Below w.heap.size w w7 := h56.trans (hb7.mono h56.size)
  have HFIN := Lib.hid (h57.trans (hb8.mono h57.size))
  clear hb6 hb7 hb8 h56 h57
  go_wp2_with fail
  go_ret
  exact ⟨rfl, HFIN.out⟩
end Go.Proofs.Ytlbhadggfipckaa
