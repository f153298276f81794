/-
  laws.FnFormat, walked.
-/
import Derived.Test.YtlbhadggfipckaaKi
set_option linter.unusedVariables false
set_option linter.unusedSimpArgs false
namespace Go.Proofs.Ytlbhadggfipckaa
open Go.RowKit

theorem read_of_fmt (w : World) (base : Nat) (A : Option Addr) (c : Nat) (out : List UInt8) (t : Tr) (hfit : FitsP t) (hrb : ∀ r ∈ t.rooms, 0 ≤ r.1 ∧ r.1 ≤ 18446744073709551615 ∧ 0 ≤ r.2 ∧ r.2 ≤ 18446744073709551615) (hfmt : Fmt t.ver t.lc t.boot t.rooms t.root out)
    (hown : w.ownsRow base 5 1 (.slice A out.length c) out.length (out.map bv)) : Calls Try.prog 21 #[.slice A out.length c] w fun e w' => ∃ g cs, g < w.heap.size ∧ e = .returned (.tuple #[.agg cs, .bool true]) ∧ TreeC w' (OkB g w w') t cs ∧ Below w.heap.size w w' := by
  obtain ⟨f1, f2, f3, f4, f5, f6, f7, f8, f9, f10⟩ := hfit
  have hol := hfmt.len (by omega)
  obtain ⟨st, strs, henc, h1, h2, hout⟩ := hfmt
  obtain ⟨ver, lc, boot, rs, root⟩ := t
  simp only at f1 f2 f3 f4 f5 f6 f7 f8 f9 f10 hrb henc hout hol
  subst f3 f4
  obtain ⟨bt, rfl⟩ : ∃ bt : Nat, boot = (bt : Int) := ⟨boot.toNat, by omega⟩
  have hpos : 1 ≤ out.length := by
    rw [hout]
    simp only [List.length_append, zeros_len]
    omega
  obtain ⟨g, rfl⟩ := own_some hown hpos
  have hg := hown.lt g rfl
  obtain ⟨o1, o2, -⟩ := own_form hown
  refine (read_walk w g 0 c out (fun j u hu => by
    have hj := (List.getElem?_eq_some_iff.1 hu).1
    rw [Nat.zero_add, hown.cellAt j (by simpa using hj)]
    exact hu) o1 o2 bt (by omega) rs root (48 + 16 * (rs.length + 1) + (4 + st.length) + strs.length) (48 + 16 * (rs.length + 1)) (48 + 16 * (rs.length + 1) + (4 + st.length)) strs.length (4 + st.length) st strs henc (by omega) rfl (by omega) rfl rfl ?_ hol (by omega) hrb f1 (root_zf f8) (by omega) f2).mono ?_
  · rw [hout]
    simp [List.append_assoc]
  · rintro e w' ⟨cs, rfl, h3, h4⟩
    exact ⟨g, cs, hg.2, rfl, h3, h4⟩

set_option maxHeartbeats 2000000 in
theorem fnFormat_walk (t : Tr) (cs : Array Value) (w : World) (ok : Nat → Prop) (hok : ∀ k, ok k → k < w.heap.size) (ht : TreeC w ok t cs) : Calls Try.prog 6 #[.agg cs] w (TruePost w) := by
  obtain ⟨A, c, s1, A3, n3, c3, A4, n4, c4, rfl⟩ := ht.form
  have hb0 : Below w.heap.size w (w.alloc (.cells #[.int .i64 t.ver, .int .i64 t.lc, .int .i64 t.boot, .slice A t.rooms.length c, .string s1, .slice A3 n3 c3, .slice A4 n4 c4] 40)) := (Below.refl _ _).alloc (Nat.le_refl _) _
  have H15 := Lib.hid (fits1_walk _ ok t _ (ht.mono (Same.of_below hb0 hok) (fun _ h => h)))
  have HT := Lib.hid ht
  have HB0 := Lib.hid hb0
  have q0 := Cs.new w 40 #[.int .i64 t.ver, .int .i64 t.lc, .int .i64 t.boot, .slice A t.rooms.length c, .string s1, .slice A3 n3 c3, .slice A4 n4 c4]
  have Hq0 := Lib.hid q0
  clear ht hb0 q0
  go_enter Try.func6, Try.ntmps6
  go_wp2_with fail
  refine H15.out.mono ?_
  rintro e w1 ⟨rfl, hb⟩
  have HB1 := Lib.hid (HB0.out.trans (hb.mono (by simp)))
  have q1 := Hq0.out.below hb (by simp)
  obtain ⟨c0, c1, c2, c3', c4', c5, c6⟩ := cells7 q1
  have Hq1 := Lib.hid q1
  have l1 := q1.lt
  clear hb q1
  by_cases hr : (t.rooms.length : Int) ≤ 2147483647
  case neg =>
    have hd : decide ((t.rooms.length : Int) ≤ 2147483647) = false := decide_eq_false hr
    rw [hd]
    go_wp2_with fail
    go_ret
    exact ⟨rfl, HB1.out⟩
  have hd : decide ((t.rooms.length : Int) ≤ 2147483647) = true := decide_eq_true hr
  rw [hd]
  go_wp2_with fail
  have hok1 : ∀ k, ok k → k < w1.heap.size := fun k hk => Nat.lt_of_lt_of_le (hok k hk) HB1.out.size
  refine (tree_walk w1 ok t _ hok1 (HT.out.mono (Same.of_below HB1.out hok) (fun _ h => h))).mono ?_
  rintro e w2 ⟨x, cx, rfl, hx, hb2, e1, e2, e3, e4, r', hcut⟩
  obtain ⟨B, d, s2, B3, m3, d3, B4, m4, d4, rfl⟩ := hx.form
  have HB2 := Lib.hid (HB1.out.trans (hb2.mono HB1.out.size))
  have Hq2 := Lib.hid (Hq1.out.below hb2 l1)
  have Hsz2 : w.heap.size + 1 ≤ w2.heap.size := by have := hb2.size; omega
  have Hx := Lib.hid hx
  have He := Lib.hid (And.intro e1 (And.intro e2 (And.intro e3 (And.intro e4 hcut))))
  have HX3 := Lib.hid (hx.mono (w' := w2.alloc (.cells #[.int .i64 x.ver, .int .i64 x.lc, .int .i64 x.boot, .slice B x.rooms.length d, .string s2, .slice B3 m3 d3, .slice B4 m4 d4] 48)) (Same.of_below ((Below.refl _ _).alloc (Nat.le_refl _) _) (fun k hk => hk.elim (fun h => by have := hok k h; omega) (fun h => h.2))) (fun _ h => h))
  have hokx : ∀ k, Blo ok w1 w2 k → k < w2.heap.size := fun k hk => hk.elim (fun h => by have := hok k h; omega) (fun h => h.2)
  have q5 := Cs.new w2 48 #[.int .i64 x.ver, .int .i64 x.lc, .int .i64 x.boot, .slice B x.rooms.length d, .string s2, .slice B3 m3 d3, .slice B4 m4 d4]
  have Hq5 := Lib.hid q5
  clear hb2 e1 e2 e3 e4 hcut hx c0 c1 c2 c3' c4' c5 c6 hd q5
  go_wp2_with fail
  refine (fits_walk _ (Blo ok w1 w2) x _ (fun k hk => by have := hokx k hk; simp; omega) HX3.out).mono ?_
  rintro e w3 ⟨hb3, hor⟩
  have s3z := hb3.size
  simp at s3z
  have Hb23 := Lib.hid (((Below.refl w2.heap.size w2).alloc (Nat.le_refl _) _).trans (hb3.mono (by simp)))
  have HB3 := Lib.hid (HB2.out.trans (Hb23.out.mono HB2.out.size))
  have Hq3 := Lib.hid (Hq2.out.below Hb23.out Hsz2)
  have Hq6 := Lib.hid (Hq5.out.below hb3 (by simp))
  clear hb3
  rcases hor with rfl | ⟨rfl, hfit⟩
  · go_wp2_with fail
    refine (works_true w3).mono ?_
    rintro e w4 ⟨rfl, hb4⟩
    go_wp2_with fail
    go_ret
    exact ⟨rfl, HB3.out.trans (hb4.mono HB3.out.size)⟩
  have hxt : x = t := fits_same hfit He.out.1 He.out.2.1 He.out.2.2.1 He.out.2.2.2.1 He.out.2.2.2.2
  subst hxt
  obtain ⟨x0, x1, x2, x3, x4, x5, x6⟩ := cells7 Hq3.out
  obtain ⟨z0, z1, z2, z3, z4, z5, z6⟩ := cells7 Hq6.out
  have hrb : ∀ r ∈ x.rooms, 0 ≤ r.1 ∧ r.1 ≤ 18446744073709551615 ∧ 0 ≤ r.2 ∧ r.2 ≤ 18446744073709551615 := by
    obtain ⟨vr, k, -, ⟨-, -, -, -, -, -, h, -⟩, -⟩ := HT.out
    exact h
  have H20 := Lib.hid (format_walk x _ w3 ok (fun k hk => by have := hok k hk; have := HB3.out.size; omega) (HT.out.mono (Same.of_below HB3.out hok) (fun _ h => h)) hfit)
  have Hfit := Lib.hid (And.intro hfit hrb)
  have l3 := Hq6.out.lt
  have l3' := Hq3.out.lt
  clear hfit hrb He H15 HX3
  go_wp2_with fail
  refine H20.out.mono ?_
  rintro e w4 ⟨v, out, rfl, hb4, hown, hfmt⟩
  obtain ⟨A5, c5', rfl⟩ := own_slice hown
  have H21 := Lib.hid (read_of_fmt w4 _ A5 c5' out x Hfit.out.1 Hfit.out.2 hfmt hown)
  have HB4 := Lib.hid hb4
  clear hown hfmt hb4 x0 x1 x2 x3 x4 x5 x6
  go_wp2_with fail
  refine H21.out.mono ?_
  rintro e w5 ⟨g, cs, hg, rfl, hcs, hb5⟩
  obtain ⟨A7, c7, s7, B7, n7, d7, C7, m7, e7, rfl⟩ := hcs.form
  have hs4 := HB4.out.size
  have hs5 := hb5.size
  have hs3 := Hb23.out.size
  have HB5 := Lib.hid (HB4.out.trans (hb5.mono hs4))
  have hb6 : Below w5.heap.size w5 (w5.alloc (.cells #[.int .i64 x.ver, .int .i64 x.lc, .int .i64 x.boot, .slice A7 x.rooms.length c7, .string s7, .slice B7 n7 d7, .slice C7 m7 e7] 48)) := (Below.refl _ _).alloc (Nat.le_refl _) _
  have q7 := cells7 ((Hq6.out.below HB5.out l3).alloc (.cells #[.int .i64 x.ver, .int .i64 x.lc, .int .i64 x.boot, .slice A7 x.rooms.length c7, .string s7, .slice B7 n7 d7, .slice C7 m7 e7] 48))
  obtain ⟨y0, y1, y2, y3, y4, y5, y6⟩ := q7
  have HE := Lib.hid (equal_walk x _ (OkB g w4 w5) (Blo ok w1 w2) _ _ (fun k hk => by
      rcases hk with rfl | hk
      · simp; omega
      · have := hk.2; simp; omega) (fun k hk => by have := hokx k hk; simp; omega) (hcs.mono (Same.of_below hb6 (fun k hk => by
      rcases hk with rfl | hk
      · omega
      · exact hk.2)) (fun _ h => h)) (Hx.out.mono (Same.of_below ((Hb23.out.trans (HB5.out.mono hs3)).trans (hb6.mono (by omega))) hokx) (fun _ h => h)))
  have HB6 := Lib.hid hb6
  clear hcs hb5 hb6
  go_wp2_with fail
  refine HE.out.mono ?_
  rintro e w6 ⟨rfl, hb7⟩
  have HB7 := Lib.hid hb7
  clear hb7
  go_wp2_with fail
  refine (works_true w6).mono ?_
  rintro e w7 ⟨rfl, hb8⟩
  go_wp2_with fail
  go_ret
  have h1 := HB3.out.size
  have h2 := HB6.out.size
  have h3 := HB7.out.size
  exact ⟨rfl, ((((HB3.out.trans (HB5.out.mono h1)).trans (HB6.out.mono (by omega))).trans (HB7.out.mono (by simp; omega))).trans (hb8.mono (by simp at h3; omega)))⟩
end Go.Proofs.Ytlbhadggfipckaa
