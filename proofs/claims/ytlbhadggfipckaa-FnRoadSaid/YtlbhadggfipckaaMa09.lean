/-
  impl.Find; a tree that fits is not cut.
  laws.FnFind, walked.
  The package's small writers: beAppend32, Header.bytes, entryBytes.
  The writers: ZZBuffer.Write, AlignWriter.Write, write.
  repeat, AlignWriter.Align, align4, align16, impl.word.
  AlignWriter.Align, Header.bytes, entryBytes.
-/
import Derived.Test.YtlbhadggfipckaaMa08
import Derived.Test.YtlbhadggfipckaaMa00
import Derived.Laws.MakeOwn
set_option linter.unusedVariables false
set_option linter.unusedSimpArgs false
namespace Go.Proofs.Ytlbhadggfipckaa
open Go.RowKit

theorem ifind_walk (s : ByteArray) (t : Tr) (cs : Array Value) (w : World) (ok : Nat → Prop) (hok : ∀ k, ok k → k < w.heap.size) (ht : TreeC w ok t cs) (hd : t.root.depth ≤ 1000) :
    Calls Try.prog 19 #[.agg cs, .string s] w (FindPost w (t.root.find s)) := by
  have hmf : ∀ (fn : Fn) (first cap : Array Value) (w : World), (Instr.makeFunc fn first cap).run Try.prog w = .ok (.func fn first cap) w := fun _ _ _ _ => rfl
  obtain ⟨vr, ⟨k1, k2, k3⟩, rfl, hr, hn, hb⟩ := id ht
  obtain ⟨s1, A3, n3, c3, A4, n4, c4, hk⟩ := id hn.form
  simp only [Prod.mk.injEq] at hk
  obtain ⟨rfl, rfl, rfl⟩ := hk
  obtain ⟨A, c, rfl, -⟩ := id hr
  have HT := Lib.hid ht
  clear hn hb hr ht
  go_enter Try.func19, Try.ntmps19
  go_wp2_with fail
  generalize hW : (((w.alloc (.cells #[.int .i64 t.ver, .int .i64 t.lc, .int .i64 t.boot, .slice A t.rooms.length c, .string s1, .slice A3 n3 c3, .slice A4 n4 c4] 40)).alloc (.cells #[.string s] 9)).alloc (.cells #[.slice none 0 0] 51)) = W
  have hWs : W.heap.size = w.heap.size + 3 := by rw [← hW]; simp
  have hWb : Below w.heap.size w W := by rw [← hW]; exact (((Below.refl _ _).alloc (Nat.le_refl _) _).alloc (by simp) _).alloc (by simp; omega) _
  have hW0 : Cs W w.heap.size #[.int .i64 t.ver, .int .i64 t.lc, .int .i64 t.boot, .slice A t.rooms.length c, .string s1, .slice A3 n3 c3, .slice A4 n4 c4] := by rw [← hW]; exact ((Cs.new _ _ _).alloc _).alloc _
  have hW1 : Cs W (w.heap.size + 1) #[.string s] := by rw [← hW]; exact (Cs.new' _ _ _ _ (by simp)).alloc _
  have hW2 : Cs W (w.heap.size + 1 + 1) #[.slice none 0 0] := by rw [← hW]; exact Cs.new' _ _ _ _ (by simp)
  have hWt : Below w.heap.size w (W.alloc (.cells #[.bool false] 4)) := hWb.alloc (by omega) _
  clear hW
  refine (try_ok (R := fun b w1 => b = (t.root.find s).isSome ∧ Fr (W.heap.size + 1) (· = w.heap.size + 1 + 1) (W.alloc (.cells #[.bool false] 4)) w1 ∧ ∃ v, Cs w1 (w.heap.size + 1 + 1) #[v] ∧ ∀ l, t.root.find s = some l → StrR w1 (W.heap.size + 1) v l ∧ 1 ≤ l.length) (fun _ => by kernel_rfl) ?_).mono ?_
  · refine (findclos_walk s t _ (W.alloc (.cells #[.bool false] 4)) ok w.heap.size (w.heap.size + 1) (w.heap.size + 1 + 1) (.slice none 0 0) (fun x hx => by have := hok x hx; simp; omega) (fun hx => by have := hok _ hx; omega) (HT.out.mono (Same.of_below hWt hok) (fun _ h => h)) (hW0.alloc _) (hW1.alloc _) (hW2.alloc _) (by omega) (by omega) hd).mono ?_
    rintro e w1 ⟨rfl, hf, v, hv, hl⟩
    have hsz : (W.alloc (.cells #[.bool false] 4)).heap.size = W.heap.size + 1 := by simp
    rw [hsz] at hf hl
    exact ⟨_, rfl, (hf.cell (by omega) (by omega)).trans (by simp [go_sem]), ((Cs.new W 4 #[.bool false]).fr hf (by omega) (by omega)).frozen 0, rfl, hf, v, hv, hl⟩
  · rintro e w2 ⟨b, w1, rfl, ⟨rfl, hf, v, hv, hl⟩, rfl⟩
    have q := hv.far (p := ⟨W.heap.size, 0, none⟩) (by simp; omega) (.bool (t.root.find s).isSome)
    have hBw : Below w.heap.size w (w1.setCell ⟨W.heap.size, 0, none⟩ (.bool (t.root.find s).isSome)) := (hWt.trans (hf.below (by omega) (by omega))).setCell (by simp; omega) _
    have c0 := hv.cell 0
    have f0 := hv.frozen 0
    simp at c0
    rw [hWs] at q hBw hl ⊢
    have Hq := Lib.hid q
    have HB := Lib.hid hBw
    have Hl := Lib.hid hl
    clear hf hv hl q hBw hmf hW0 hW1 hW2
    generalize t.root.find s = fr at *
    cases fr with
    | none =>
      simp only [Option.isSome] at *
      go_wp2_with fail
      have c1 := (Hq.out.set_ 0 (.slice none 0 0)).cell 0
      simp at c1
      refine bodyPost_ret (v := .tuple #[.slice none 0 0, .bool false]) (by simp [results, Try.results19, go_sem, c1]) rfl ?_
      exact ⟨_, rfl, HB.out.setCell (by simp; omega) _, World.ownsRow_nil _ _ _ _⟩
    | some l =>
      obtain ⟨h1, h2⟩ := Hl.out l rfl
      obtain ⟨A5, c5, rfl⟩ := own_slice h1
      simp only [Option.isSome] at *
      have H1 := Lib.hid h1
      clear h1
      go_wp2_with fail
      have c1 := (Hq.out.set_ 0 (.slice A5 l.length c5)).cell 0
      simp at c1
      refine bodyPost_ret (v := .tuple #[.slice A5 l.length c5, .bool true]) (by simp [results, Try.results19, go_sem, c1]) rfl ?_
      exact ⟨_, rfl, HB.out.setCell (by simp; omega) _, own_mono (ownsRow_setCell_below (a := ⟨w.heap.size + 1 + 1, 0, none⟩) (own_keep H1.out fun g hg => Below.heap_setCell _ _ _ _ (by have := (H1.out.lt g hg).1; simp; omega)) (by show w.heap.size + 1 + 1 < w.heap.size + 3 + 1; omega) _) (by omega)⟩

theorem not_bad_of_name {n : ByteArray} (h : NameP n) : n ≠ ⟨#[0]⟩ := by
  rintro rfl
  have := (h.1 0 (by decide)).1
  exact absurd this (by decide)

mutual
theorem Nd.proper_not_bad : ∀ n : Nd, n.proper → ¬ n.bad
  | .mk n ps ks, h, hb => by
    simp only [Nd.proper] at h
    simp only [Nd.bad] at hb
    rcases hb with hb | hb
    · exact not_bad_of_name h.1 hb
    · exact properL_not_bad ks h.2.2 hb
theorem properL_not_bad : ∀ ks : List Nd, properL ks → ¬ badL ks
  | [], _, hb => hb
  | k :: r, h, hb => by
    simp only [properL] at h
    simp only [badL] at hb
    rcases hb with hb | hb
    · exact Nd.proper_not_bad k h.1 hb
    · exact properL_not_bad r h.2 hb
end

theorem proper_root_not_bad {n : Nd} (h : ProperR true n) : ¬ n.bad := by
  obtain ⟨name, ps, ks⟩ := n
  simp only [ProperR, if_true] at h
  intro hb
  simp only [Nd.bad] at hb
  rcases hb with hb | hb
  · rw [h.1] at hb
    exact absurd hb (by decide)
  · exact properL_not_bad ks h.2.2 hb

theorem fits_same {t x : Tr} {r' : Int} (hf : FitsP x) (h1 : x.ver = t.ver) (h2 : x.lc = t.lc) (h3 : x.boot = t.boot) (h4 : x.rooms = t.rooms) (hc : CutRel 12 10000 t.root x.root r') : x = t := by
  obtain ⟨v, l, b, rs, n⟩ := x
  obtain ⟨v', l', b', rs', n'⟩ := t
  simp only at h1 h2 h3 h4
  subst h1 h2 h3 h4
  rcases hc with ⟨h, -⟩ | ⟨h, -⟩
  · simp only at h
    rw [h]
  · exact absurd h (proper_root_not_bad hf.2.2.2.2.2.2.2.1)
end Go.Proofs.Ytlbhadggfipckaa

set_option linter.unusedVariables false
set_option linter.unusedSimpArgs false
namespace Go.Proofs.Ytlbhadggfipckaa
open Go.RowKit

theorem cells7 {w : World} {b : Nat} {v1 v2 v3 v4 v5 v6 v7 : Value} (h : Cs w b #[v1, v2, v3, v4, v5, v6, v7]) :
    w.cell? ⟨b, 0, none⟩ = some v1 ∧ w.cell? ⟨b, 1, none⟩ = some v2 ∧ w.cell? ⟨b, 2, none⟩ = some v3 ∧ w.cell? ⟨b, 3, none⟩ = some v4 ∧ w.cell? ⟨b, 4, none⟩ = some v5 ∧ w.cell? ⟨b, 5, none⟩ = some v6 ∧ w.cell? ⟨b, 6, none⟩ = some v7 :=
  ⟨(h.cell 0).trans rfl, (h.cell 1).trans rfl, (h.cell 2).trans rfl, (h.cell 3).trans rfl, (h.cell 4).trans rfl, (h.cell 5).trans rfl, (h.cell 6).trans rfl⟩

theorem TreeC.form {w : World} {ok : Nat → Prop} {t : Tr} {cs : Array Value} (h : TreeC w ok t cs) : ∃ A c s B n d C m e, cs = #[.int .i64 t.ver, .int .i64 t.lc, .int .i64 t.boot, .slice A t.rooms.length c, .string s, .slice B n d, .slice C m e] := by
  obtain ⟨vr, ⟨k1, k2, k3⟩, rfl, hr, hn, hb⟩ := h
  obtain ⟨A, c, rfl, -⟩ := hr
  obtain ⟨s1, A3, n3, c3, A4, n4, c4, hk⟩ := hn.form
  simp only [Prod.mk.injEq] at hk
  obtain ⟨rfl, rfl, rfl⟩ := hk
  exact ⟨_, _, _, _, _, _, _, _, _, rfl⟩

theorem TreeC.root {w : World} {ok : Nat → Prop} {t : Tr} {a b c d e f g : Value} (h : TreeC w ok t #[a, b, c, d, e, f, g]) : NodeC w ok t.root (e, f, g) := by
  obtain ⟨vr, ⟨k1, k2, k3⟩, hk, hr, hn, hb⟩ := h
  have hk := congrArg Array.toList hk
  simp at hk
  obtain ⟨-, -, -, -, h1, h2, h3⟩ := hk
  subst h1 h2 h3
  exact hn

def TruePost (w : World) (e : Ending) (w' : World) : Prop := e = .returned (.bool true) ∧ Below w.heap.size w w'

set_option maxHeartbeats 2000000 in
theorem fnFind_walk (s : ByteArray) (t : Tr) (cs : Array Value) (w : World) (ok : Nat → Prop) (hok : ∀ k, ok k → k < w.heap.size) (ht : TreeC w ok t cs) : Calls Try.prog 5 #[.agg cs, .string s] w (TruePost w) := by
  obtain ⟨A, c, s1, A3, n3, c3, A4, n4, c4, rfl⟩ := ht.form
  have hb0 : Below w.heap.size w (w.alloc (.cells #[.int .i64 t.ver, .int .i64 t.lc, .int .i64 t.boot, .slice A t.rooms.length c, .string s1, .slice A3 n3 c3, .slice A4 n4 c4] 40)) := (Below.refl _ _).alloc (Nat.le_refl _) _
  have H15 := Lib.hid (fits1_walk _ ok t _ (ht.mono (Same.of_below hb0 hok) (fun _ h => h)))
  have HT := Lib.hid ht
  have HB0 := Lib.hid hb0
  have q0 := Cs.new w 40 #[.int .i64 t.ver, .int .i64 t.lc, .int .i64 t.boot, .slice A t.rooms.length c, .string s1, .slice A3 n3 c3, .slice A4 n4 c4]
  have Hq0 := Lib.hid q0
  clear ht hb0 q0
  go_enter Try.func5, Try.ntmps5
  go_wp2_with fail
  refine H15.out.mono ?_
  rintro e w1 ⟨rfl, hb⟩
  have HB1 := Lib.hid (HB0.out.trans (hb.mono (by simp)))
  have q1 := Hq0.out.below hb (by simp)
  obtain ⟨c0, c1, c2, c3', c4', c5, c6⟩ := cells7 q1
  have Hq1 := Lib.hid q1
  have l1 := q1.lt
  clear hb q1
  by_cases hr : (t.rooms.length : Int) ≤ 2147483647
  case neg =>
    have hd : decide ((t.rooms.length : Int) ≤ 2147483647) = false := decide_eq_false hr
    rw [hd]
    go_wp2_with fail
    go_ret
    exact ⟨rfl, HB1.out⟩
  have hd : decide ((t.rooms.length : Int) ≤ 2147483647) = true := decide_eq_true hr
  rw [hd]
  by_cases hs : (2147483647 : Int) < (s.size : Int)
  · have hd2 : decide ((2147483647 : Int) < (s.size : Int)) = true := decide_eq_true hs
    go_wp2_with fail
    go_ret
    exact ⟨rfl, HB1.out⟩
  have hd2 : decide ((2147483647 : Int) < (s.size : Int)) = false := decide_eq_false hs
  go_wp2_with fail
  have hok1 : ∀ k, ok k → k < w1.heap.size := fun k hk => Nat.lt_of_lt_of_le (hok k hk) HB1.out.size
  refine (tree_walk w1 ok t _ hok1 (HT.out.mono (Same.of_below HB1.out hok) (fun _ h => h))).mono ?_
  rintro e w2 ⟨x, cx, rfl, hx, hb2, e1, e2, e3, e4, r', hcut⟩
  obtain ⟨B, d, s2, B3, m3, d3, B4, m4, d4, rfl⟩ := hx.form
  have HB2 := Lib.hid (HB1.out.trans (hb2.mono HB1.out.size))
  have Hq2 := Lib.hid (Hq1.out.below hb2 l1)
  have Hsz2 : w.heap.size + 1 ≤ w2.heap.size := by have := hb2.size; omega
  have Hx := Lib.hid hx
  have He := Lib.hid (And.intro e1 (And.intro e2 (And.intro e3 (And.intro e4 hcut))))
  have HX3 := Lib.hid (hx.mono (w' := w2.alloc (.cells #[.int .i64 x.ver, .int .i64 x.lc, .int .i64 x.boot, .slice B x.rooms.length d, .string s2, .slice B3 m3 d3, .slice B4 m4 d4] 48)) (Same.of_below ((Below.refl _ _).alloc (Nat.le_refl _) _) (fun k hk => hk.elim (fun h => by have := hok k h; omega) (fun h => h.2))) (fun _ h => h))
  have hokx : ∀ k, Blo ok w1 w2 k → k < w2.heap.size := fun k hk => hk.elim (fun h => by have := hok k h; omega) (fun h => h.2)
  have q5 := Cs.new w2 48 #[.int .i64 x.ver, .int .i64 x.lc, .int .i64 x.boot, .slice B x.rooms.length d, .string s2, .slice B3 m3 d3, .slice B4 m4 d4]
  have Hq5 := Lib.hid q5
  clear hb2 e1 e2 e3 e4 hcut hx c0 c1 c2 c3' c4' c5 c6 hd hd2 q5
  go_wp2_with fail
  refine (fits_walk _ (Blo ok w1 w2) x _ (fun k hk => by have := hokx k hk; simp; omega) HX3.out).mono ?_
  rintro e w3 ⟨hb3, hor⟩
  have s3z := hb3.size
  simp at s3z
  have Hb23 := Lib.hid (((Below.refl w2.heap.size w2).alloc (Nat.le_refl _) _).trans (hb3.mono (by simp)))
  have HB3 := Lib.hid (HB2.out.trans (Hb23.out.mono HB2.out.size))
  have Hq3 := Lib.hid (Hq2.out.below Hb23.out Hsz2)
  have Hq6 := Lib.hid (Hq5.out.below hb3 (by simp))
  clear hb3
  rcases hor with rfl | ⟨rfl, hfit⟩
  · go_wp2_with fail
    refine (works_true w3).mono ?_
    rintro e w4 ⟨rfl, hb4⟩
    go_wp2_with fail
    go_ret
    exact ⟨rfl, HB3.out.trans (hb4.mono HB3.out.size)⟩
  by_cases hemp : s = ⟨#[]⟩
  · have hq := empty_true hemp
    clear hemp
    go_wp2_with fail
    refine (works_true w3).mono ?_
    rintro e w4 ⟨rfl, hb4⟩
    go_wp2_with fail
    go_ret
    exact ⟨rfl, HB3.out.trans (hb4.mono HB3.out.size)⟩
  have hq := empty_false hemp
  have hxt : x = t := fits_same hfit He.out.1 He.out.2.1 He.out.2.2.1 He.out.2.2.2.1 He.out.2.2.2.2
  have hdep : t.root.depth ≤ 1000 := by
    have := hfit.2.2.2.2.2.2.2.2.1
    rw [← hxt]
    omega
  obtain ⟨-, -, -, -, c4', c5, c6⟩ := cells7 Hq6.out
  obtain ⟨x0, x1, x2, x3, x4, x5, x6⟩ := cells7 Hq3.out
  have H18 := Lib.hid (find_walk s x.root w3 (Blo ok w1 w2) _ (fun k hk => by have := hokx k hk; omega) (NodeC.mono (Same.of_below Hb23.out hokx) (fun _ h => h) Hx.out.root) (by rw [hxt]; exact hdep))
  have H19 := Lib.hid (fun (w4 : World) (hb4 : Below w3.heap.size w3 w4) => ifind_walk s t _ w4 ok (fun k hk => by have := hok k hk; have := hb4.size; omega) (HT.out.mono (Same.of_below (HB3.out.trans (hb4.mono HB3.out.size)) hok) (fun _ h => h)) hdep)
  rw [hxt] at H18
  have Hq3' := Lib.hid Hq3.out
  clear hemp hfit hxt hdep HX3 Hx He
  generalize t.root.find s = fr at *
  have l3 := Hq3.out.lt
  go_wp2_with fail
  refine H18.out.mono ?_
  rintro e w4 ⟨v, rfl, hb4, hst⟩
  obtain ⟨A5, c5', rfl⟩ := own_slice hst
  have HB4 := Lib.hid (HB3.out.trans (hb4.mono HB3.out.size))
  have H19' := Lib.hid (H19.out w4 hb4)
  obtain ⟨y0, y1, y2, y3, y4, y5, y6⟩ := cells7 (Hq3.out.below hb4 l3)
  have Hst := Lib.hid hst
  clear hst hb4 x0 x1 x2 x3 x4 x5 x6 c4' c5 c6 H19 H18
  go_wp2_with fail
  refine H19'.out.mono ?_
  rintro e w5 ⟨v, rfl, hb5, hst5⟩
  obtain ⟨A6, c6', rfl⟩ := own_slice hst5
  have HB5 := Lib.hid (HB4.out.trans (hb5.mono HB4.out.size))
  have Hst4 := Lib.hid (own_keep Hst.out fun g hg => hb5.block g (Hst.out.lt g hg).2)
  have Hst5 := Lib.hid hst5
  clear hst5 hb5 Hst H19' y0 y1 y2 y3 y4 y5 y6
  generalize fr.getD [] = l at *
  generalize fr.isSome = b at *
  have hbb : (b != b) = false := by simp
  have hll : ((l.length : Int) != (l.length : Int)) = false := by simp
  go_wp2_with fail
  go_loopw [54] (fun i wr => ∃ k : Nat, k ≤ l.length ∧ i = .int .i64 k ∧ Below w5.heap.size w5 wr) (fun i _ => l.length - (intOf i).toNat)
  case atStart => exact ⟨0, by omega, by go_num, Below.refl _ _⟩
  case round =>
    obtain ⟨k, hk, rfl, hF⟩ := hrel
    by_cases hlt : k < l.length
    · obtain ⟨g5, rfl⟩ := own_some Hst4.out (by omega)
      obtain ⟨g6, rfl⟩ := own_some Hst5.out (by omega)
      have k5 := own_keep Hst4.out fun g hg => hF.block g (Hst4.out.lt g hg).2
      have k6 := own_keep Hst5.out fun g hg => hF.block g (Hst5.out.lt g hg).2
      have d5 := k5.cellAt k (by omega)
      have d6 := k6.cellAt k (by omega)
      rw [List.getElem?_map, List.getElem?_eq_getElem hlt] at d5 d6
      simp only [Option.map_some] at d5 d6
      have hki : (0 : Int) ≤ (k : Int) := by omega
      have hkl : (k : Int) < (l.length : Int) := by omega
      have HF := Lib.hid hF
      clear k5 k6 hF
      go_wp2_with fail
      have hlm : l.length ≤ maxLen := Nat.le_trans (own_form Hst4.out).1 (own_form Hst4.out).2.1
      simp only [maxLen] at hlm
      have Hlt := Lib.hid (And.intro hlt hlm)
      go_quiet (fail)
      go_wp2_with fail
      obtain ⟨hlt', hlm'⟩ := Hlt.out
      go_roundw
      case rel => exact ⟨k + 1, hlt', by go_num, blw_drewN HF.out _⟩
      case measure => simp [intOf]; omega
    · obtain rfl : k = l.length := by omega
      have HF := Lib.hid hF
      clear hF
      go_wp2_with fail
      refine (works_true wr).mono ?_
      rintro e w6 ⟨rfl, hb6⟩
      go_wp2_with fail
      go_ret
      exact ⟨rfl, HB5.out.trans ((HF.out.trans (hb6.mono HF.out.size)).mono HB5.out.size)⟩
end Go.Proofs.Ytlbhadggfipckaa

set_option linter.unusedVariables false
set_option linter.unusedSimpArgs false
namespace Go.Proofs.Ytlbhadggfipckaa
open Go.RowKit

def be4 (n : Int) : List UInt8 := [byteOf n 24, byteOf n 16, byteOf n 8, byteOf n 0]

theorem be4_len (ns : List Int) : (ns.flatMap be4).length = 4 * ns.length := by
  induction ns with
  | nil => rfl
  | cons n ns ih => simp [be4, ih]; omega

/-- What a call does that appends to a row of bytes. -/
def AppPost (w : World) (lo : Nat) (v : Value) (bs : List UInt8) (e : Ending) (w' : World) : Prop :=
  ∃ A' c', e = .returned (.slice A' bs.length c') ∧ w'.ownsRow lo 5 1 (.slice A' bs.length c') bs.length (bs.map bv) ∧ Fr w.heap.size (fun k => some k = v.ownBlock) w w' ∧
    ((Value.slice A' bs.length c').ownBlock = v.ownBlock ∨ ∀ g, (Value.slice A' bs.length c').ownBlock = some g → w.heap.size ≤ g)

def AInv (w : World) (lo : Nat) (v : Value) (bs : List UInt8) (x : Value) (wr : World) : Prop :=
  ∃ A' c', x = .slice A' bs.length c' ∧ wr.ownsRow lo 5 1 (.slice A' bs.length c') bs.length (bs.map bv) ∧ Fr w.heap.size (fun k => some k = v.ownBlock) w wr ∧
    ((Value.slice A' bs.length c').ownBlock = v.ownBlock ∨ ∀ g, (Value.slice A' bs.length c').ownBlock = some g → w.heap.size ≤ g)

set_option maxHeartbeats 1000000 in
theorem app32_walk (w : World) (lo : Nat) (A : Option Addr) (c : Nat) (bs : List UInt8) (hown : w.ownsRow lo 5 1 (.slice A bs.length c) bs.length (bs.map bv)) (hlo : lo ≤ w.heap.size) (A2 : Option Addr) (c2 : Nat) (ns : List Int)
    (hn : RdO w (fun k => k < w.heap.size ∧ some k ≠ (Value.slice A bs.length c).ownBlock) A2 (ns.map (Value.int .u32 ·))) (hb : ∀ n ∈ ns, 0 ≤ n ∧ n ≤ 4294967295) (hl : bs.length + 4 * ns.length ≤ 1000000) :
    Calls Try.prog 77 #[.slice A bs.length c, .slice A2 ns.length c2] w (AppPost w lo (.slice A bs.length c) (bs ++ ns.flatMap be4)) := by
  have Hown := Lib.hid hown
  have Hn := Lib.hid hn
  have Hb := Lib.hid hb
  clear hown hn hb
  go_enter Try.func77, Try.ntmps77
  go_wp2_with fail
  go_loopw [9, 0] (fun i x wr => ∃ k : Nat, k ≤ ns.length ∧ i = .int .i64 k ∧ AInv w lo (.slice A bs.length c) (bs ++ (ns.take k).flatMap be4) x wr) (fun i _ _ => ns.length - (intOf i).toNat)
  case atStart =>
    exact ⟨0, by omega, by go_num, A, c, by simp, by simpa using Hown.out, Fr.refl _ _ _, .inl (by simp)⟩
  case round =>
    obtain ⟨k, hk, rfl, A', c', rfl, hw, hF, hat⟩ := hrel
    by_cases hlt : k < ns.length
    · have hne : ns.map (Value.int IntKind.u32 ·) ≠ [] := by intro e; have := congrArg List.length e; simp at this; simp [this] at hlt
      obtain ⟨g, o, rfl, ⟨hgl, hgo⟩, hD⟩ := Hn.out.resolve_left hne
      have d1 := hD k _ (by rw [List.getElem?_map, List.getElem?_eq_getElem hlt]; rfl)
      rw [← hF.cell hgl hgo] at d1
      have hB := Hb.out ns[k] (List.getElem_mem hlt)
      have hap : (ns.take (k + 1)).flatMap be4 = (ns.take k).flatMap be4 ++ be4 ns[k] := by
        rw [List.take_succ_eq_append_getElem hlt, List.flatMap_append]
        simp
      have hlen : (bs ++ (ns.take k).flatMap be4).length = bs.length + 4 * k := by
        rw [List.length_append, be4_len, List.length_take]
        omega
      generalize ns[k] = n at *
      have hki : (0 : Int) ≤ (k : Int) := by omega
      have sz := hF.size
      have hgw : g < wr.heap.size := by omega
      rw [hlen] at hw hat
      have Hw := Lib.hid hw
      have HF := Lib.hid hF
      have Hat := Lib.hid hat
      have Hap := Lib.hid hap
      rw [hlen]
      clear hw hF hat hD hap hlen
      go_wp2_with (at_builtin; go_must (refine wpList_append_el el24 rfl (.tmp 13) (.tmp 25) rfl lo (.slice A' (bs.length + 4 * k) c') (bs.length + 4 * k) ((bs ++ (ns.take k).flatMap be4).map bv) rfl (World.ownsRow.alloc Hw.out _) (some ⟨wr.heap.size, 0, none⟩) 4 4 [.int .u8 (n / 16777216), .int .u8 (n / 65536 % 256), .int .u8 (n / 256 % 256), .int .u8 (n % 256)] rfl (by simp) ((Cs.new _ _ _).rd rfl) (by simp [Value.oneCell']) (by omega) (by omega) (by simp; omega) ?_); intro v' w1 hown hgrow hnil hat2; obtain ⟨A2', c2', rfl⟩ := own_slice hown; clear hnil)
      have hlen2 : (bs ++ (ns.take (k + 1)).flatMap be4).length = bs.length + 4 * k + 4 := by
        rw [List.length_append, be4_len, List.length_take]
        omega
      have hbe : (be4 n).map bv = [.int .u8 (n / 16777216), .int .u8 (n / 65536 % 256), .int .u8 (n / 256 % 256), .int .u8 (n % 256)] := by
        simp only [be4, List.map_cons, List.map_nil, bv_byteOf]
        have e1 : n / 2 ^ 24 % 256 = n / 16777216 := by simp only [Int.reducePow]; omega
        have e2 : n / 2 ^ 16 % 256 = n / 65536 % 256 := by simp only [Int.reducePow]
        have e3 : n / 2 ^ 8 % 256 = n / 256 % 256 := by simp only [Int.reducePow]
        have e4 : n / 2 ^ 0 % 256 = n % 256 := by simp
        rw [e1, e2, e3, e4]
      go_roundw
      case rel =>
        refine ⟨k + 1, hlt, by go_num, A2', c2', by rw [hlen2], ?_, ?_, ?_⟩
        · rw [hlen2, Hap.out, ← List.append_assoc, List.map_append, hbe]
          exact hown
        · refine Fr.grown (Fr.alloc HF.out sz _) hgrow (by simp; omega) fun x hx => ?_
          rcases Hat.out with h | h
          · exact .inr (hx.symm.trans h)
          · exact .inl (h x hx)
        · rw [hlen2]
          rcases hat2 with h | h
          · rcases Hat.out with h' | h'
            · exact .inl (h.trans h')
            · exact .inr fun x hx => h' x (h.symm.trans hx)
          · refine .inr fun x hx => ?_
            have := h.symm.trans hx
            injection this with this
            simp at this
            omega
      case measure => simp [intOf]; omega
    · obtain rfl : k = ns.length := by omega
      rw [List.take_length] at hw hat ⊢
      have Hf := Lib.hid (show AppPost w lo (.slice A bs.length c) (bs ++ ns.flatMap be4) (.returned (.slice A' (bs ++ ns.flatMap be4).length c')) wr from ⟨A', c', rfl, hw, hF, hat⟩)
      clear hw hF hat
      go_wp2_with fail
      go_ret
      exact Hf.out
end Go.Proofs.Ytlbhadggfipckaa

set_option linter.unusedVariables false
set_option linter.unusedSimpArgs false
namespace Go.Proofs.Ytlbhadggfipckaa
open Go.RowKit

theorem m137 (z : Addr) (w : World) : (method 332 137 (.pointer (some z)) "Write").run Try.prog w = .ok (116, .pointer (some z)) w := by kernel_rfl
theorem n137 (z : Addr) (w : World) : (nilAhead 332 137 (.pointer (some z)) "Write").run Try.prog w = .ok (some false) w := by kernel_rfl
theorem m154 (z : Addr) (w : World) : (method 332 154 (.pointer (some z)) "Write").run Try.prog w = .ok (78, .pointer (some z)) w := by kernel_rfl
theorem n154 (z : Addr) (w : World) : (nilAhead 332 154 (.pointer (some z)) "Write").run Try.prog w = .ok (some false) w := by kernel_rfl

/-- The writer at block a, on the buffer at block z, has put the bytes bs. -/
def WS (w : World) (a z lo : Nat) (bs : List UInt8) : Prop :=
  ∃ A c, Cs w z #[.slice A bs.length c] ∧ w.ownsRow lo 5 1 (.slice A bs.length c) bs.length (bs.map bv) ∧ Cs w a #[.iface 137 (.pointer (some ⟨z, 0, none⟩)), .int .i64 bs.length] ∧ z < lo ∧ a < lo ∧ a ≠ z ∧ lo ≤ w.heap.size

/-- The buffer's row lies in block k. -/
def RowOf (w : World) (z k : Nat) : Prop := ∃ o n c, w.cell? ⟨z, 0, none⟩ = some (.slice (some ⟨k, o, none⟩) n c)

/-- What is no part of the writer stays as it was, and does not become a part of it. -/
def Keep (a z : Nat) (w w' : World) : Prop := ∀ q, q < w.heap.size → q ≠ a → q ≠ z → ¬ RowOf w z q → w'.heap[q]? = w.heap[q]? ∧ ¬ RowOf w' z q

theorem Keep.refl (a z : Nat) (w : World) : Keep a z w w := fun q _ _ _ h => ⟨rfl, h⟩
theorem Keep.trans {a z : Nat} {w w' w'' : World} (h : Keep a z w w') (k : Keep a z w' w'') (hs : w.heap.size ≤ w'.heap.size) : Keep a z w w'' := fun q h1 h2 h3 h4 => by
  obtain ⟨e1, e2⟩ := h q h1 h2 h3 h4
  obtain ⟨e3, e4⟩ := k q (by omega) h2 h3 e2
  exact ⟨e3.trans e1, e4⟩
theorem RowOf.of_block {w w' : World} {z q : Nat} (hb : w'.heap[z]? = w.heap[z]?) (h : RowOf w' z q) : RowOf w z q := by
  obtain ⟨o, n, c, h⟩ := h
  exact ⟨o, n, c, (World.cell?_of_block (a := ⟨z, 0, none⟩) hb).symm.trans h⟩
theorem Keep.below {a z : Nat} {w w' : World} (hb : Below w.heap.size w w') (hz : z < w.heap.size) : Keep a z w w' := fun q h1 _ _ h4 =>
  ⟨hb.block q h1, fun h => h4 (h.of_block (hb.block z hz))⟩
theorem Keep.cs {a z : Nat} {w w' : World} (h : Keep a z w w') {q : Nat} {cs : Array Value} (hc : Cs w q cs) (h1 : q ≠ a) (h2 : q ≠ z) (h3 : ¬ RowOf w z q) : Cs w' q cs := hc.keep (h q hc.lt h1 h2 h3).1

def BufPost (w : World) (z lo : Nat) (bs l : List UInt8) (e : Ending) (w' : World) : Prop :=
  e = .returned (.tuple #[.int .i64 l.length, .nilIface]) ∧ (∃ A c, Cs w' z #[.slice A (bs ++ l).length c] ∧ w'.ownsRow lo 5 1 (.slice A (bs ++ l).length c) (bs ++ l).length ((bs ++ l).map bv)) ∧ Fr lo (· = z) w w' ∧ ∀ a, Keep a z w w'

theorem buf_walk (w : World) (z lo : Nat) (A : Option Addr) (c : Nat) (bs : List UInt8) (hz : Cs w z #[.slice A bs.length c]) (hown : w.ownsRow lo 5 1 (.slice A bs.length c) bs.length (bs.map bv)) (hzl : z < lo) (hlo : lo ≤ w.heap.size) (P : Option Addr) (m : Nat) (l : List UInt8) (hP : Rd w P (l.map bv)) (hl : bs.length + l.length ≤ 1000000000) :
    Calls Try.prog 116 #[.pointer (some ⟨z, 0, none⟩), .slice P l.length m] w (BufPost w z lo bs l) := by
  have c0 := hz.cell 0
  have f0 := hz.frozen 0
  simp at c0
  have hzw := hz.lt
  have Hz := Lib.hid hz
  have Hown := Lib.hid hown
  have HP := Lib.hid hP
  clear hz hown hP
  go_enter Try.func116, Try.ntmps116
  go_wp2_with (at_builtin; go_must (refine wpList_append_el el24 rfl (.tmp 10) (.tmp 11) rfl lo (.slice A bs.length c) bs.length (bs.map bv) rfl Hown.out P l.length m (l.map bv) rfl (by simp) HP.out (bv_one l) (by omega) (by omega) hlo ?_); intro v' w1 hown1 hgrow hnil hat; obtain ⟨A', c', rfl⟩ := own_slice hown1; clear hnil; have hz1 := Hz.out.grown hgrow (own_ne Hown.out hzl); have c1 := hz1.cell 0; have f1 := hz1.frozen 0; simp at c1)
  refine bodyPost_ret (v := .tuple #[.int .i64 l.length, .nilIface]) (by simp [results, Try.results116, go_sem]) rfl ?_
  refine ⟨rfl, ⟨A', c', ?_, ?_⟩, ?_, fun a q h1 h2 h3 h4 => ?_⟩
  · rw [List.length_append]
    exact hz1.set_ 0 _
  · rw [List.length_append, List.map_append]
    exact ownsRow_setCell_below hown1 (by simpa using hzl) _
  · exact (Fr.grown (Fr.refl lo (· = z) w) hgrow hlo fun g hg => .inl (Hown.out.lt g hg).1).setCell (p := ⟨z, 0, none⟩) (.inr rfl) _
  · have hv : some q ≠ (Value.slice A bs.length c).ownBlock := fun e => by
      rcases Hown.out.2 with ⟨e1, -⟩ | ⟨g, cap, cur, e1, -⟩
      · rw [e1] at e; simp [Value.ownBlock] at e
      · injection e1 with e2 e3 e4
        subst e2 e4
        have hg := (Hown.out.lt q e.symm)
        simp [Value.ownBlock] at e
        subst e
        exact h4 ⟨0, _, _, (Hz.out.cell 0).trans rfl⟩
    refine ⟨by rw [Below.heap_setCell _ _ _ _ h3, hgrow.block q h1 hv], fun h => ?_⟩
    obtain ⟨o, n, c2, h⟩ := h
    rw [World.cell?_setCell_same _ _ _ c1] at h
    injection h with h
    injection h with h5 h6 h7
    subst h5
    have hf : w1.ownsRow lo 5 1 (.slice (some ⟨q, o, none⟩) (bs.length + l.length) c') (bs.length + l.length) (bs.map bv ++ l.map bv) := hown1
    have hq : (Value.slice (some ⟨q, o, none⟩) (bs.length + l.length) c').ownBlock = some q := rfl
    rcases hat with e | e
    · exact hv (hq.symm.trans e)
    · have := hq.symm.trans e
      injection this with this
      omega

def AWPost (w : World) (a z lo : Nat) (bs l : List UInt8) (e : Ending) (w' : World) : Prop :=
  e = .returned (.tuple #[.int .i64 l.length, .nilIface]) ∧ WS w' a z lo (bs ++ l) ∧ Fr lo (fun k => k = a ∨ k = z) w w' ∧ Keep a z w w'

theorem aw_walk (w : World) (a z lo : Nat) (bs : List UInt8) (h : WS w a z lo bs) (P : Option Addr) (m : Nat) (l : List UInt8) (hP : Rd w P (l.map bv)) (hl : bs.length + l.length ≤ 1000000000) :
    Calls Try.prog 78 #[.pointer (some ⟨a, 0, none⟩), .slice P l.length m] w (AWPost w a z lo bs l) := by
  obtain ⟨A, c, h1, h2, h3, h4, h5, h6, h7⟩ := h
  have c0 := h3.cell 0
  have c1 := h3.cell 1
  simp at c0 c1
  have H1 := Lib.hid (buf_walk w z lo A c bs h1 h2 h4 h7 P m l hP hl)
  have H3 := Lib.hid h3
  have hm := m137
  have hnl := n137
  have hsum : IntKind.i64.wrap ((bs.length : Int) + (l.length : Int)) = (bs.length : Int) + (l.length : Int) := by simp only [IntKind.wrap, IntKind.bits, IntKind.signed]; simp; omega
  clear h1 h2 h3 hP
  go_enter Try.func78, Try.ntmps78
  go_wp2_with fail
  refine H1.out.mono ?_
  rintro e w1 ⟨rfl, ⟨A', c', hz', hown'⟩, hf, hkp⟩
  have q := H3.out.fr hf h5 h6
  have d1 := q.cell 1
  have f1 := q.frozen 1
  simp at d1
  have hq : Cs (w1.setCell ⟨a, 1, none⟩ (.int .i64 ((bs.length : Int) + (l.length : Int)))) a #[.iface 137 (.pointer (some ⟨z, 0, none⟩)), .int .i64 (bs ++ l).length] := by
    have h := q.set_ 1 (.int .i64 ((bs.length : Int) + (l.length : Int)))
    rw [List.length_append, Int.natCast_add]
    simpa using h
  have hfin : AWPost w a z lo bs l (.returned (.tuple #[.int .i64 l.length, .nilIface])) (w1.setCell ⟨a, 1, none⟩ (.int .i64 ((bs.length : Int) + (l.length : Int)))) :=
    ⟨rfl, ⟨A', c', hz'.far (Ne.symm h6) _, ownsRow_setCell_below hown' h5 _, hq, h4, h5, h6, by have := hf.size; simp [World.setCell]; omega⟩, (hf.mono (Nat.le_refl _) (fun k hk hx => .inr hx)).setCell (p := ⟨a, 1, none⟩) (.inr (.inl rfl)) _, fun q k1 k2 k3 k4 => by
      obtain ⟨e1, e2⟩ := hkp a q k1 k2 k3 k4
      exact ⟨(Below.heap_setCell _ _ _ _ k2).trans e1, fun h => e2 (h.of_block (Below.heap_setCell _ _ _ _ (Ne.symm h6)))⟩⟩
  have HFIN := Lib.hid hfin
  clear hz' hown' hf q hq hfin hkp
  go_wp2_with fail
  refine bodyPost_ret (v := .tuple #[.int .i64 l.length, .nilIface]) (by simp [results, Try.results78, go_sem]) rfl ?_
  exact HFIN.out

def WrPost (w : World) (a z lo : Nat) (bs l : List UInt8) (e : Ending) (w' : World) : Prop :=
  e = .returned .nilIface ∧ WS w' a z lo (bs ++ l) ∧ Fr lo (fun k => k = a ∨ k = z) w w' ∧ Keep a z w w'

/-- write -/
theorem write_walk (w : World) (a z lo : Nat) (bs : List UInt8) (h : WS w a z lo bs) (P : Option Addr) (m : Nat) (l : List UInt8) (hP : Rd w P (l.map bv)) (hl : bs.length + l.length ≤ 1000000000) :
    Calls Try.prog 72 #[.iface 154 (.pointer (some ⟨a, 0, none⟩)), .slice P l.length m] w (WrPost w a z lo bs l) := by
  have H1 := Lib.hid (aw_walk w a z lo bs h P m l hP hl)
  have hm := m154
  have hnl := n154
  clear h hP
  go_enter Try.func72, Try.ntmps72
  go_wp2_with fail
  refine H1.out.mono ?_
  rintro e w1 ⟨rfl, hws, hf⟩
  go_wp2_with fail
  go_ret
  exact ⟨rfl, hws, hf⟩
end Go.Proofs.Ytlbhadggfipckaa

set_option linter.unusedVariables false
set_option linter.unusedSimpArgs false
namespace Go.Proofs.Ytlbhadggfipckaa
open Go.RowKit

def zeros (n : Nat) : List UInt8 := List.replicate n 0

theorem zeros_len (n : Nat) : (zeros n).length = n := by simp [zeros]

theorem make5 (w : World) (n : Nat) (hn : n ≤ 1000000) : (Instr.makeSlice 24 (.int .i64 (n : Int)) (.int .i64 (n : Int))).run Try.prog w = .ok (.slice (some ⟨w.heap.size, 0, none⟩) n n) (w.alloc (.cells (Array.replicate n (.int .u8 0)) 5)) := by
  obtain ⟨i, hi, hz0, hz1, hz2⟩ := info_parts info5
  have h := run_makeSlice (P := Try.prog) w 24 5 i _ Try.underlying24 hi hz0 .i64 .i64 n n (by omega) (Int.le_refl _) (by rw [hz1]; omega) (by rw [hz2]; omega) (by omega)
  have e : madeCells (Value.int .u8 0).cells n = Array.replicate n (.int .u8 0) := by
    apply Array.ext
    · simp [madeCells]
    · intro j h1 h2
      have h3 : j % 1 = 0 := Nat.mod_one j
      simp [madeCells, Value.cells, h3]
  rw [hz1, Int.toNat_natCast, Nat.mul_one, e] at h
  exact h

theorem set_zeros (n j : Nat) : ((zeros n).map bv).set j (.int .u8 0) = (zeros n).map bv := by
  have e : (zeros n).map bv = List.replicate n (.int .u8 0) := by simp [zeros, bv]
  rw [e, List.set_replicate_self]

def RepPost (w : World) (n : Nat) (e : Ending) (w' : World) : Prop := e = .returned (.slice (some ⟨w.heap.size, 0, none⟩) n n) ∧ w'.ownsRow w.heap.size 5 1 (.slice (some ⟨w.heap.size, 0, none⟩) n n) n ((zeros n).map bv) ∧ Below w.heap.size w w'

theorem repeat_walk (w : World) (n : Nat) (hn : n ≤ 16) : Calls Try.prog 84 #[.int .u8 0, .int .i64 n] w (RepPost w n) := by
  have hmk := make5 w n (by omega)
  have hrow : (w.alloc (.cells (Array.replicate n (.int .u8 0)) 5)).ownsRow w.heap.size 5 1 (.slice (some ⟨w.heap.size, 0, none⟩) n n) n ((zeros n).map bv) := by
    have := World.ownsRow_lit (base := w.heap.size) (e := 5) (size := 1) w (Array.replicate n (.int .u8 0)) n (Nat.le_refl _) (by simp only [maxLen]; omega) (by simp)
    simpa [zeros, bv] using this
  have Hrow := Lib.hid hrow
  clear hrow
  go_enter Try.func84, Try.ntmps84
  go_wp2_with fail
  go_loopw [11] (fun i wr => ∃ k : Nat, k ≤ n ∧ i = .int .i64 k ∧ wr.ownsRow w.heap.size 5 1 (.slice (some ⟨w.heap.size, 0, none⟩) n n) n ((zeros n).map bv) ∧ Below w.heap.size w wr) (fun i _ => n - (intOf i).toNat)
  case atStart => exact ⟨0, by omega, by go_num, Hrow.out, (Below.refl _ _).alloc (Nat.le_refl _) _⟩
  case round =>
    obtain ⟨k, hk, rfl, hw, hF⟩ := hrel
    clear hmk
    by_cases hlt : k < n
    · have c0 : wr.cell? ⟨w.heap.size, k, none⟩ = some (.int .u8 0) := by
        rw [hw.cellAt k (by omega)]
        simp [zeros, bv, hlt]
      have f0 := hw.frozenAt k
      have hki : (0 : Int) ≤ (k : Int) := by omega
      have st := (hw.stored k (.int .u8 0)).1
      rw [set_zeros] at st
      have HF := Lib.hid hF
      have St := Lib.hid st
      clear hF st hw
      go_wp2_with fail
      go_roundw
      case rel => exact ⟨k + 1, by omega, by go_num, St.out, HF.out.setCell (by simp) _⟩
      case measure => simp [intOf]; omega
    · obtain rfl : k = n := by omega
      have HF := Lib.hid hF
      have Hw := Lib.hid hw
      clear hF hw
      go_wp2_with fail
      go_ret
      exact ⟨rfl, Hw.out, HF.out⟩

theorem and_four (x : Nat) (hx : x < 4611686018427387904) : x &&& 18446744073709551612 = x / 4 * 4 := by
  have e1 : (18446744073709551612 : Nat) = (2 ^ 62 - 1) <<< 2 := by decide
  have e2 : x / 4 * 4 = (x >>> 2) <<< 2 := by rw [Nat.shiftRight_eq_div_pow, Nat.shiftLeft_eq]
  rw [e1, e2]
  apply Nat.eq_of_testBit_eq
  intro i
  rw [Nat.testBit_and, Nat.testBit_shiftLeft, Nat.testBit_shiftLeft, Nat.testBit_shiftRight, Nat.testBit_two_pow_sub_one]
  by_cases h : 2 ≤ i
  · have h3 : 2 + (i - 2) = i := by omega
    rw [h3]
    by_cases h2 : i - 2 < 62
    · simp [h, h2]
    · have : x.testBit i = false := Nat.testBit_lt_two_pow (Nat.lt_of_lt_of_le hx (by
        have : 2 ^ 62 ≤ 2 ^ i := Nat.pow_le_pow_right (by omega) (by omega)
        simpa using this))
      simp [this]
  · simp [h]

theorem i64_andNot3 (x : Nat) (hx : x < 4611686018427387904) : bits .andNot .i64 (x : Int) 3 = ((x / 4 * 4 : Nat) : Int) := by
  show IntKind.i64.wrap ((BitVec.ofInt 64 (x : Int) &&& ~~~BitVec.ofInt 64 3).toNat : Int) = _
  have h1 : (BitVec.ofInt 64 3).toNat = 3 := by decide
  have h2 : (BitVec.ofInt 64 (x : Int)).toNat = x := by
    rw [BitVec.toNat_ofInt]
    omega
  rw [BitVec.toNat_and, BitVec.toNat_not, h2, h1, show 2 ^ 64 - 1 - 3 = 18446744073709551612 by decide, and_four x hx]
  simp only [IntKind.wrap, IntKind.bits, IntKind.signed]
  simp
  omega

def al4 (n : Nat) : Nat := (n + 3) / 4 * 4

theorem align4_walk (w : World) (n : Nat) (hn : n ≤ 1000000) : Calls Try.prog 70 #[.int .i64 n] w fun e w' => e = .returned (.int .u32 (al4 n : Nat)) ∧ w = w' := by
  have hb : bits .andNot .i64 ((n : Int) + 3) 3 = ((al4 n : Nat) : Int) := by
    have := i64_andNot3 (n + 3) (by omega)
    simpa [al4] using this
  have hl : al4 n ≤ 1000003 := by unfold al4; omega
  go_enter Try.func70, Try.ntmps70
  go_wp2_with fail
  go_ret
  refine ⟨?_, rfl⟩
  have : ((al4 n : Nat) : Int) % 4294967296 = ((al4 n : Nat) : Int) := by omega
  simp [this]
theorem align16_walk (w : World) : Calls Try.prog 71 #[.int .i64 40] w fun e w' => e = .returned (.int .u32 48) ∧ w = w' := by
  go_enter Try.func71, Try.ntmps71
  go_wp2_with fail
  go_ret
  exact ⟨rfl, rfl⟩
theorem word_walk (w : World) (n : Int) (h0 : 0 ≤ n) (h1 : n < 4294967296) : Calls Try.prog 40 #[.int .i64 n] w fun e w' => e = .returned (.bool true) ∧ w = w' := by
  have d1 : decide (0 ≤ n) = true := decide_eq_true h0
  have d2 : decide (n < 4294967296) = true := decide_eq_true h1
  go_enter Try.func40, Try.ntmps40
  go_wp2_with fail
  go_ret
  exact ⟨rfl, rfl⟩
end Go.Proofs.Ytlbhadggfipckaa

set_option linter.unusedVariables false
set_option linter.unusedSimpArgs false
namespace Go.Proofs.Ytlbhadggfipckaa
open Go.RowKit

def pad (n k : Nat) : List UInt8 := if k % n = 0 then [] else zeros (n - k % n)

theorem pad_len (n k : Nat) : (pad n k).length ≤ n := by
  unfold pad
  split
  · simp
  · simp [zeros_len]

theorem align_walk (w : World) (a z lo n : Nat) (bs : List UInt8) (h : WS w a z lo bs) (hn1 : 1 ≤ n) (hn : n ≤ 16) (hl : bs.length ≤ 10000000) :
    Calls Try.prog 74 #[.pointer (some ⟨a, 0, none⟩), .int .i64 n, .int .u8 0] w (WrPost w a z lo bs (pad n bs.length)) := by
  obtain ⟨A, c, h1, h2, h3, h4, h5, h6, h7⟩ := id h
  have c1 := h3.cell 1
  simp at c1
  have hmod : ((bs.length : Int)) % (n : Int) = ((bs.length % n : Nat) : Int) := by simp
  have hrem : ((bs.length : Int)).tmod (n : Int) = (bs.length : Int) % (n : Int) := Int.tmod_eq_emod_of_nonneg (by omega)
  have hn0 : ((n : Int) == 0) = false := by simp; omega
  have hlt : bs.length % n < n := Nat.mod_lt _ (by omega)
  have Hh := Lib.hid h
  clear h h1 h2 h3
  by_cases h0 : bs.length % n = 0
  · have hp : pad n bs.length = [] := by unfold pad; rw [if_pos h0]
    have he : ((bs.length : Int) % (n : Int) == 0) = true := by rw [hmod, h0]; rfl
    rw [hp]
    clear hp hmod
    go_enter Try.func74, Try.ntmps74
    go_wp2_with fail
    go_ret
    exact ⟨rfl, by simpa using Hh.out, Fr.refl _ _ _, Keep.refl _ _ _⟩
  · have hp : pad n bs.length = zeros (n - bs.length % n) := by unfold pad; rw [if_neg h0]
    have he : ((bs.length : Int) % (n : Int) == 0) = false := by rw [hmod]; simp; omega
    have hsub : IntKind.i64.wrap ((n : Int) - (bs.length : Int) % (n : Int)) = ((n - bs.length % n : Nat) : Int) := by
      rw [hmod]
      simp only [IntKind.wrap, IntKind.bits, IntKind.signed]
      simp
      omega
    rw [hp]
    have hlw : lo ≤ w.heap.size := h7
    have hzw : z < w.heap.size := by omega
    clear hp hmod
    go_enter Try.func74, Try.ntmps74
    go_wp2_with fail
    refine (repeat_walk w (n - bs.length % n) (by omega)).mono ?_
    rintro e w1 ⟨rfl, hrow, hb⟩
    have hws : WS w1 a z lo bs := by
      obtain ⟨A, c, h1, h2, h3, h4, h5, h6, h7⟩ := Hh.out
      exact ⟨A, c, h1.below hb (by omega), own_keep h2 (fun g hg => hb.block g (h2.lt g hg).2), h3.below hb (by omega), h4, h5, h6, Nat.le_trans h7 hb.size⟩
    have HA := Lib.hid (aw_walk w1 a z lo bs hws (some ⟨w.heap.size, 0, none⟩) (n - bs.length % n) (zeros (n - bs.length % n)) (own_rd hrow) (by rw [zeros_len]; omega))
    rw [zeros_len] at HA
    have HB := Lib.hid hb
    clear hws hrow hb
    go_wp2_with fail
    refine HA.out.mono ?_
    rintro e w2 ⟨rfl, hws, hf⟩
    go_wp2_with fail
    go_ret
    exact ⟨rfl, hws, (Fr.of_below (HB.out.mono hlw)).trans hf.1, (Keep.below HB.out hzw).trans hf.2 HB.out.size⟩

def HdrPost (w : World) (ns : List Int) (e : Ending) (w' : World) : Prop :=
  ∃ A c, e = .returned (.slice A (ns.flatMap be4).length c) ∧ w'.ownsRow w.heap.size 5 1 (.slice A (ns.flatMap be4).length c) (ns.flatMap be4).length ((ns.flatMap be4).map bv) ∧ Below w.heap.size w w'

theorem hdr_walk (w : World) (n0 n1 n2 n3 n4 n5 n6 n7 n8 n9 : Int) (hb : ∀ n ∈ [n0, n1, n2, n3, n4, n5, n6, n7, n8, n9], 0 ≤ n ∧ n ≤ 4294967295) :
    Calls Try.prog 73 #[.agg #[.int .u32 n0, .int .u32 n1, .int .u32 n2, .int .u32 n3, .int .u32 n4, .int .u32 n5, .int .u32 n6, .int .u32 n7, .int .u32 n8, .int .u32 n9]] w
      (HdrPost w [n0, n1, n2, n3, n4, n5, n6, n7, n8, n9]) := by
  have Hb := Lib.hid hb
  clear hb
  go_enter Try.func73, Try.ntmps73
  go_wp2_with fail
  generalize hW : (w.alloc (.cells #[.int .u32 n0, .int .u32 n1, .int .u32 n2, .int .u32 n3, .int .u32 n4, .int .u32 n5, .int .u32 n6, .int .u32 n7, .int .u32 n8, .int .u32 n9] 90)).alloc (.cells #[.int .u32 n0, .int .u32 n1, .int .u32 n2, .int .u32 n3, .int .u32 n4, .int .u32 n5, .int .u32 n6, .int .u32 n7, .int .u32 n8, .int .u32 n9] 22) = W
  have hWs : W.heap.size = w.heap.size + 2 := by rw [← hW]; simp
  have hWb : Below w.heap.size w W := by rw [← hW]; exact ((Below.refl _ _).alloc (Nat.le_refl _) _).alloc (by simp) _
  have hWc : Cs W (w.heap.size + 1) #[.int .u32 n0, .int .u32 n1, .int .u32 n2, .int .u32 n3, .int .u32 n4, .int .u32 n5, .int .u32 n6, .int .u32 n7, .int .u32 n8, .int .u32 n9] := by rw [← hW]; exact Cs.new' _ _ _ _ (by simp)
  clear hW
  refine (app32_walk W w.heap.size none 0 [] (World.ownsRow_nil _ _ _ _) (by omega) (some ⟨w.heap.size + 1, 0, none⟩) 10 [n0, n1, n2, n3, n4, n5, n6, n7, n8, n9] (.inr ⟨w.heap.size + 1, 0, rfl, ⟨by omega, by simp [Value.ownBlock]⟩, fun j u hu => ?_⟩) Hb.out (by simp)).mono ?_
  · rw [Nat.zero_add, hWc.cell]
    simpa using hu
  rintro e w1 ⟨A, c, rfl, hown, hf, -⟩
  have hfin : HdrPost w [n0, n1, n2, n3, n4, n5, n6, n7, n8, n9] (.returned (.slice A ([] ++ [n0, n1, n2, n3, n4, n5, n6, n7, n8, n9].flatMap be4).length c)) w1 :=
    ⟨A, c, rfl, hown, hWb.trans (hf.below (by omega) (fun k hk h => by simp [Value.ownBlock] at h))⟩
  have HFIN := Lib.hid hfin
  clear hfin hown hf hWc hWb
  go_wp2_with fail
  go_ret
  exact HFIN.out
end Go.Proofs.Ytlbhadggfipckaa
