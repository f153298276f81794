/-
  impl.Parse on the bytes of a tree.
  FnParse: the guarded steps of its last region; plain facts.
  FnParse walked.
-/
import Derived.Test.YtlbhadggfipckaaMa32
import Derived.Test.YtlbhadggfipckaaMa17
set_option linter.unusedVariables false
set_option linter.unusedSimpArgs false
namespace Go.Proofs.Ytlbhadggfipckaa
open Go.RowKit

def ParsePost (w : World) (t : Tr) (e : Ending) (w' : World) : Prop :=
  ∃ cs, e = .returned (.tuple #[.agg cs, .bool true]) ∧ TreeC w' (Rng w w') t cs ∧ Below w.heap.size w w'

set_option maxRecDepth 20000 in
set_option maxHeartbeats 1000000 in
theorem parse_ok (w : World) (v : Value) (dt : List UInt8) (hv : SlB w v dt) (hl : dt.length ≤ 100000000) (bt : Nat) (rs : List (Nat × Nat)) (root : Nd) (hgood : GoodB dt bt rs root) :
    Calls Try.prog 24 #[v] w (ParsePost w ⟨17, 16, (bt : Int), rs.map castR, root⟩) := by
  have hmf : ∀ (fn : Fn) (first cap : Array Value) (w : World), (Instr.makeFunc fn first cap).run Try.prog w = .ok (.func fn first cap) w := fun _ _ _ _ => rfl
  obtain ⟨A0, c0', rfl, q1, q2, q3⟩ := id hv
  have Hv := Lib.hid hv
  have Hb := Lib.hid hgood
  clear hv hgood q3
  go_enter Try.func24, Try.ntmps24
  go_wp2_with fail
  generalize hW : (w.alloc (.cells #[.slice A0 dt.length c0'] 24)).alloc (.cells #[.int .i64 0, .int .i64 0, .int .i64 0, .slice none 0 0, .string ⟨#[]⟩, .slice none 0 0, .slice none 0 0] 40) = W
  have hWs : W.heap.size = w.heap.size + 2 := by rw [← hW]; simp
  have hWb : Below w.heap.size w W := by rw [← hW]; exact ((Below.refl _ _).alloc (Nat.le_refl _) _).alloc (by simp) _
  have hW0 : Cs W w.heap.size #[.slice A0 dt.length c0'] := by rw [← hW]; exact (Cs.new _ _ _).alloc _
  have hW1 : Cs W (w.heap.size + 1) #[.int .i64 0, .int .i64 0, .int .i64 0, .slice none 0 0, .string ⟨#[]⟩, .slice none 0 0, .slice none 0 0] := by rw [← hW]; exact Cs.new' _ _ _ _ (by simp)
  have hWt : Below w.heap.size w (W.alloc (.cells #[.bool false] 4)) := hWb.alloc (by omega) _
  clear hW
  refine (try_ok (R := fun b w1 => b = true ∧ Fr (W.heap.size + 1) (· = w.heap.size + 1) (W.alloc (.cells #[.bool false] 4)) w1 ∧ ∃ cs, Cs w1 (w.heap.size + 1) cs ∧ TreeC w1 (Rng (W.alloc (.cells #[.bool false] 4)) w1) ⟨17, 16, (bt : Int), rs.map castR, root⟩ cs) (fun _ => by kernel_rfl) ?_).mono ?_
  · refine (parse1_ok (W.alloc (.cells #[.bool false] 4)) w.heap.size (w.heap.size + 1) _ dt (hW0.alloc _) (Hv.out.below (hWt.mono (Nat.le_refl _))) hl bt rs root Hb.out (hW1.alloc _)).mono ?_
    rintro e w1 ⟨rfl, hf, cs, h1, h2⟩
    have hsz : (W.alloc (.cells #[.bool false] 4)).heap.size = W.heap.size + 1 := by simp
    rw [hsz] at hf
    exact ⟨_, rfl, (hf.cell (by omega) (by omega)).trans (by simp [go_sem]), ((Cs.new W 4 #[.bool false]).fr hf (by omega) (by omega)).frozen 0, rfl, hf, cs, h1, h2⟩
  · rintro e w2 ⟨b, w1, rfl, ⟨rfl, hf, cs, h1, h2⟩, rfl⟩
    have hWa : (W.alloc (.cells #[.bool false] 4)).heap.size = W.heap.size + 1 := by simp
    have hz1 := hf.size
    have hB1 : Below w.heap.size w w1 := hWt.trans (hf.below (by omega) (fun k hk e => by omega))
    have q := h1.far (p := ⟨W.heap.size, 0, none⟩) (by simp; omega) (.bool true)
    have hBw : Below w.heap.size w (w1.setCell ⟨W.heap.size, 0, none⟩ (.bool true)) := hB1.setCell (by simp; omega) _
    have hT : TreeC (w1.setCell ⟨W.heap.size, 0, none⟩ (.bool true)) (Rng (W.alloc (.cells #[.bool false] 4)) (w1.setCell ⟨W.heap.size, 0, none⟩ (.bool true))) ⟨17, 16, (bt : Int), rs.map castR, root⟩ cs :=
      h2.mono (fun k hk => Below.heap_setCell _ _ _ _ (by have := hk.1; simp at this ⊢; omega)) (fun k hk => ⟨hk.1, by have := hk.2; simpa [World.setCell] using this⟩)
    generalize w1.setCell ⟨W.heap.size, 0, none⟩ (.bool true) = w3 at *
    obtain ⟨B, d, s2, B3, m3, d3, B4, m4, d4, rfl⟩ := hT.form
    obtain ⟨c0, c1, c2, c3, c4, c5, c6⟩ := cells7 q
    have f0 := q.frozen 0
    have f1 := q.frozen 1
    have f2 := q.frozen 2
    have f3 := q.frozen 3
    have f4 := q.frozen 4
    have f5 := q.frozen 5
    have f6 := q.frozen 6
    have HB := Lib.hid hBw
    have Hq := Lib.hid q
    have HT := Lib.hid hT
    clear hf hWt hWb hW0 hW1 q hBw h1 h2 hT hB1
    go_wp2_with fail
    have q7 := (((((((Hq.out.set_ 0 (.int .i64 17)).set_ 1 (.int .i64 16)).set_ 2 (.int .i64 (bt : Int))).set_ 3 (.slice B rs.length d)).set_ 4 (.string s2)).set_ 5 (.slice B3 m3 d3)).set_ 6 (.slice B4 m4 d4))
    simp only [List.setIfInBounds_toArray, List.set_cons_zero, List.set_cons_succ] at q7
    have hB7 := (((((((HB.out.setCell (p := ⟨w.heap.size + 1, 0, none⟩) (by simp) (.int .i64 17)).setCell (p := ⟨w.heap.size + 1, 1, none⟩) (by simp) (.int .i64 16)).setCell (p := ⟨w.heap.size + 1, 2, none⟩) (by simp) (.int .i64 (bt : Int))).setCell (p := ⟨w.heap.size + 1, 3, none⟩) (by simp) (.slice B rs.length d)).setCell (p := ⟨w.heap.size + 1, 4, none⟩) (by simp) (.string s2)).setCell (p := ⟨w.heap.size + 1, 5, none⟩) (by simp) (.slice B3 m3 d3)).setCell (p := ⟨w.heap.size + 1, 6, none⟩) (by simp) (.slice B4 m4 d4))
    have hS7 : ∀ k, k ≠ w.heap.size + 1 → (((((((w3.setCell ⟨w.heap.size + 1, 0, none⟩ (.int .i64 17)).setCell ⟨w.heap.size + 1, 1, none⟩ (.int .i64 16)).setCell ⟨w.heap.size + 1, 2, none⟩ (.int .i64 (bt : Int))).setCell ⟨w.heap.size + 1, 3, none⟩ (.slice B rs.length d)).setCell ⟨w.heap.size + 1, 4, none⟩ (.string s2)).setCell ⟨w.heap.size + 1, 5, none⟩ (.slice B3 m3 d3)).setCell ⟨w.heap.size + 1, 6, none⟩ (.slice B4 m4 d4)).heap[k]? = w3.heap[k]? := fun k hk => by
      rw [Below.heap_setCell _ _ _ _ (by show k ≠ w.heap.size + 1; exact hk), Below.heap_setCell _ _ _ _ (by show k ≠ w.heap.size + 1; exact hk), Below.heap_setCell _ _ _ _ (by show k ≠ w.heap.size + 1; exact hk), Below.heap_setCell _ _ _ _ (by show k ≠ w.heap.size + 1; exact hk), Below.heap_setCell _ _ _ _ (by show k ≠ w.heap.size + 1; exact hk), Below.heap_setCell _ _ _ _ (by show k ≠ w.heap.size + 1; exact hk), Below.heap_setCell _ _ _ _ (by show k ≠ w.heap.size + 1; exact hk)]
    have hz7 : (((((((w3.setCell ⟨w.heap.size + 1, 0, none⟩ (.int .i64 17)).setCell ⟨w.heap.size + 1, 1, none⟩ (.int .i64 16)).setCell ⟨w.heap.size + 1, 2, none⟩ (.int .i64 (bt : Int))).setCell ⟨w.heap.size + 1, 3, none⟩ (.slice B rs.length d)).setCell ⟨w.heap.size + 1, 4, none⟩ (.string s2)).setCell ⟨w.heap.size + 1, 5, none⟩ (.slice B3 m3 d3)).setCell ⟨w.heap.size + 1, 6, none⟩ (.slice B4 m4 d4)).heap.size = w3.heap.size := by simp [World.setCell]
    revert q7 hB7 hS7 hz7
    generalize (((((((w3.setCell ⟨w.heap.size + 1, 0, none⟩ (.int .i64 17)).setCell ⟨w.heap.size + 1, 1, none⟩ (.int .i64 16)).setCell ⟨w.heap.size + 1, 2, none⟩ (.int .i64 (bt : Int))).setCell ⟨w.heap.size + 1, 3, none⟩ (.slice B rs.length d)).setCell ⟨w.heap.size + 1, 4, none⟩ (.string s2)).setCell ⟨w.heap.size + 1, 5, none⟩ (.slice B3 m3 d3)).setCell ⟨w.heap.size + 1, 6, none⟩ (.slice B4 m4 d4)) = W7
    intro q7 hB7 hS7 hz7
    obtain ⟨k0, k1, k2, k3, k4, k5, k6⟩ := cells7 q7
    refine bodyPost_ret (v := .tuple #[.agg #[.int .i64 17, .int .i64 16, .int .i64 (bt : Int), .slice B rs.length d, .string s2, .slice B3 m3 d3, .slice B4 m4 d4], .bool true]) (by simp [results, Try.results24, go_sem, k0, k1, k2, k3, k4, k5, k6]) rfl ?_
    refine ⟨_, rfl, ?_, hB7⟩
    have := HT.out.mono (w' := W7) (fun k hk => hS7 k (by have := hk.1; omega)) (ok' := Rng w W7) (fun k hk => ⟨by have := hk.1; omega, by have := hk.2; omega⟩)
    simpa using this
end Go.Proofs.Ytlbhadggfipckaa

set_option linter.unusedVariables false
set_option linter.unusedSimpArgs false
namespace Go.Proofs.Ytlbhadggfipckaa
open Go.RowKit

section
variable {P : Program} {ops : Array Oper} {Q : Exit → Act → World → Prop} {S : World → Prop} {L : Nat}
theorem SeqT.quietG {p : PlanO} {a : Act} {w : World} {v : Value} {o : Oper} (hg : Region.wanted o (yielded ops a.tmps) = true)
    (h1 : ∀ w', S w' → (execOp a.eval o).run P w' = .ok (.value v) w') (h : seqT P ops Q S p (a.put o.dst v) w) : seqT P ops Q S (.quiet o p) a w :=
  ⟨v, .inl ⟨hg, h1⟩, h⟩
theorem SeqT.effG {b : Bool} {p : PlanO} {a : Act} {w : World} {o : Oper} (hg : Region.wanted o (yielded ops a.tmps) = true)
    (h : ∀ K : Act → World → Prop, Shut (∀ a' w', (b = true ∨ S w') → seqT P ops Q S p a' w' → K a' w') → o.wp P a w K Q) : seqT P ops Q S (.eff b o p) a w :=
  fun K hK => by
    unfold stepT
    rw [if_pos hg]
    exact h K hK
end

theorem encP_ne {strs : List UInt8} {nop : Nat} {ps : List Pr} {b : List UInt8} (h : EncP strs nop ps b) (hp : ps ≠ []) : strs ≠ [] := by
  cases h with
  | nil => exact absurd rfl hp
  | cons h hr =>
    rintro rfl
    have := h.lt
    simp at this

mutual
theorem encN_ne {strs : List UInt8} {nop : Nat} : ∀ (n : Nd) (b : List UInt8), EncN strs nop n b → n.has → strs ≠ []
  | .mk name ps ks, b, h, hh => by
    cases h with
    | mk hp hk =>
      simp only [Nd.has] at hh
      rcases hh with hh | hh
      · exact encP_ne hp hh
      · exact encL_ne ks _ hk hh
theorem encL_ne {strs : List UInt8} {nop : Nat} : ∀ (ks : List Nd) (b : List UInt8), EncL strs nop ks b → hasL ks → strs ≠ []
  | [], b, h, hh => absurd hh (by simp [hasL])
  | k :: r, b, h, hh => by
    cases h with
    | cons h1 h2 =>
      simp only [hasL] at hh
      rcases hh with hh | hh
      · exact encN_ne k _ h1 hh
      · exact encL_ne r _ h2 hh
end

theorem fits_cut {n : Nd} {x : Tr} {r' : Int} (hf : FitsP x) (hc : CutRel 12 10000 n x.root r') : (x.root.cost : Int) ≤ 10000 ∧ x.root.depth ≤ 12 := by
  rcases hc with ⟨h1, -, h2, h3⟩ | ⟨h, -⟩
  · rw [h1]; exact ⟨h2, h3⟩
  · exact absurd h (proper_root_not_bad hf.2.2.2.2.2.2.2.1)

theorem cut_again {n y : Nd} {r' : Int} (h1 : (n.cost : Int) ≤ 10000 ∧ n.depth ≤ 12) (hc : CutRel 12 10000 n y r') : y = n := by
  rcases hc with ⟨h, -⟩ | ⟨-, h, -⟩
  · exact h
  · exact absurd h1 h

/-- The bytes of a tree that fits are good. -/
theorem good_of {x : Tr} {gap nop : Nat} {st strs : List UInt8} (hfit : FitsP x) (hrb : ∀ r ∈ x.rooms, 0 ≤ r.1 ∧ r.1 ≤ 18446744073709551615 ∧ 0 ≤ r.2 ∧ r.2 ≤ 18446744073709551615) (henc : EncN strs nop x.root st) (hsl : strs.length ≤ 100000) (hstl : st.length ≤ 1000000) (hnop : nop ≤ 3) (hg : gap % 8 = 0) (hg8 : gap ≤ 8) :
    ∃ bt rs, GoodB (Lay gap x.ver x.lc x.boot x.rooms (st ++ tok nop 9) strs) bt rs x.root ∧ (⟨17, 16, (bt : Int), rs.map castR, x.root⟩ : Tr) = x := by
  obtain ⟨f1, f2, f3, f4, f5, f6, f7, f8, f9, f10⟩ := hfit
  obtain ⟨rsN, hrs, hrsb⟩ := rooms_nat x.rooms hrb f1
  obtain ⟨bt, hbt⟩ : ∃ bt : Nat, x.boot = (bt : Int) := ⟨x.boot.toNat, by omega⟩
  refine ⟨bt, rsN, ⟨⟨gap, nop, st, strs, by rw [f3, f4, hbt, hrs, lay_nat], hg, hg8, hnop, henc, encN_ne _ _ henc f2, hsl, ?_⟩, hrsb, ?_, by omega, root_okk f8, f10⟩, ?_⟩
  · rw [List.length_append, tok_len]; omega
  · have h2 := congrArg List.length hrs
    rw [List.length_map] at h2
    omega
  · obtain ⟨v, l, b, rs, n⟩ := x
    simp only at f3 f4 hbt hrs ⊢
    rw [f3, f4, hbt, hrs]

theorem good_len {dt : List UInt8} {bt : Nat} {rs : List (Nat × Nat)} {root : Nd} (h : GoodB dt bt rs root) : dt.length ≤ 100000000 := by
  obtain ⟨gap, nop, st, strs, hdt, h1, h2, h3, h4, h5, h6, h7⟩ := h.ex
  have := h.rl
  rw [hdt]
  rw [List.length_append] at h7
  simp only [List.length_append, beN_len, bytesR_len, zeros_len, List.length_cons, List.length_nil]
  omega
end Go.Proofs.Ytlbhadggfipckaa

set_option linter.unusedVariables false
set_option linter.unusedSimpArgs false
namespace Go.Proofs.Ytlbhadggfipckaa
open Go.RowKit

theorem tr_ext {x y : Tr} (h1 : y.ver = x.ver) (h2 : y.lc = x.lc) (h3 : y.boot = x.boot) (h4 : y.rooms = x.rooms) (h5 : y.root = x.root) : y = x := by
  cases x; cases y; simp_all

set_option maxRecDepth 20000 in
set_option maxHeartbeats 4000000 in
theorem fnParse_walk (t : Tr) (cs : Array Value) (n : Int) (w : World) (ok : Nat → Prop) (hok : ∀ k, ok k → k < w.heap.size) (ht : TreeC w ok t cs) (hnb : -9223372036854775808 ≤ n ∧ n ≤ 9223372036854775807) :
    Calls Try.prog 8 #[.agg cs, .int .i64 n] w (TruePost w) := by
  obtain ⟨A, c, s1, A3, n3, c3, A4, n4, c4, rfl⟩ := ht.form
  have hb0 : Below w.heap.size w (w.alloc (.cells #[.int .i64 t.ver, .int .i64 t.lc, .int .i64 t.boot, .slice A t.rooms.length c, .string s1, .slice A3 n3 c3, .slice A4 n4 c4] 40)) := (Below.refl _ _).alloc (Nat.le_refl _) _
  have H15 := Lib.hid (fits1_walk _ ok t _ (ht.mono (Same.of_below hb0 hok) (fun _ h => h)))
  have HT := Lib.hid ht
  have HB0 := Lib.hid hb0
  have q0 := Cs.new w 40 #[.int .i64 t.ver, .int .i64 t.lc, .int .i64 t.boot, .slice A t.rooms.length c, .string s1, .slice A3 n3 c3, .slice A4 n4 c4]
  have Hq0 := Lib.hid q0
  have Hnb := Lib.hid hnb
  clear ht hb0 q0 hnb
  go_enter Try.func8, Try.ntmps8
  go_wp2_with fail
  refine H15.out.mono ?_
  rintro e w1 ⟨rfl, hb⟩
  have HB1 := Lib.hid (HB0.out.trans (hb.mono (by simp)))
  have q1 := Hq0.out.below hb (by simp)
  obtain ⟨c0, c1, c2, c3', c4', c5, c6⟩ := cells7 q1
  have Hq1 := Lib.hid q1
  have l1 := q1.lt
  clear hb q1
  by_cases hr : (t.rooms.length : Int) ≤ 2147483647
  case neg =>
    have hd : decide ((t.rooms.length : Int) ≤ 2147483647) = false := decide_eq_false hr
    rw [hd]
    go_wp2_with fail
    go_ret
    exact ⟨rfl, HB1.out⟩
  have hd : decide ((t.rooms.length : Int) ≤ 2147483647) = true := decide_eq_true hr
  rw [hd]
  go_wp2_with fail
  have hok1 : ∀ k, ok k → k < w1.heap.size := fun k hk => Nat.lt_of_lt_of_le (hok k hk) HB1.out.size
  refine (tree_walk w1 ok t _ hok1 (HT.out.mono (Same.of_below HB1.out hok) (fun _ h => h))).mono ?_
  rintro e w2 ⟨x, cx, rfl, hx, hb2, e1, e2, e3, e4, r', hcut⟩
  obtain ⟨B, d, s2, B3, m3, d3, B4, m4, d4, rfl⟩ := hx.form
  have HB2 := Lib.hid (HB1.out.trans (hb2.mono HB1.out.size))
  have Hq2 := Lib.hid (Hq1.out.below hb2 l1)
  have Hsz2 : w.heap.size + 1 ≤ w2.heap.size := by have := hb2.size; omega
  have Hx := Lib.hid hx
  have He := Lib.hid (And.intro e1 (And.intro e2 (And.intro e3 (And.intro e4 hcut))))
  have HX3 := Lib.hid (hx.mono (w' := w2.alloc (.cells #[.int .i64 x.ver, .int .i64 x.lc, .int .i64 x.boot, .slice B x.rooms.length d, .string s2, .slice B3 m3 d3, .slice B4 m4 d4] 48)) (Same.of_below ((Below.refl _ _).alloc (Nat.le_refl _) _) (fun k hk => hk.elim (fun h => by have := hok k h; omega) (fun h => h.2))) (fun _ h => h))
  have hokx : ∀ k, Blo ok w1 w2 k → k < w2.heap.size := fun k hk => hk.elim (fun h => by have := hok k h; omega) (fun h => h.2)
  have q5 := Cs.new w2 48 #[.int .i64 x.ver, .int .i64 x.lc, .int .i64 x.boot, .slice B x.rooms.length d, .string s2, .slice B3 m3 d3, .slice B4 m4 d4]
  have Hq5 := Lib.hid q5
  clear hb2 e1 e2 e3 e4 hcut hx c0 c1 c2 c3' c4' c5 c6 hd q5
  go_wp2_with fail
  refine (fits_walk _ (Blo ok w1 w2) x _ (fun k hk => by have := hokx k hk; simp; omega) HX3.out).mono ?_
  rintro e w3 ⟨hb3, hor⟩
  have s3z := hb3.size
  simp at s3z
  have Hb23 := Lib.hid (((Below.refl w2.heap.size w2).alloc (Nat.le_refl _) _).trans (hb3.mono (by simp)))
  have HB3 := Lib.hid (HB2.out.trans (Hb23.out.mono HB2.out.size))
  have Hq3 := Lib.hid (Hq2.out.below Hb23.out Hsz2)
  have Hq6 := Lib.hid (Hq5.out.below hb3 (by simp))
  clear hb3
  rcases hor with rfl | ⟨rfl, hfit⟩
  · go_wp2_with fail
    refine (works_true w3).mono ?_
    rintro e w4 ⟨rfl, hb4⟩
    go_wp2_with fail
    go_ret
    exact ⟨rfl, HB3.out.trans (hb4.mono HB3.out.size)⟩
  by_cases hn : 0 ≤ n ∧ n ≤ 3
  case neg =>
    by_cases hn0 : n < 0
    · have d0 : decide (n < 0) = true := decide_eq_true hn0
      clear hn hn0
      go_wp2_with fail
      refine (works_true w3).mono ?_
      rintro e w4 ⟨rfl, hb4⟩
      go_wp2_with fail
      go_ret
      exact ⟨rfl, HB3.out.trans (hb4.mono HB3.out.size)⟩
    · have d0 : decide (n < 0) = false := decide_eq_false hn0
      have d1 : decide (3 < n) = true := decide_eq_true (by omega)
      clear hn hn0
      go_wp2_with fail
      refine (works_true w3).mono ?_
      rintro e w4 ⟨rfl, hb4⟩
      go_wp2_with fail
      go_ret
      exact ⟨rfl, HB3.out.trans (hb4.mono HB3.out.size)⟩
  obtain ⟨m, rfl⟩ : ∃ m : Nat, n = (m : Int) := ⟨n.toNat, by omega⟩
  have hm3 : m ≤ 3 := by omega
  have d0 : decide ((m : Int) < 0) = false := decide_eq_false (by omega)
  have d1 : decide (3 < (m : Int)) = false := decide_eq_false (by omega)
  have dn0 : ¬ (m : Int) < 0 := by omega
  have dn1 : ¬ (3 : Int) < (m : Int) := by omega
  have Hcut := Lib.hid (fits_cut hfit He.out.2.2.2.2)
  have hxt : x = t := fits_same hfit He.out.1 He.out.2.1 He.out.2.2.1 He.out.2.2.2.1 He.out.2.2.2.2
  subst hxt
  obtain ⟨z0, z1, z2, z3, z4, z5, z6⟩ := cells7 Hq6.out
  have hrb : ∀ r ∈ x.rooms, 0 ≤ r.1 ∧ r.1 ≤ 18446744073709551615 ∧ 0 ≤ r.2 ∧ r.2 ≤ 18446744073709551615 := by
    obtain ⟨vr, k, -, ⟨-, -, -, -, -, -, h, -⟩, -⟩ := HT.out
    exact h
  have hok3 : ∀ k, Blo ok w1 w2 k → k < w3.heap.size := fun k hk => by have := hokx k hk; omega
  have H23 := Lib.hid (bytes_walk x _ w3 (Blo ok w1 w2) m hok3 (HX3.out.mono (w' := w3) (fun k hk => by
    have := hokx k hk
    rw [Below.heap_alloc _ _ _ this]
    exact Hb23.out.block k this) (fun _ h => h)) hfit hm3)
  have Hfit := Lib.hid (And.intro hfit hrb)
  have l3 := Hq6.out.lt
  clear hfit hrb He H15
  go_wp2_with fail
  refine H23.out.mono ?_
  rintro e w4 ⟨A5, c5, out, rfl, hown, hb4, st, strs, henc, hsl, hstl, hout⟩
  obtain ⟨bt, rsN, hgood, hx5⟩ := good_of (gap := 0) Hfit.out.1 Hfit.out.2 henc hsl hstl hm3 (by omega) (by omega)
  rw [← hout] at hgood
  obtain ⟨o1, o2, -⟩ := own_form hown
  have hsb : SlB w4 (.slice A5 out.length c5) out := ⟨_, c5, rfl, o1, o2, own_rd hown⟩
  have HP := Lib.hid (parse_ok w4 _ out hsb (good_len hgood) bt rsN x.root hgood)
  rw [hx5] at HP
  have HB4 := Lib.hid hb4
  have hz4 := hb4.size
  clear hown hb4 henc hsl hstl hout hgood hx5 hsb o1 o2 H23 z0 z1 z2 z3 z4 z5 z6
  go_wp2_with fail
  refine HP.out.mono ?_
  rintro e w5 ⟨cs5, rfl, hT5, hb5⟩
  obtain ⟨E, ed, es, E3, en, ee, E4, em, ef, rfl⟩ := hT5.form
  have hz5 := hb5.size
  have q75 : Cs w5 w2.heap.size #[.int .i64 x.ver, .int .i64 x.lc, .int .i64 x.boot, .slice B x.rooms.length d, .string s2, .slice B3 m3 d3, .slice B4 m4 d4] := (Hq6.out.below HB4.out l3).below hb5 (by omega)
  have Hq8 := Lib.hid (And.intro (Cs.new w5 40 #[.int .i64 x.ver, .int .i64 x.lc, .int .i64 x.boot, .slice E x.rooms.length ed, .string es, .slice E3 en ee, .slice E4 em ef]).drew (q75.alloc (.cells #[.int .i64 x.ver, .int .i64 x.lc, .int .i64 x.boot, .slice E x.rooms.length ed, .string es, .slice E3 en ee, .slice E4 em ef] 40)).drew)
  have hokE : ∀ k, Rng w4 w5 k → k < ((w5.alloc (.cells #[.int .i64 x.ver, .int .i64 x.lc, .int .i64 x.boot, .slice E x.rooms.length ed, .string es, .slice E3 en ee, .slice E4 em ef] 40)).drew).heap.size := fun k hk => by have := hk.2; simp; omega
  have hokE0 : ∀ k, Rng w4 w5 k → k < w5.heap.size := fun k hk => hk.2
  have HTE := Lib.hid hT5
  have HX8 := Lib.hid (HX3.out.mono (w' := w5) (fun k hk => by
    have := hokx k hk
    rw [Below.heap_alloc _ _ _ this, hb5.block k (by omega), HB4.out.block k (by omega)]
    exact Hb23.out.block k this) (fun _ h => h))
  have HB5 := Lib.hid (((HB3.out.trans (HB4.out.mono HB3.out.size)).trans (hb5.mono (by have := HB3.out.size; omega))))
  clear hT5 hb5 q75 HP
  go_wp2_with fail
  refine wp_region_plan (fun w' => w'.cell? ⟨w5.heap.size, 0, none⟩ = some (.int .i64 x.ver) ∧ w'.cell? ⟨w5.heap.size, 1, none⟩ = some (.int .i64 x.lc) ∧ w'.cell? ⟨w5.heap.size, 2, none⟩ = some (.int .i64 x.boot) ∧ w'.cell? ⟨w5.heap.size, 3, none⟩ = some (.slice E x.rooms.length ed) ∧ w'.cell? ⟨w5.heap.size, 4, none⟩ = some (.string es) ∧ w'.cell? ⟨w5.heap.size, 5, none⟩ = some (.slice E3 en ee) ∧ w'.cell? ⟨w5.heap.size, 6, none⟩ = some (.slice E4 em ef) ∧ w'.cell? ⟨w2.heap.size, 0, none⟩ = some (.int .i64 x.ver) ∧ w'.cell? ⟨w2.heap.size, 1, none⟩ = some (.int .i64 x.lc) ∧ w'.cell? ⟨w2.heap.size, 2, none⟩ = some (.int .i64 x.boot) ∧ w'.cell? ⟨w2.heap.size, 3, none⟩ = some (.slice B x.rooms.length d) ∧ w'.cell? ⟨w2.heap.size, 4, none⟩ = some (.string s2) ∧ w'.cell? ⟨w2.heap.size, 5, none⟩ = some (.slice B3 m3 d3) ∧ w'.cell? ⟨w2.heap.size, 6, none⟩ = some (.slice B4 m4 d4)) 11 (.quiet 0 (.quiet 1 (.quiet 2 (.quiet 4 (.eff 3 (.eff 5 (.quiet 6 (.quiet 7 (.eff 8 (.quiet 9 (.quiet 10 .done))))))))))) (by kernel_rfl) (by kernel_rfl) ⟨(Cs.cell (cs := #[.int .i64 x.ver, .int .i64 x.lc, .int .i64 x.boot, .slice E x.rooms.length ed, .string es, .slice E3 en ee, .slice E4 em ef]) Hq8.out.1 0).trans rfl, (Cs.cell (cs := #[.int .i64 x.ver, .int .i64 x.lc, .int .i64 x.boot, .slice E x.rooms.length ed, .string es, .slice E3 en ee, .slice E4 em ef]) Hq8.out.1 1).trans rfl, (Cs.cell (cs := #[.int .i64 x.ver, .int .i64 x.lc, .int .i64 x.boot, .slice E x.rooms.length ed, .string es, .slice E3 en ee, .slice E4 em ef]) Hq8.out.1 2).trans rfl, (Cs.cell (cs := #[.int .i64 x.ver, .int .i64 x.lc, .int .i64 x.boot, .slice E x.rooms.length ed, .string es, .slice E3 en ee, .slice E4 em ef]) Hq8.out.1 3).trans rfl, (Cs.cell (cs := #[.int .i64 x.ver, .int .i64 x.lc, .int .i64 x.boot, .slice E x.rooms.length ed, .string es, .slice E3 en ee, .slice E4 em ef]) Hq8.out.1 4).trans rfl, (Cs.cell (cs := #[.int .i64 x.ver, .int .i64 x.lc, .int .i64 x.boot, .slice E x.rooms.length ed, .string es, .slice E3 en ee, .slice E4 em ef]) Hq8.out.1 5).trans rfl, (Cs.cell (cs := #[.int .i64 x.ver, .int .i64 x.lc, .int .i64 x.boot, .slice E x.rooms.length ed, .string es, .slice E3 en ee, .slice E4 em ef]) Hq8.out.1 6).trans rfl, (Cs.cell (cs := #[.int .i64 x.ver, .int .i64 x.lc, .int .i64 x.boot, .slice B x.rooms.length d, .string s2, .slice B3 m3 d3, .slice B4 m4 d4]) Hq8.out.2 0).trans rfl, (Cs.cell (cs := #[.int .i64 x.ver, .int .i64 x.lc, .int .i64 x.boot, .slice B x.rooms.length d, .string s2, .slice B3 m3 d3, .slice B4 m4 d4]) Hq8.out.2 1).trans rfl, (Cs.cell (cs := #[.int .i64 x.ver, .int .i64 x.lc, .int .i64 x.boot, .slice B x.rooms.length d, .string s2, .slice B3 m3 d3, .slice B4 m4 d4]) Hq8.out.2 2).trans rfl, (Cs.cell (cs := #[.int .i64 x.ver, .int .i64 x.lc, .int .i64 x.boot, .slice B x.rooms.length d, .string s2, .slice B3 m3 d3, .slice B4 m4 d4]) Hq8.out.2 3).trans rfl, (Cs.cell (cs := #[.int .i64 x.ver, .int .i64 x.lc, .int .i64 x.boot, .slice B x.rooms.length d, .string s2, .slice B3 m3 d3, .slice B4 m4 d4]) Hq8.out.2 4).trans rfl, (Cs.cell (cs := #[.int .i64 x.ver, .int .i64 x.lc, .int .i64 x.boot, .slice B x.rooms.length d, .string s2, .slice B3 m3 d3, .slice B4 m4 d4]) Hq8.out.2 5).trans rfl, (Cs.cell (cs := #[.int .i64 x.ver, .int .i64 x.lc, .int .i64 x.boot, .slice B x.rooms.length d, .string s2, .slice B3 m3 d3, .slice B4 m4 d4]) Hq8.out.2 6).trans rfl⟩ ?_
  simp only [planO, opAt, List.getElem?_toArray, List.getElem?_cons_zero, List.getElem?_cons_succ, Option.getD_some, Nat.reduceBEq]
  iterate 4
    first | refine' SeqT.quiet (by rfl) ?_ ?_ | refine' SeqT.quietG (by rfl) ?_ ?_
    rotate_left
    · rintro w' ⟨hS1, hS2, hS3, hS4, hS5, hS6, hS7, hS8, hS9, hS10, hS11, hS12, hS13, hS14⟩
      go_simp
      try with_reducible rfl
    try simp only [Act.put, List.setIfInBounds_toArray, List.set_cons_zero, List.set_cons_succ]
  refine SeqT.effG ?_ ?_
  · rfl
  intro K hK
  go_simp
  refine (tree_walk _ _ x _ hokE (HTE.out.mono (w' := (w5.alloc (.cells #[.int .i64 x.ver, .int .i64 x.lc, .int .i64 x.boot, .slice E x.rooms.length ed, .string es, .slice E3 en ee, .slice E4 em ef] 40)).drew) (fun k hk => Below.heap_alloc _ _ _ (hokE0 k hk)) (fun _ h => h))).mono ?_
  rintro e w6 ⟨y, cy, rfl, hy, hb6, y1, y2, y3, y4, ry, hcy⟩
  obtain ⟨F, fd, fs, F3, fn, fe, F4, fm, ff, rfl⟩ := hy.form
  have hyx : y = x := tr_ext y1 y2 y3 y4 (cut_again Hcut.out hcy)
  subst hyx
  have hz6 := hb6.size
  simp at hz6
  have q66 := Hq8.out.1.below hb6 (by simp)
  have q65 := Hq8.out.2.below hb6 (by simp; omega)
  refine hK.out _ _ (.inr ⟨(Cs.cell (cs := #[.int .i64 y.ver, .int .i64 y.lc, .int .i64 y.boot, .slice E y.rooms.length ed, .string es, .slice E3 en ee, .slice E4 em ef]) q66 0).trans rfl, (Cs.cell (cs := #[.int .i64 y.ver, .int .i64 y.lc, .int .i64 y.boot, .slice E y.rooms.length ed, .string es, .slice E3 en ee, .slice E4 em ef]) q66 1).trans rfl, (Cs.cell (cs := #[.int .i64 y.ver, .int .i64 y.lc, .int .i64 y.boot, .slice E y.rooms.length ed, .string es, .slice E3 en ee, .slice E4 em ef]) q66 2).trans rfl, (Cs.cell (cs := #[.int .i64 y.ver, .int .i64 y.lc, .int .i64 y.boot, .slice E y.rooms.length ed, .string es, .slice E3 en ee, .slice E4 em ef]) q66 3).trans rfl, (Cs.cell (cs := #[.int .i64 y.ver, .int .i64 y.lc, .int .i64 y.boot, .slice E y.rooms.length ed, .string es, .slice E3 en ee, .slice E4 em ef]) q66 4).trans rfl, (Cs.cell (cs := #[.int .i64 y.ver, .int .i64 y.lc, .int .i64 y.boot, .slice E y.rooms.length ed, .string es, .slice E3 en ee, .slice E4 em ef]) q66 5).trans rfl, (Cs.cell (cs := #[.int .i64 y.ver, .int .i64 y.lc, .int .i64 y.boot, .slice E y.rooms.length ed, .string es, .slice E3 en ee, .slice E4 em ef]) q66 6).trans rfl, (Cs.cell (cs := #[.int .i64 y.ver, .int .i64 y.lc, .int .i64 y.boot, .slice B y.rooms.length d, .string s2, .slice B3 m3 d3, .slice B4 m4 d4]) q65 0).trans rfl, (Cs.cell (cs := #[.int .i64 y.ver, .int .i64 y.lc, .int .i64 y.boot, .slice B y.rooms.length d, .string s2, .slice B3 m3 d3, .slice B4 m4 d4]) q65 1).trans rfl, (Cs.cell (cs := #[.int .i64 y.ver, .int .i64 y.lc, .int .i64 y.boot, .slice B y.rooms.length d, .string s2, .slice B3 m3 d3, .slice B4 m4 d4]) q65 2).trans rfl, (Cs.cell (cs := #[.int .i64 y.ver, .int .i64 y.lc, .int .i64 y.boot, .slice B y.rooms.length d, .string s2, .slice B3 m3 d3, .slice B4 m4 d4]) q65 3).trans rfl, (Cs.cell (cs := #[.int .i64 y.ver, .int .i64 y.lc, .int .i64 y.boot, .slice B y.rooms.length d, .string s2, .slice B3 m3 d3, .slice B4 m4 d4]) q65 4).trans rfl, (Cs.cell (cs := #[.int .i64 y.ver, .int .i64 y.lc, .int .i64 y.boot, .slice B y.rooms.length d, .string s2, .slice B3 m3 d3, .slice B4 m4 d4]) q65 5).trans rfl, (Cs.cell (cs := #[.int .i64 y.ver, .int .i64 y.lc, .int .i64 y.boot, .slice B y.rooms.length d, .string s2, .slice B3 m3 d3, .slice B4 m4 d4]) q65 6).trans rfl⟩) ?_
  clear hK K
  try simp only [Act.put, List.setIfInBounds_toArray, List.set_cons_zero, List.set_cons_succ]
  refine SeqT.effG ?_ ?_
  · rfl
  intro K hK
  go_simp
  refine (equal_walk y w6 _ (Blo ok w1 w2) _ _ (fun k hk => hk.elim (fun h => by have := hokE0 k h; omega) (fun h => h.2)) (fun k hk => by have := hokx k hk; omega) hy (HX8.out.mono (w := w5) (w' := w6) (fun k hk => by have h1 := hokx k hk; rw [hb6.block k (by simp; omega)]; exact Below.heap_alloc _ _ _ (by omega)) (fun _ h => h))).mono ?_
  rintro e w7 ⟨rfl, hb7⟩
  have q76 := q66.below hb7 (by omega)
  have q75 := q65.below hb7 (by omega)
  refine hK.out _ _ (.inr ⟨(Cs.cell (cs := #[.int .i64 y.ver, .int .i64 y.lc, .int .i64 y.boot, .slice E y.rooms.length ed, .string es, .slice E3 en ee, .slice E4 em ef]) q76 0).trans rfl, (Cs.cell (cs := #[.int .i64 y.ver, .int .i64 y.lc, .int .i64 y.boot, .slice E y.rooms.length ed, .string es, .slice E3 en ee, .slice E4 em ef]) q76 1).trans rfl, (Cs.cell (cs := #[.int .i64 y.ver, .int .i64 y.lc, .int .i64 y.boot, .slice E y.rooms.length ed, .string es, .slice E3 en ee, .slice E4 em ef]) q76 2).trans rfl, (Cs.cell (cs := #[.int .i64 y.ver, .int .i64 y.lc, .int .i64 y.boot, .slice E y.rooms.length ed, .string es, .slice E3 en ee, .slice E4 em ef]) q76 3).trans rfl, (Cs.cell (cs := #[.int .i64 y.ver, .int .i64 y.lc, .int .i64 y.boot, .slice E y.rooms.length ed, .string es, .slice E3 en ee, .slice E4 em ef]) q76 4).trans rfl, (Cs.cell (cs := #[.int .i64 y.ver, .int .i64 y.lc, .int .i64 y.boot, .slice E y.rooms.length ed, .string es, .slice E3 en ee, .slice E4 em ef]) q76 5).trans rfl, (Cs.cell (cs := #[.int .i64 y.ver, .int .i64 y.lc, .int .i64 y.boot, .slice E y.rooms.length ed, .string es, .slice E3 en ee, .slice E4 em ef]) q76 6).trans rfl, (Cs.cell (cs := #[.int .i64 y.ver, .int .i64 y.lc, .int .i64 y.boot, .slice B y.rooms.length d, .string s2, .slice B3 m3 d3, .slice B4 m4 d4]) q75 0).trans rfl, (Cs.cell (cs := #[.int .i64 y.ver, .int .i64 y.lc, .int .i64 y.boot, .slice B y.rooms.length d, .string s2, .slice B3 m3 d3, .slice B4 m4 d4]) q75 1).trans rfl, (Cs.cell (cs := #[.int .i64 y.ver, .int .i64 y.lc, .int .i64 y.boot, .slice B y.rooms.length d, .string s2, .slice B3 m3 d3, .slice B4 m4 d4]) q75 2).trans rfl, (Cs.cell (cs := #[.int .i64 y.ver, .int .i64 y.lc, .int .i64 y.boot, .slice B y.rooms.length d, .string s2, .slice B3 m3 d3, .slice B4 m4 d4]) q75 3).trans rfl, (Cs.cell (cs := #[.int .i64 y.ver, .int .i64 y.lc, .int .i64 y.boot, .slice B y.rooms.length d, .string s2, .slice B3 m3 d3, .slice B4 m4 d4]) q75 4).trans rfl, (Cs.cell (cs := #[.int .i64 y.ver, .int .i64 y.lc, .int .i64 y.boot, .slice B y.rooms.length d, .string s2, .slice B3 m3 d3, .slice B4 m4 d4]) q75 5).trans rfl, (Cs.cell (cs := #[.int .i64 y.ver, .int .i64 y.lc, .int .i64 y.boot, .slice B y.rooms.length d, .string s2, .slice B3 m3 d3, .slice B4 m4 d4]) q75 6).trans rfl⟩) ?_
  clear hK K
  try simp only [Act.put, List.setIfInBounds_toArray, List.set_cons_zero, List.set_cons_succ]
  iterate 2
    first | refine' SeqT.quiet (by rfl) ?_ ?_ | refine' SeqT.quietG (by rfl) ?_ ?_
    rotate_left
    · rintro w' ⟨hS1, hS2, hS3, hS4, hS5, hS6, hS7, hS8, hS9, hS10, hS11, hS12, hS13, hS14⟩
      go_simp
      try with_reducible rfl
    try simp only [Act.put, List.setIfInBounds_toArray, List.set_cons_zero, List.set_cons_succ]
  refine SeqT.effG ?_ ?_
  · rfl
  intro K hK
  go_simp
  refine (works_true w7).mono ?_
  rintro e w8 ⟨rfl, hb8⟩
  have hz7 := hb7.size
  have q86 := q76.below hb8 (by omega)
  have q85 := q75.below hb8 (by omega)
  refine hK.out _ _ (.inr ⟨(Cs.cell (cs := #[.int .i64 y.ver, .int .i64 y.lc, .int .i64 y.boot, .slice E y.rooms.length ed, .string es, .slice E3 en ee, .slice E4 em ef]) q86 0).trans rfl, (Cs.cell (cs := #[.int .i64 y.ver, .int .i64 y.lc, .int .i64 y.boot, .slice E y.rooms.length ed, .string es, .slice E3 en ee, .slice E4 em ef]) q86 1).trans rfl, (Cs.cell (cs := #[.int .i64 y.ver, .int .i64 y.lc, .int .i64 y.boot, .slice E y.rooms.length ed, .string es, .slice E3 en ee, .slice E4 em ef]) q86 2).trans rfl, (Cs.cell (cs := #[.int .i64 y.ver, .int .i64 y.lc, .int .i64 y.boot, .slice E y.rooms.length ed, .string es, .slice E3 en ee, .slice E4 em ef]) q86 3).trans rfl, (Cs.cell (cs := #[.int .i64 y.ver, .int .i64 y.lc, .int .i64 y.boot, .slice E y.rooms.length ed, .string es, .slice E3 en ee, .slice E4 em ef]) q86 4).trans rfl, (Cs.cell (cs := #[.int .i64 y.ver, .int .i64 y.lc, .int .i64 y.boot, .slice E y.rooms.length ed, .string es, .slice E3 en ee, .slice E4 em ef]) q86 5).trans rfl, (Cs.cell (cs := #[.int .i64 y.ver, .int .i64 y.lc, .int .i64 y.boot, .slice E y.rooms.length ed, .string es, .slice E3 en ee, .slice E4 em ef]) q86 6).trans rfl, (Cs.cell (cs := #[.int .i64 y.ver, .int .i64 y.lc, .int .i64 y.boot, .slice B y.rooms.length d, .string s2, .slice B3 m3 d3, .slice B4 m4 d4]) q85 0).trans rfl, (Cs.cell (cs := #[.int .i64 y.ver, .int .i64 y.lc, .int .i64 y.boot, .slice B y.rooms.length d, .string s2, .slice B3 m3 d3, .slice B4 m4 d4]) q85 1).trans rfl, (Cs.cell (cs := #[.int .i64 y.ver, .int .i64 y.lc, .int .i64 y.boot, .slice B y.rooms.length d, .string s2, .slice B3 m3 d3, .slice B4 m4 d4]) q85 2).trans rfl, (Cs.cell (cs := #[.int .i64 y.ver, .int .i64 y.lc, .int .i64 y.boot, .slice B y.rooms.length d, .string s2, .slice B3 m3 d3, .slice B4 m4 d4]) q85 3).trans rfl, (Cs.cell (cs := #[.int .i64 y.ver, .int .i64 y.lc, .int .i64 y.boot, .slice B y.rooms.length d, .string s2, .slice B3 m3 d3, .slice B4 m4 d4]) q85 4).trans rfl, (Cs.cell (cs := #[.int .i64 y.ver, .int .i64 y.lc, .int .i64 y.boot, .slice B y.rooms.length d, .string s2, .slice B3 m3 d3, .slice B4 m4 d4]) q85 5).trans rfl, (Cs.cell (cs := #[.int .i64 y.ver, .int .i64 y.lc, .int .i64 y.boot, .slice B y.rooms.length d, .string s2, .slice B3 m3 d3, .slice B4 m4 d4]) q85 6).trans rfl⟩) ?_
  clear hK K
  try simp only [Act.put, List.setIfInBounds_toArray, List.set_cons_zero, List.set_cons_succ]
  iterate 2
    first | refine' SeqT.quiet (by rfl) ?_ ?_ | refine' SeqT.quietG (by rfl) ?_ ?_
    rotate_left
    · rintro w' ⟨hS1, hS2, hS3, hS4, hS5, hS6, hS7, hS8, hS9, hS10, hS11, hS12, hS13, hS14⟩
      go_simp
      try with_reducible rfl
    try simp only [Act.put, List.setIfInBounds_toArray, List.set_cons_zero, List.set_cons_succ]
  refine SeqT.done ?_
  have h56 : Below w.heap.size w w6 := ((HB5.out.alloc (by have := HB5.out.size; omega) (.cells #[.int .i64 y.ver, .int .i64 y.lc, .int .i64 y.boot, .slice E y.rooms.length ed, .string es, .slice E3 en ee, .slice E4 em ef] 40)).drew).trans (hb6.mono (by have := HB5.out.size; simp; omega))
  have h57 : Below w.heap.size w w7 := h56.trans (hb7.mono h56.size)
  have HFIN := Lib.hid (h57.trans (hb8.mono h57.size))
  clear hb6 hb7 hb8 h56 h57
  go_wp2_with fail
  go_ret
  exact ⟨rfl, HFIN.out⟩
end Go.Proofs.Ytlbhadggfipckaa
