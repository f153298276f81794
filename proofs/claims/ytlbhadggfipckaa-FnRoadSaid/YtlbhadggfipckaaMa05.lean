/-
  laws.zzFits1 and laws.tree: a tree of the reference.
  spec.name: whether a text is a name.
  spec.some; what spec.Proper says, as plain data.
-/
import Derived.Test.YtlbhadggfipckaaMa04
set_option linter.unusedVariables false
set_option linter.unusedSimpArgs false
namespace Go.Proofs.Ytlbhadggfipckaa
open Go.RowKit

theorem info81 : (Try.prog.info? 81).map (fun i => (i.zero, i.size, i.bytes)) = some (some (.agg #[.int .u64 0, .int .u64 0]), 2, 16) := by kernel_rfl
theorem el42 : Elem Try.prog 42 81 2 16 := by
  obtain ⟨i, hi, hz0, hz1, hz2⟩ := info_parts info81
  exact ⟨Try.underlying42, i, _, hi, hz0, hz1, hz2, rfl, by omega⟩

/-- laws.zzFits1 -/
theorem fits1_walk (w : World) (ok : Nat → Prop) (t : Tr) (cs : Array Value) (h : TreeC w ok t cs) :
    Calls Try.prog 15 #[.agg cs] w (fun e w' => e = .returned (.bool (decide ((t.rooms.length : Int) ≤ 2147483647))) ∧ Below w.heap.size w w') := by
  obtain ⟨vr, ⟨k1, k2, k3⟩, rfl, hr, hn, hb⟩ := h
  obtain ⟨A, c, rfl, h1, h2, h3, -, -⟩ := hr
  obtain ⟨s1, A3, n3, c3, A4, n4, c4, hk⟩ := hn.form
  simp only [Prod.mk.injEq] at hk
  obtain ⟨rfl, rfl, rfl⟩ := hk
  clear hn hb
  by_cases hg : (2147483647 : Int) < (t.rooms.length : Int)
  · have hd : decide ((t.rooms.length : Int) ≤ 2147483647) = false := decide_eq_false (by omega)
    go_enter Try.func15, Try.ntmps15
    go_wp2_with fail
    go_ret
    refine ⟨by first | rfl | (rw [hd]; rfl), ?_⟩
    exact (Below.refl _ _).alloc (Nat.le_refl _) _
  · have hd : decide ((t.rooms.length : Int) ≤ 2147483647) = true := decide_eq_true (by omega)
    go_enter Try.func15, Try.ntmps15
    go_wp2_with fail
    go_ret
    refine ⟨by first | rfl | (rw [hd]; rfl), ?_⟩
    exact (Below.refl _ _).alloc (Nat.le_refl _) _

def TreePost (w : World) (ok : Nat → Prop) (t : Tr) (e : Ending) (w' : World) : Prop :=
  ∃ x cs, e = .returned (.agg cs) ∧ TreeC w' (Blo ok w w') x cs ∧ Below w.heap.size w w' ∧ x.ver = t.ver ∧ x.lc = t.lc ∧ x.boot = t.boot ∧ x.rooms = t.rooms ∧ ∃ r', CutRel 12 10000 t.root x.root r'

theorem res48 {fn : Func} {t : Tmp} {tmps : Array Value} {w : World} {b : Nat} {v1 v2 v3 v4 v5 v6 v7 : Value} (h : fn.results = #[.cell t 48]) (ht : tmps.getD t undef = .pointer (some ⟨b, 0, none⟩)) (hc : Cs w b #[v1, v2, v3, v4, v5, v6, v7]) :
    (results fn tmps).run Try.prog w = .ok (.agg #[v1, v2, v3, v4, v5, v6, v7]) w := by
  have c0 := hc.cell 0
  have c1 := hc.cell 1
  have c2 := hc.cell 2
  have c3 := hc.cell 3
  have c4 := hc.cell 4
  have c5 := hc.cell 5
  have c6 := hc.cell 6
  simp at c0 c1 c2 c3 c4 c5 c6 ht
  simp [results, h, ht, go_sem, c0, c1, c2, c3, c4, c5, c6]

theorem rooms_of_own {w : World} {base k c : Nat} {ok' : Nat → Prop} {A : Option Addr} {rs : List (Int × Int)} (h : w.ownsRow base 81 2 (.slice A k c) k ((rs.map roomC).flatMap duo)) (hk : rs.length = k)
    (hl : rs.length * 16 ≤ 140737488351232) (hr : ∀ r ∈ rs, 0 ≤ r.1 ∧ r.1 ≤ 18446744073709551615 ∧ 0 ≤ r.2 ∧ r.2 ≤ 18446744073709551615) (hg : ∀ g, (Value.slice A k c).ownBlock = some g → ok' g) : RoomsC w ok' (.slice A k c) rs := by
  subst hk
  refine ⟨A, c, rfl, hl, ?_, ?_, hr, ?_⟩
  · rcases h.2 with ⟨h1, h2⟩ | ⟨g, cap, cur, h1, h2⟩
    · injection h1 with _ _ h1; omega
    · injection h1 with _ _ h1; omega
  · rcases h.2 with ⟨h1, h2⟩ | ⟨g, cap, cur, h1, h2⟩
    · injection h1 with _ _ h1; omega
    · injection h1 with _ _ h1; omega
  · rcases id h.2 with ⟨h1, h2⟩ | ⟨g, cap, cur, h1, h2⟩
    · exact .inl (List.length_eq_zero_iff.1 h2)
    · injection h1 with h1 _ h3
      subst h1 h3
      exact .inr ⟨g, 0, rfl, hg g rfl, own_duo h⟩

def TInv (w : World) (t : Tr) (cs0 : Array Value) (k : Nat) (wr : World) : Prop :=
  ∃ A c, Below w.heap.size w wr ∧ w.heap.size + 3 ≤ wr.heap.size ∧ Cs wr w.heap.size cs0 ∧ Cs wr (w.heap.size + 1) #[.int .i64 0, .int .i64 0, .int .i64 0, .slice none 0 0, .string ⟨#[]⟩, .slice none 0 0, .slice none 0 0] ∧
    Cs wr (w.heap.size + 1 + 1) #[.int .i64 t.ver, .int .i64 t.lc, .int .i64 t.boot, .slice A k c, .string ⟨#[]⟩, .slice none 0 0, .slice none 0 0] ∧ wr.ownsRow (w.heap.size + 3) 81 2 (.slice A k c) k (((t.rooms.take k).map roomC).flatMap duo)

theorem tree_fin {w wr w1 : World} {ok : Nat → Prop} {t : Tr} {A : Option Addr} {c : Nat} {cs : Array Value} {x : Nd} {k1 k2 k3 : Value} {r' : Int} {v1 v2 v3 v4 v5 v6 v7 : Value} (hok : ∀ k, ok k → k < w.heap.size) (hF : Below w.heap.size w wr) (hz : w.heap.size + 3 ≤ wr.heap.size)
    (h1 : t.rooms.length * 16 ≤ 140737488351232) (h4 : ∀ r ∈ t.rooms, 0 ≤ r.1 ∧ r.1 ≤ 18446744073709551615 ∧ 0 ≤ r.2 ∧ r.2 ≤ 18446744073709551615)
    (hb : (-9223372036854775808 ≤ t.ver ∧ t.ver ≤ 9223372036854775807) ∧ (-9223372036854775808 ≤ t.lc ∧ t.lc ≤ 9223372036854775807) ∧ (-9223372036854775808 ≤ t.boot ∧ t.boot ≤ 9223372036854775807))
    (hown : wr.ownsRow (w.heap.size + 3) 81 2 (.slice A t.rooms.length c) t.rooms.length ((t.rooms.map roomC).flatMap duo)) (hx : NodeC w1 (Blo ok (wr.alloc (.cells cs 3)) w1) x (k1, k2, k3)) (hf : Fr (wr.alloc (.cells cs 3)).heap.size (· = wr.heap.size) (wr.alloc (.cells cs 3)) w1)
    (hcut : CutRel 12 10000 t.root x r') (a1 a2 a3 a4 a5 a6 a7 a8 a9 a10 : Nat) :
    TreePost w ok t (.returned (.agg #[.int .i64 t.ver, .int .i64 t.lc, .int .i64 t.boot, .slice A t.rooms.length c, k1, k2, k3]))
      ((((((((((w1.setCell ⟨w.heap.size + 1 + 1, a1, none⟩ v1).setCell ⟨w.heap.size + 1 + 1, a2, none⟩ v2).setCell ⟨w.heap.size + 1 + 1, a3, none⟩ v3).setCell ⟨w.heap.size + 1, a4, none⟩ v4).setCell ⟨w.heap.size + 1, a5, none⟩ v5).setCell ⟨w.heap.size + 1, a6, none⟩ v6).setCell ⟨w.heap.size + 1, a7, none⟩ v7).setCell ⟨w.heap.size + 1, a8, none⟩ k1).setCell ⟨w.heap.size + 1, a9, none⟩ k2).setCell ⟨w.heap.size + 1, a10, none⟩ k3) := by
  have hW : (wr.alloc (.cells cs 3)).heap.size = wr.heap.size + 1 := by simp
  have s1 := hf.size
  have hB : Below w.heap.size w w1 := ((hF.alloc (by omega) (.cells cs 3))).trans (hf.below (by omega) (by omega))
  have hsm : ∀ b, b < w1.heap.size → b ≠ w.heap.size + 1 → b ≠ w.heap.size + 1 + 1 → ((((((((((w1.setCell ⟨w.heap.size + 1 + 1, a1, none⟩ v1).setCell ⟨w.heap.size + 1 + 1, a2, none⟩ v2).setCell ⟨w.heap.size + 1 + 1, a3, none⟩ v3).setCell ⟨w.heap.size + 1, a4, none⟩ v4).setCell ⟨w.heap.size + 1, a5, none⟩ v5).setCell ⟨w.heap.size + 1, a6, none⟩ v6).setCell ⟨w.heap.size + 1, a7, none⟩ v7).setCell ⟨w.heap.size + 1, a8, none⟩ k1).setCell ⟨w.heap.size + 1, a9, none⟩ k2).setCell ⟨w.heap.size + 1, a10, none⟩ k3).heap[b]? = w1.heap[b]? := fun b h0 h1 h2 => by
    rw [Below.heap_setCell _ _ _ _ h1, Below.heap_setCell _ _ _ _ h1, Below.heap_setCell _ _ _ _ h1, Below.heap_setCell _ _ _ _ h1, Below.heap_setCell _ _ _ _ h1, Below.heap_setCell _ _ _ _ h1, Below.heap_setCell _ _ _ _ h1, Below.heap_setCell _ _ _ _ h2, Below.heap_setCell _ _ _ _ h2, Below.heap_setCell _ _ _ _ h2]
  refine ⟨⟨t.ver, t.lc, t.boot, t.rooms, x⟩, _, rfl, ⟨_, (k1, k2, k3), rfl, ?_, ?_, hb⟩, ?_, rfl, rfl, rfl, rfl, r', hcut⟩
  · refine rooms_of_own (own_keep hown fun g hg => ?_) rfl h1 h4 fun g hg => ?_
    · have hl := hown.lt g hg
      rw [hsm g (by omega) (by omega) (by omega), hf.block g (by omega) (by omega), Below.heap_alloc _ _ _ hl.2]
    · have hl := hown.lt g hg
      exact .inr ⟨by omega, by simp [World.setCell]; omega⟩
  · refine NodeC.mono (fun b hb => ?_) (fun b hb => ?_) hx
    · rcases hb with hb | hb
      · have := hok b hb
        exact hsm b (by omega) (by omega) (by omega)
      · exact hsm b hb.2 (by omega) (by omega)
    · exact hb.imp id fun h => ⟨by omega, by simp [World.setCell]; omega⟩
  · refine Below.setCell (Below.setCell (Below.setCell (Below.setCell (Below.setCell (Below.setCell (Below.setCell (Below.setCell (Below.setCell (Below.setCell hB ?_ _) ?_ _) ?_ _) ?_ _) ?_ _) ?_ _) ?_ _) ?_ _) ?_ _) ?_ _ <;> simp <;> omega

set_option maxHeartbeats 2000000 in
theorem tree_walk (w : World) (ok : Nat → Prop) (t : Tr) (cs : Array Value) (hok : ∀ k, ok k → k < w.heap.size) (h : TreeC w ok t cs) : Calls Try.prog 16 #[.agg cs] w (TreePost w ok t) := by
  obtain ⟨vr, ⟨k1, k2, k3⟩, rfl, hr, hn, hb⟩ := h
  obtain ⟨A, c, rfl, h1, h2, h3, h4, h5⟩ := hr
  obtain ⟨s1, A3, n3, c3, A4, n4, c4, hk⟩ := id hn.form
  simp only [Prod.mk.injEq] at hk
  obtain ⟨rfl, rfl, rfl⟩ := hk
  have Hn := Lib.hid hn
  have Hb := Lib.hid hb
  have H4 := Lib.hid h4
  have H5 := Lib.hid h5
  clear hn hb h4 h5
  go_enter Try.func16, Try.ntmps16
  go_wp2_with fail
  go_loopw [17] (fun i wr => ∃ k : Nat, k ≤ t.rooms.length ∧ i = .int .i64 k ∧ TInv w t #[.int .i64 t.ver, .int .i64 t.lc, .int .i64 t.boot, .slice A t.rooms.length c, .string s1, .slice A3 n3 c3, .slice A4 n4 c4] k wr) (fun i _ => t.rooms.length - (intOf i).toNat)
  case atStart =>
    refine ⟨0, by omega, by go_num, none, 0, ?_, ?_, ?_, ?_, ?_, ?_⟩
    · exact (((Below.refl _ _).alloc (Nat.le_refl _) _).alloc (by simp) _).alloc (by simp; omega) _
    · simp [World.setCell]
    · exact ((Cs.new' _ _ _ _ (by simp [World.setCell])).alloc _).alloc _
    · exact (Cs.new' _ _ _ _ (by simp [World.setCell])).alloc _
    · exact Cs.new' _ _ _ _ (by simp [World.setCell])
    · exact ⟨by simp, .inl ⟨rfl, rfl⟩⟩
  case round =>
    obtain ⟨k, hk, rfl, A', c', hF, hz, q1, q2, q3, hown⟩ := hrel
    by_cases hlt : k < t.rooms.length
    · have hne : t.rooms ≠ [] := by intro e; simp [e] at hlt
      obtain ⟨b, o, rfl, hob, hD⟩ := H5.out.resolve_left hne
      have hkt : (t.rooms.map roomC)[k]? = some (roomC t.rooms[k]) := by simp [hlt]
      obtain ⟨d1, d2⟩ := hD k _ hkt
      have hbo := hok b hob
      have Hh := H4.out t.rooms[k] (List.getElem_mem hlt)
      have e1 : w.cell? ⟨b, o + k * 2, none⟩ = wr.cell? ⟨b, o + k * 2, none⟩ := (World.cell?_of_block (a := ⟨b, o + k * 2, none⟩) (hF.block b hbo)).symm
      have e2 : w.cell? ⟨b, o + k * 2 + 1, none⟩ = wr.cell? ⟨b, o + k * 2 + 1, none⟩ := (World.cell?_of_block (a := ⟨b, o + k * 2 + 1, none⟩) (hF.block b hbo)).symm
      rw [e1] at d1
      rw [e2] at d2
      have hap : ((t.rooms.take (k + 1)).map roomC).flatMap duo = ((t.rooms.take k).map roomC).flatMap duo ++ [.int .u64 t.rooms[k].1, .int .u64 t.rooms[k].2] := by
        rw [List.take_succ_eq_append_getElem hlt, List.map_append, List.flatMap_append]
        rfl
      generalize t.rooms[k] = rk at *
      obtain ⟨ra, rs⟩ := rk
      simp only [roomC] at d1 d2 hap
      clear e1 e2 hkt hD
      have Hap := Lib.hid hap
      have HF := Lib.hid hF
      have Hq := Lib.hid (And.intro q1 (And.intro q2 q3))
      have c73 := q3.cell 3
      have f73 := q3.frozen 3
      simp at c73
      have z3 := q3.lt
      have hbl : b < wr.heap.size := by omega
      have hki : (0 : Int) ≤ (k : Int) := by omega
      clear hap hF q1 q2 q3 Hh
      go_wp2_with (at_builtin; go_must (refine wpList_append_el el42 rfl (.tmp 22) (.tmp 28) rfl (w.heap.size + 3) (.slice A' k c') k (((t.rooms.take k).map roomC).flatMap duo) rfl ((hown.alloc _).alloc _) (some ⟨wr.heap.size + 1, 0, none⟩) 1 1 [.int .u64 ra, .int .u64 rs] rfl (by simp) ((Cs.new' _ _ _ _ (by simp [World.setCell])).rd rfl) (by simp [Value.oneCell']) (by omega) (by omega) (by simp [World.setCell]; omega) ?_); intro v' w1 hown1 hgrow hnil hat; obtain ⟨A2, c2, rfl⟩ := own_slice hown1; clear hnil; have hq4 := ((((Hq.out.2.2.alloc _).alloc _)).grown hgrow (own_ne hown (by omega))); have c73' := hq4.cell 3; have f73' := hq4.frozen 3; simp at c73')
      obtain ⟨q1, q2, q3⟩ := Hq.out
      have hne := fun (x : Nat) (hx : x < w.heap.size + 3) => own_ne hown hx
      refine ⟨⟨k + 1, by omega, by go_num, A2, c2, ?_, ?_, ?_, ?_, ?_, ?_⟩, by simp [intOf]; omega⟩
      · refine Below.setCell (Below.trans ((HF.out.alloc (by omega) _).alloc (by simp; omega) _) ⟨hgrow.os, hgrow.tape, hgrow.output, hgrow.size, fun x hx => hgrow.block x (by simp; omega) (hne x (by omega))⟩) (by simp; omega) _
      · have := hgrow.size
        simp [World.setCell] at this ⊢
        omega
      · exact ((((q1.alloc _).alloc _)).grown hgrow (hne _ (by omega))).far (by simp; omega) _
      · exact ((((q2.alloc _).alloc _)).grown hgrow (hne _ (by omega))).far (by simp) _
      · exact hq4.set_ 3 _
      · rw [Hap.out]
        exact ownsRow_setCell_below hown1 (a := ⟨w.heap.size + 1 + 1, 3, none⟩) (by simp) _
    · obtain rfl : k = t.rooms.length := by omega
      rw [List.take_length] at hown
      have c04 := q1.cell 4
      have c05 := q1.cell 5
      have c06 := q1.cell 6
      simp at c04 c05 c06
      have z1 := q1.lt
      have z2 := q2.lt
      have z3 := q3.lt
      have Hq := Lib.hid (And.intro q1 (And.intro q2 q3))
      have HF := Lib.hid hF
      have hI := node_walk 12 (by omega) (wr.alloc (.cells #[.int .i64 10000] 3)) ok wr.heap.size t.root _ 10000 (by omega) (by omega) (fun x hx => by have := hok x hx; simp; omega) (fun hx => by have := hok _ hx; omega)
        (NodeC.mono (Same.of_below (hF.alloc (by omega) _) hok) (fun _ h => h) Hn.out) (Cs.new _ _ _)
      have HI := Lib.hid hI
      clear q1 q2 q3 hF hI
      go_wp2_with (go_at_call 33; refine HI.out.mono ?_; rintro e w1 ⟨x, tt, r', rfl, hx, hc', hf', hcut⟩; obtain ⟨s5, A5, n5, c5, A6, n6, c6, rfl⟩ := hx.form; have s1z := hf'.size; have g3 := (Hq.out.2.2.alloc (.cells #[.int .i64 10000] 3)).fr hf' (by simp; omega) (by omega); have g2 := (Hq.out.2.1.alloc (.cells #[.int .i64 10000] 3)).fr hf' (by simp; omega) (by omega); have Hx := Lib.hid hx; have Hf := Lib.hid hf'; have Hcut := Lib.hid hcut; clear hx hc' hf' hcut; have d0 := g3.cell 0; have d1 := g3.cell 1; have d2 := g3.cell 2; have d3 := g3.cell 3; have d4 := g3.cell 4; have d5 := g3.cell 5; have d6 := g3.cell 6; have m4 := g3.frozen 4; have m5 := g3.frozen 5; have m6 := g3.frozen 6; have b0 := g2.cell 0; have b1 := g2.cell 1; have b2 := g2.cell 2; have b3 := g2.cell 3; have b4 := g2.cell 4; have b5 := g2.cell 5; have b6 := g2.cell 6; have l0 := g2.frozen 0; have l1 := g2.frozen 1; have l2 := g2.frozen 2; have l3 := g2.frozen 3; have l4 := g2.frozen 4; have l5 := g2.frozen 5; have l6 := g2.frozen 6; simp at d0 d1 d2 d3 d4 d5 d6 b0 b1 b2 b3 b4 b5 b6; have G2 := Lib.hid g2; clear g2 g3; (try dsimp only))
      refine bodyPost_ret (res48 (b := w.heap.size + 1) (v1 := .int .i64 t.ver) (v2 := .int .i64 t.lc) (v3 := .int .i64 t.boot) (v4 := .slice A' t.rooms.length c') (v5 := .string s5) (v6 := .slice A5 n5 c5) (v7 := .slice A6 n6 c6) rfl rfl
        ((((((((((G2.out.far (by simp) _).far (by simp) _).far (by simp) _).set_ 0 _).set_ 1 _).set_ 2 _).set_ 3 _).set_ 4 _).set_ 5 _).set_ 6 _)) rfl ?_
      exact tree_fin hok HF.out hz h1 H4.out Hb.out hown Hx.out Hf.out Hcut.out 4 5 6 0 1 2 3 4 5 6
end Go.Proofs.Ytlbhadggfipckaa

set_option linter.unusedVariables false
set_option linter.unusedSimpArgs false
namespace Go.Proofs.Ytlbhadggfipckaa
open Go.RowKit

def okName (c : UInt8) : Prop := 33 ≤ (c.toNat : Int) ∧ (c.toNat : Int) ≤ 126

def NameP (s : ByteArray) : Prop := (∀ k, ∀ h : k < s.size, okName s[k]) ∧ 1 ≤ s.size ∧ s.size ≤ 31

def NamePost (s : ByteArray) (w : World) (e : Ending) (w' : World) : Prop :=
  (e = .returned (.bool true) ∧ NameP s ∨ e = .returned (.bool false)) ∧ w = w'

theorem step_name {s : ByteArray} {k : Nat} {hk : k < s.size} (H : ∀ j, ∀ h : j < s.size, j < k → okName s[j]) (hc : okName s[k]) : ∀ j, ∀ h : j < s.size, j < k + 1 → okName s[j] := fun j h hj => by
  rcases Nat.lt_or_ge j k with hjk | hjk
  · exact H j h hjk
  · obtain rfl : j = k := by omega
    exact hc

set_option maxHeartbeats 1000000 in
theorem name_walk (s g : ByteArray) (w : World) (hs : s.size ≤ 140737488351232) (hg : g.size ≤ 100) (hok : ∀ k, ∀ h : k < g.size, okName g[k]) : Calls Try.prog 58 #[.string s, .string g] w (NamePost s w) := by
  have Hok := Lib.hid hok
  clear hok
  go_enter Try.func58, Try.ntmps58
  go_wp2_with fail
  go_loop [11] (fun i => ∃ k : Nat, k ≤ s.size ∧ i = .int .i64 k ∧ Hid (∀ j, ∀ h : j < s.size, j < k → okName s[j])) (fun i => s.size - (intOf i).toNat)
  case atStart => exact ⟨0, Nat.zero_le _, rfl, Lib.hid (fun j h hj => absurd hj (Nat.not_lt_zero _))⟩
  case round =>
    obtain ⟨k, hk, rfl, H⟩ := hrel
    by_cases hlt : k < s.size
    · have hb := s[k].toNat_lt
      go_wp2_with fail
      go_loop [19, 7] (fun i x => ∃ m : Nat, m ≤ g.size ∧ i = .int .i64 m ∧ ∃ b, x = .bool b ∧ (b = true → okName s[k])) (fun i x => g.size - (intOf i).toNat)
      case atStart => exact ⟨0, Nat.zero_le _, rfl, false, rfl, fun h => by simp at h⟩
      case round =>
        obtain ⟨m, hm, rfl, b, rfl, hbn⟩ := hrel
        by_cases hlt2 : m < g.size
        · have hb2 := g[m].toNat_lt
          cases b
          · by_cases heq : (g[m].toNat : Int) = (s[k].toNat : Int)
            · have he : ((g[m].toNat : Int) == (s[k].toNat : Int)) = true := by simpa using heq
              have hn : okName s[k] := by
                have := Hok.out m hlt2
                unfold okName at *
                omega
              go_wp2_with fail
              go_round
              case rel => exact ⟨m + 1, by omega, by go_num, true, rfl, fun _ => hn⟩
              case measure => simp [intOf]; omega
            · have he : ((g[m].toNat : Int) == (s[k].toNat : Int)) = false := by simpa using heq
              go_wp2_with fail
              go_round
              case rel => exact ⟨m + 1, by omega, by go_num, false, rfl, fun h => by simp at h⟩
              case measure => simp [intOf]; omega
          · go_wp2_with fail
            go_round
            case rel => exact ⟨m + 1, by omega, by go_num, true, rfl, hbn⟩
            case measure => simp [intOf]; omega
        · obtain rfl : m = g.size := by omega
          cases b
          · by_cases a1 : (s[k].toNat : Int) < 97
            · by_cases a3 : (s[k].toNat : Int) < 65
              · by_cases a5 : (s[k].toNat : Int) < 48
                · have d1 : decide ((s[k].toNat : Int) < 97) = true := decide_eq_true (by omega)
                  have d2 : decide (122 < (s[k].toNat : Int)) = false := decide_eq_false (by omega)
                  have d3 : decide ((s[k].toNat : Int) < 65) = true := decide_eq_true (by omega)
                  have d4 : decide (90 < (s[k].toNat : Int)) = false := decide_eq_false (by omega)
                  have d5 : decide ((s[k].toNat : Int) < 48) = true := decide_eq_true (by omega)
                  have d6 : decide (57 < (s[k].toNat : Int)) = false := decide_eq_false (by omega)
                  go_wp2_with fail
                  go_ret
                  exact ⟨.inr rfl, rfl⟩
                · by_cases a6 : 57 < (s[k].toNat : Int)
                  · have d1 : decide ((s[k].toNat : Int) < 97) = true := decide_eq_true (by omega)
                    have d2 : decide (122 < (s[k].toNat : Int)) = false := decide_eq_false (by omega)
                    have d3 : decide ((s[k].toNat : Int) < 65) = true := decide_eq_true (by omega)
                    have d4 : decide (90 < (s[k].toNat : Int)) = false := decide_eq_false (by omega)
                    have d5 : decide ((s[k].toNat : Int) < 48) = false := decide_eq_false (by omega)
                    have d6 : decide (57 < (s[k].toNat : Int)) = true := decide_eq_true (by omega)
                    go_wp2_with fail
                    go_ret
                    exact ⟨.inr rfl, rfl⟩
                  · have d1 : decide ((s[k].toNat : Int) < 97) = true := decide_eq_true (by omega)
                    have d2 : decide (122 < (s[k].toNat : Int)) = false := decide_eq_false (by omega)
                    have d3 : decide ((s[k].toNat : Int) < 65) = true := decide_eq_true (by omega)
                    have d4 : decide (90 < (s[k].toNat : Int)) = false := decide_eq_false (by omega)
                    have d5 : decide ((s[k].toNat : Int) < 48) = false := decide_eq_false (by omega)
                    have d6 : decide (57 < (s[k].toNat : Int)) = false := decide_eq_false (by omega)
                    go_wp2_with fail
                    have hc : okName s[k] := ⟨by omega, by omega⟩
                    go_round
                    case rel => exact ⟨k + 1, by omega, by go_num, Lib.hid (step_name H.out hc)⟩
                    case measure => simp [intOf]; omega
              · by_cases a4 : 90 < (s[k].toNat : Int)
                · have d1 : decide ((s[k].toNat : Int) < 97) = true := decide_eq_true (by omega)
                  have d2 : decide (122 < (s[k].toNat : Int)) = false := decide_eq_false (by omega)
                  have d3 : decide ((s[k].toNat : Int) < 65) = false := decide_eq_false (by omega)
                  have d4 : decide (90 < (s[k].toNat : Int)) = true := decide_eq_true (by omega)
                  have d5 : decide ((s[k].toNat : Int) < 48) = false := decide_eq_false (by omega)
                  have d6 : decide (57 < (s[k].toNat : Int)) = true := decide_eq_true (by omega)
                  go_wp2_with fail
                  go_ret
                  exact ⟨.inr rfl, rfl⟩
                · have d1 : decide ((s[k].toNat : Int) < 97) = true := decide_eq_true (by omega)
                  have d2 : decide (122 < (s[k].toNat : Int)) = false := decide_eq_false (by omega)
                  have d3 : decide ((s[k].toNat : Int) < 65) = false := decide_eq_false (by omega)
                  have d4 : decide (90 < (s[k].toNat : Int)) = false := decide_eq_false (by omega)
                  have d5 : decide ((s[k].toNat : Int) < 48) = false := decide_eq_false (by omega)
                  have d6 : decide (57 < (s[k].toNat : Int)) = true := decide_eq_true (by omega)
                  go_wp2_with fail
                  have hc : okName s[k] := ⟨by omega, by omega⟩
                  go_round
                  case rel => exact ⟨k + 1, by omega, by go_num, Lib.hid (step_name H.out hc)⟩
                  case measure => simp [intOf]; omega
            · by_cases a2 : 122 < (s[k].toNat : Int)
              · have d1 : decide ((s[k].toNat : Int) < 97) = false := decide_eq_false (by omega)
                have d2 : decide (122 < (s[k].toNat : Int)) = true := decide_eq_true (by omega)
                have d3 : decide ((s[k].toNat : Int) < 65) = false := decide_eq_false (by omega)
                have d4 : decide (90 < (s[k].toNat : Int)) = true := decide_eq_true (by omega)
                have d5 : decide ((s[k].toNat : Int) < 48) = false := decide_eq_false (by omega)
                have d6 : decide (57 < (s[k].toNat : Int)) = true := decide_eq_true (by omega)
                go_wp2_with fail
                go_ret
                exact ⟨.inr rfl, rfl⟩
              · have d1 : decide ((s[k].toNat : Int) < 97) = false := decide_eq_false (by omega)
                have d2 : decide (122 < (s[k].toNat : Int)) = false := decide_eq_false (by omega)
                have d3 : decide ((s[k].toNat : Int) < 65) = false := decide_eq_false (by omega)
                have d4 : decide (90 < (s[k].toNat : Int)) = true := decide_eq_true (by omega)
                have d5 : decide ((s[k].toNat : Int) < 48) = false := decide_eq_false (by omega)
                have d6 : decide (57 < (s[k].toNat : Int)) = true := decide_eq_true (by omega)
                go_wp2_with fail
                have hc : okName s[k] := ⟨by omega, by omega⟩
                go_round
                case rel => exact ⟨k + 1, by omega, by go_num, Lib.hid (step_name H.out hc)⟩
                case measure => simp [intOf]; omega
          · have hc := hbn rfl
            go_wp2_with fail
            go_round
            case rel => exact ⟨k + 1, by omega, by go_num, Lib.hid (step_name H.out hc)⟩
            case measure => simp [intOf]; omega
    · obtain rfl : k = s.size := by omega
      have hall : ∀ j, ∀ h : j < s.size, okName s[j] := fun j h => H.out j h h
      clear H hlt hk
      by_cases h1 : 1 ≤ s.size
      · by_cases h2 : s.size ≤ 31
        · have A := Lib.hid hall
          clear hall
          have hd : decide ((s.size : Int) ≤ 31) = true := decide_eq_true (by omega)
          go_wp2_with fail
          go_ret
          exact ⟨.inl ⟨rfl, A.out, h1, h2⟩, rfl⟩
        · clear hall
          have hd : decide ((s.size : Int) ≤ 31) = false := decide_eq_false (by omega)
          go_wp2_with fail
          go_ret
          exact ⟨.inr rfl, rfl⟩
      · clear hall
        have hd : decide (1 ≤ (s.size : Int)) = false := decide_eq_false (by omega)
        go_wp2_with fail
        go_ret
        exact ⟨.inr rfl, rfl⟩
end Go.Proofs.Ytlbhadggfipckaa

set_option linter.unusedVariables false
set_option linter.unusedSimpArgs false
namespace Go.Proofs.Ytlbhadggfipckaa
open Go.RowKit

mutual
def Nd.has : Nd → Prop
  | .mk _ ps ks => ps ≠ [] ∨ hasL ks
def hasL : List Nd → Prop
  | [] => False
  | k :: r => k.has ∨ hasL r
end

theorem hasL_of_mem : ∀ {ks : List Nd} {x : Nd}, x ∈ ks → x.has → hasL ks
  | k :: r, x, h, hx => by
    rcases List.mem_cons.1 h with rfl | h
    · exact .inl hx
    · exact .inr (hasL_of_mem h hx)

mutual
def Nd.proper : Nd → Prop
  | .mk n ps ks => NameP n ∧ (∀ p ∈ ps, NameP p.name) ∧ properL ks
def properL : List Nd → Prop
  | [] => True
  | k :: r => k.proper ∧ properL r
end

theorem properL_append : ∀ (a b : List Nd), properL (a ++ b) ↔ properL a ∧ properL b
  | [], b => by simp [properL]
  | p :: a, b => by simp [properL, properL_append a b, and_assoc]

def ProperR (root : Bool) : Nd → Prop
  | .mk n ps ks => (if root then n = ⟨#[]⟩ else NameP n) ∧ (∀ p ∈ ps, NameP p.name) ∧ properL ks

def costQP : List Pr → Nat
  | [] => 0
  | p :: r => 8 + p.val.length + costQP r

mutual
def Nd.costQ : Nd → Nat
  | .mk _ ps ks => 8 + costQP ps + costQL ks
def costQL : List Nd → Nat
  | [] => 0
  | k :: r => k.costQ + costQL r
end

theorem costQP_append : ∀ (a b : List Pr), costQP (a ++ b) = costQP a + costQP b
  | [], b => by simp [costQP]
  | p :: a, b => by simp [costQP, costQP_append a b]; omega
theorem costQL_append : ∀ (a b : List Nd), costQL (a ++ b) = costQL a + costQL b
  | [], b => by simp [costQL]
  | p :: a, b => by simp [costQL, costQL_append a b]; omega

theorem costQP_take (ps : List Pr) (k : Nat) (h : k < ps.length) : costQP (ps.take (k + 1)) = costQP (ps.take k) + (8 + ps[k].val.length) := by
  rw [List.take_succ_eq_append_getElem h, costQP_append]
  simp [costQP]
theorem costQL_take (ks : List Nd) (k : Nat) (h : k < ks.length) : costQL (ks.take (k + 1)) = costQL (ks.take k) + ks[k].costQ ∧ depthL (ks.take (k + 1)) = max (depthL (ks.take k)) ks[k].depth ∧ (properL (ks.take (k + 1)) ↔ properL (ks.take k) ∧ ks[k].proper) := by
  rw [List.take_succ_eq_append_getElem h, costQL_append, depthL_append, properL_append]
  simp [costQL, depthL, properL]

/-- spec.some -/
def SomePost (w : World) (n : Nd) (e : Ending) (w' : World) : Prop := (e = .returned (.bool false) ∨ e = .returned (.bool true) ∧ n.has) ∧ Below w.heap.size w w'

theorem some_walk (n : Nd) : ∀ (w : World) (ok : Nat → Prop) (t : Value × Value × Value), (∀ k, ok k → k < w.heap.size) → NodeC w ok n t → Calls Try.prog 34 #[.agg #[t.1, t.2.1, t.2.2]] w (SomePost w n) := by
  refine Nd.ind (P := fun n => ∀ (w : World) (ok : Nat → Prop) (t : Value × Value × Value), (∀ k, ok k → k < w.heap.size) → NodeC w ok n t → Calls Try.prog 34 #[.agg #[t.1, t.2.1, t.2.2]] w (SomePost w n)) ?_ n
  intro name ps ks IH w ok t hok hn
  obtain ⟨vp, vk, rfl, hns, hps, hks⟩ := hn.open_
  obtain ⟨Ap, cp, ts, rfl, hp1, hp2, hp3, hp4, hp5⟩ := hps
  obtain ⟨Ak, ck, us, rfl, hk1, hk2, hk3, hk4, hk5⟩ := hks
  have Hk4 := Lib.hid hk4
  have Hk5 := Lib.hid hk5
  have IH := Lib.hid IH
  clear hp4 hp5 hk4 hk5 hn
  go_enter Try.func34, Try.ntmps34
  go_wp2_with fail
  go_loopw [8] (fun i wr => ∃ k : Nat, k ≤ ks.length ∧ i = .int .i64 k ∧ Below w.heap.size w wr ∧ Cs wr w.heap.size #[.string name, .slice Ap ps.length cp, .slice Ak ks.length ck]) (fun i _ => ks.length - (intOf i).toNat)
  case atStart => exact ⟨0, by omega, by go_num, (Below.refl _ _).alloc (by omega) _, Cs.new' _ _ _ _ rfl⟩
  case round =>
    obtain ⟨k, hk, rfl, hF, q⟩ := hrel
    have z := q.lt
    by_cases hlt : k < ks.length
    · have hne : ks ≠ [] := by rintro rfl; simp at hlt
      obtain ⟨b, o, rfl, hob, hD⟩ := Hk5.out.resolve_left hne
      have hk4 := Hk4.out
      have hkp : ks[k]? = some ks[k] := List.getElem?_eq_getElem hlt
      have hlt2 : k < us.length := by rw [← hk4.1]; exact hlt
      have hkt : us[k]? = some (us[k]'hlt2) := List.getElem?_eq_getElem hlt2
      have hN := hk4.2 k _ _ hkp hkt
      obtain ⟨d1, d2, d3⟩ := hD k _ hkt
      have hbo := hok b hob
      have tr : ∀ x, w.cell? ⟨b, x, none⟩ = wr.cell? ⟨b, x, none⟩ := fun x => (World.cell?_of_block (a := ⟨b, x, none⟩) (hF.block b hbo)).symm
      rw [tr] at d1 d2 d3
      generalize us[k]'hlt2 = tk at *
      obtain ⟨s1, A3, n3, c3, A4, n4, c4, rfl⟩ := hN.form
      simp only at d1 d2 d3
      have hbl : b < wr.heap.size := by omega
      have hki : (0 : Int) ≤ (k : Int) := by omega
      have hI := IH.out ks[k] (List.getElem_mem hlt) (wr.alloc (.cells #[.string s1, .slice A3 n3 c3, .slice A4 n4 c4] 46)) ok _ (fun x hx => by have := hok x hx; simp; omega) (NodeC.mono (Same.of_below (hF.alloc (by omega) _) hok) (fun _ h => h) hN)
      have HI := Lib.hid hI
      have HF := Lib.hid hF
      have Hq := Lib.hid q
      have hhas : ks[k].has → (Nd.mk name ps ks).has := fun h => .inr (hasL_of_mem (List.getElem_mem hlt) h)
      have Hhas := Lib.hid hhas
      clear hkt hkp hD hk4 hN hI hF q tr hhas
      go_wp2_with (go_at_call 34; refine HI.out.mono ?_; rintro e w1 ⟨h | ⟨h, hh⟩, hb⟩)
      · subst h
        go_wp2_with fail
        go_roundw
        case rel => exact ⟨k + 1, by omega, by go_num, (HF.out.alloc (by omega) _).trans (hb.mono (by simp; omega)), (Hq.out.alloc _).below hb (by simp; omega)⟩
        case measure => simp [intOf]; omega
      · subst h
        go_wp2_with fail
        go_ret
        exact ⟨.inr ⟨rfl, Hhas.out hh⟩, (HF.out.alloc (by omega) _).trans (hb.mono (by simp; omega))⟩
    · obtain rfl : k = ks.length := by omega
      have c0 := q.cell 0
      have c1 := q.cell 1
      have c2 := q.cell 2
      simp at c0 c1 c2
      by_cases hp0 : 0 < ps.length
      · have hh : (Nd.mk name ps ks).has := .inl (by rintro rfl; simp at hp0)
        have Hh := Lib.hid hh
        have HF := Lib.hid hF
        clear hh hF q
        go_wp2_with fail
        go_ret
        exact ⟨.inr ⟨rfl, Hh.out⟩, HF.out⟩
      · have hd : decide ((0:Int) < (ps.length : Int)) = false := decide_eq_false (by omega)
        have HF := Lib.hid hF
        clear hF q
        go_wp2_with fail
        go_ret
        exact ⟨.inl rfl, HF.out⟩
end Go.Proofs.Ytlbhadggfipckaa
