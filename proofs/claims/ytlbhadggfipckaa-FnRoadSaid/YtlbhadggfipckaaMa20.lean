/-
  spec.Bytes.
-/
import Derived.Test.YtlbhadggfipckaaMa19
import Derived.Test.YtlbhadggfipckaaMa09
set_option linter.unusedVariables false
set_option linter.unusedSimpArgs false
namespace Go.Proofs.Ytlbhadggfipckaa
open Go.RowKit

/-- The bytes of a tree, with a gap ahead of the rooms. -/
def Lay (gap : Nat) (ver lc boot : Int) (rs : List (Int × Int)) (body strs : List UInt8) : List UInt8 :=
  [3490578157, ((40 + gap + 16 * (rs.length + 1) + body.length + strs.length : Nat) : Int), ((40 + gap + 16 * (rs.length + 1) : Nat) : Int), ((40 + gap + 16 * (rs.length + 1) + body.length : Nat) : Int), ((40 + gap : Nat) : Int), ver, lc, boot, (strs.length : Int), (body.length : Int)].flatMap be4
    ++ zeros gap ++ rs.flatMap be16 ++ zeros 16 ++ body ++ strs

/-- spec.Bytes's bytes. -/
def Byt (t : Tr) (nop : Nat) (out : List UInt8) : Prop :=
  ∃ st strs, EncN strs nop t.root st ∧ strs.length ≤ 100000 ∧ st.length ≤ 1000000 ∧ out = Lay 0 t.ver t.lc t.boot t.rooms (st ++ tok nop 9) strs

theorem run_append_full {t e size bytes : Nat} (hel : Elem Try.prog t e size bytes) (w : World) (ty : TypeId) (A : Option Addr) (n : Nat) (xs : List Value) (hxs : xs.length = n * size) (hr : Rd w A xs) (a : Addr) (m c : Nat) (news : List Value)
    (hl : news.length = m * size) (hnews : ∀ j u, news[j]? = some u → w.cell? (a.add j) = some u) (hm : 0 < m) (hb : (n + m) * bytes ≤ 140737488355328) (h63 : n + m ≤ 140737488355328) :
    ∃ v' w', (Builtin.append_ #[t, t] ty #[.slice A n n, .slice (some a) m c]).run Try.prog w = .ok v' w' ∧ w'.ownsRow w.heap.size e size v' (n + m) (xs ++ news) ∧ Below w.heap.size w w' := by
  obtain ⟨ht, i, z, hi, hz, hsize, hby, hzs, hsz⟩ := hel
  have own : ∀ old, old < n + m → (w.drew.alloc (.cells (xs.toArray ++ news.toArray ++ Builtin.zeroCells z.cells (grownCap w (n + m) old e - (n + m))) e)).ownsRow w.heap.size e size (.slice (some ⟨w.heap.size, 0, none⟩) (n + m) (grownCap w (n + m) old e)) (n + m) (xs ++ news) := by
    intro old ho
    have hge := grownCap_ge w (n + m) old e
    have hcm : grownCap w (n + m) old e ≤ maxLen := grownCap_le_maxLen w (n + m) old e (by simp only [maxLen]; omega)
    have hlen : (xs ++ news).length = (n + m) * size := by rw [List.length_append, hxs, hl, Nat.add_mul]
    refine ⟨hlen, .inr ⟨w.heap.size, _, _, rfl, Nat.le_refl _, heap_alloc_new w.drew _, hge, hcm, ?_, ?_⟩⟩
    · simp only [Array.size_append, List.size_toArray, size_zeroCells, hzs, hxs, hl]
      rw [← Nat.add_mul, ← Nat.add_mul, Nat.add_sub_cancel' hge]
    · simp only [Array.toList_append, List.append_assoc]
      rw [← List.append_assoc, ← hlen]
      exact List.take_left
  have below : ∀ cs : Array Value, Below w.heap.size w (w.drew.alloc (.cells cs e)) := fun cs => (Below.refl w.heap.size w).drew.alloc (by simp) _
  rcases A with _ | ad
  · have hx : xs = [] := by
      rcases hr with h | ⟨b, o, h, _⟩
      · exact h
      · cases h
    subst hx
    have hn : n = 0 := by
      have h0 : n * size = 0 := by simpa using hxs.symm
      rcases Nat.mul_eq_zero.1 h0 with h0 | h0
      · exact h0
      · omega
    subst hn
    have h := run_append_nil (P := Try.prog) w t ty e i z ht hi hz a m c news (by rw [hsize]; exact hl) hnews hm (by omega) (by rw [hby]; simp at hb; omega)
    have ho := own 0 (by omega)
    simp only [Nat.zero_add, List.nil_append, Array.empty_append] at h ho ⊢
    refine ⟨_, _, h, ?_, below _⟩
    simpa using ho
  · have holds : ∀ j u, xs[j]? = some u → w.cell? (ad.add j) = some u := by
      rcases hr with h | ⟨b, o, h, hc⟩
      · subst h; simp
      · injection h with h
        subst h
        intro j u hu
        have := hc j u hu
        unfold Addr.add
        split
        · rename_i h0; subst h0; simpa using this
        · exact this
    have h := run_append_grow (P := Try.prog) w t ty e i z ht hi hz ad n n xs (by rw [hsize]; exact hxs) holds a m c news (by rw [hsize]; exact hl) hnews (by omega) (by omega) (by rw [hby]; exact growslice_fits (by omega) hb)
    exact ⟨_, _, h, own n (by omega), below _⟩

theorem wpList_append_full {w : World} {ops : Array Oper} {rest : List Oper} {o : Oper} {a : Act} {Q : Exit → Act → World → Prop} {t e size bytes : Nat} (hel : Elem Try.prog t e size bytes) (hgd : o.guard = none) (s x : Operand)
    (ho : o.op = .call { callee := .builtin .append, args := #[s, x], argTypes := #[t, t] }) (A : Option Addr) (n : Nat) (xs : List Value) (hs : a.eval s = .slice A n n) (hxs : xs.length = n * size) (hr : Rd w A xs)
    (ad : Addr) (m c : Nat) (news : List Value) (hx : a.eval x = .slice (some ad) m c) (hl : news.length = m * size) (hnews : ∀ j u, news[j]? = some u → w.cell? (ad.add j) = some u) (hm : 0 < m) (hb : (n + m) * bytes ≤ 140737488355328) (h63 : n + m ≤ 140737488355328)
    (h : ∀ v' w', w'.ownsRow w.heap.size e size v' (n + m) (xs ++ news) → Below w.heap.size w w' → wpList Try.prog ops Q rest (a.put o.dst v') w') : wpList Try.prog ops Q (o :: rest) a w :=
  wpList_plain hgd fun _ hK => by
    obtain ⟨v', w', hr', h2, h3⟩ := run_append_full hel w o.type A n xs hxs hr ad m c news hl hnews hm hb h63
    unfold Oper.wp execOp
    simp only [ho, resolve, invoke, builtin, Sem.run_bind, Sem.run_pure, Result.andThen_ok, List.map_toArray, List.map_cons, List.map_nil, hs, hx, hr']
    exact hK _ _ (h v' w' h2 h3)

theorem be16_nat (a z : Nat) (ha : a < 18446744073709551616) (hz : z < 18446744073709551616) : be16 ((a : Int), (z : Int)) = low a 8 ++ low z 8 := by
  rw [low8 a ha, low8 z hz]
  simp [be16, List.append_assoc]

theorem bud_proper : ∀ n : Nd, n.proper → n.bud ≤ 9 * n.costQ ∧ n.tm := by
  refine Nd.ind (P := fun n => n.proper → n.bud ≤ 9 * n.costQ ∧ n.tm) ?_
  intro name ps ks IH h
  simp only [Nd.proper] at h
  obtain ⟨h1, h2, h3⟩ := h
  have e1 : budP ps ≤ 9 * costQP ps := by
    clear IH h3
    induction ps with
    | nil => simp [budP, costQP]
    | cons p ps ih =>
      have := (h2 p (by simp)).2.2
      have := ih (fun q hq => h2 q (by simp [hq]))
      simp only [budP, costQP]
      omega
  have e2 : budL ks ≤ 9 * costQL ks ∧ tmL ks := by
    clear h2 e1
    induction ks with
    | nil => simp [budL, costQL, tmL]
    | cons k ks ih =>
      simp only [properL] at h3
      have a1 := IH k (by simp) h3.1
      have a2 := ih (fun x hx => IH x (by simp [hx])) h3.2
      simp only [budL, costQL, tmL]
      exact ⟨by omega, a1.2, a2.2⟩
  have := h1.2.2
  refine ⟨by simp only [Nd.bud, Nd.costQ]; omega, by omega, fun p hp => by have := (h2 p hp).2.2; omega, e2.2⟩

theorem bud_root {n : Nd} (h : ProperR true n) : n.bud ≤ 9 * n.costQ ∧ n.tm := by
  obtain ⟨name, ps, ks⟩ := n
  simp only [ProperR, if_true] at h
  obtain ⟨h1, h2, h3⟩ := h
  have hn : name.size = 0 := by rw [h1]; rfl
  have e1 : budP ps ≤ 9 * costQP ps := by
    clear h3
    induction ps with
    | nil => simp [budP, costQP]
    | cons p ps ih =>
      have := (h2 p (by simp)).2.2
      have := ih (fun q hq => h2 q (by simp [hq]))
      simp only [budP, costQP]
      omega
  have e2 : budL ks ≤ 9 * costQL ks ∧ tmL ks := by
    clear h2 e1
    induction ks with
    | nil => simp [budL, costQL, tmL]
    | cons k ks ih =>
      simp only [properL] at h3
      have a1 := bud_proper k h3.1
      have a2 := ih h3.2
      simp only [budL, costQL, tmL]
      exact ⟨by omega, a1.2, a2.2⟩
  exact ⟨by simp only [Nd.bud, Nd.costQ]; omega, by omega, fun p hp => by have := (h2 p hp).2.2; omega, e2.2⟩

theorem rd_of_duo {w : World} {b o : Nat} {ts : List (Value × Value)} (h : DuoR w b o ts) : Rd w (some ⟨b, o, none⟩) (ts.flatMap duo) := by
  refine .inr ⟨b, o, rfl, fun j u hu => ?_⟩
  have hj := (List.getElem?_eq_some_iff.1 hu).1
  rw [duo_length] at hj
  have hi : j / 2 < ts.length := by omega
  have ht : ts[j / 2]? = some ts[j / 2] := List.getElem?_eq_getElem hi
  obtain ⟨e1, e2⟩ := duo_get ts (j / 2) _ ht
  obtain ⟨d1, d2⟩ := h (j / 2) _ ht
  rcases Nat.mod_two_eq_zero_or_one j with h0 | h0
  · rw [show j / 2 * 2 = j by omega] at e1 d1
    rw [e1] at hu
    rw [d1, ← hu]
  · rw [show j / 2 * 2 + 1 = j by omega] at e2
    rw [show o + j / 2 * 2 + 1 = o + j by omega] at d2
    rw [e2] at hu
    rw [d2, ← hu]

theorem cs_add {w : World} {b : Nat} {cs : Array Value} (h : Cs w b cs) : ∀ j u, cs.toList[j]? = some u → w.cell? ((⟨b, 0, none⟩ : Addr).add j) = some u := fun j u hu => by
  have e : (⟨b, 0, none⟩ : Addr).add j = ⟨b, j, none⟩ := by unfold Addr.add; split <;> simp_all
  rw [e, h.cell]
  simpa using hu

theorem Kw.refl_grown (w : World) : w.grownBy w.drew none := ⟨rfl, rfl, rfl, Nat.le_refl _, fun _ _ _ => rfl⟩

theorem rd_grown {w0 w1 w2 : World} {A : Option Addr} {xs : List Value} {r : Option Nat} (h : Rd w0 A xs) (hb : Below w0.heap.size w0 w1) (hg : w1.grownBy w2 r) (hr : ∀ g, r = some g → w0.heap.size ≤ g) : Rd w2 A xs := by
  rcases h with h | ⟨b, o, rfl, hc⟩
  · exact .inl h
  · rcases xs with _ | ⟨x, xs⟩
    · exact .inl rfl
    · have hlt := World.block_lt_of_cell? w0 _ (hc 0 x rfl)
      have hlt : b < w0.heap.size := hlt
      refine .inr ⟨b, o, rfl, fun j u hu => ?_⟩
      have e1 := hc j u hu
      rw [← World.cell?_of_block (a := ⟨b, o + j, none⟩) (hb.block b hlt)] at e1
      rw [World.cell?_of_block (a := ⟨b, o + j, none⟩) (hg.block b (Nat.lt_of_lt_of_le hlt hb.size) (fun e => by have := hr b e.symm; omega))]
      exact e1

theorem slice42 (w : World) (A : Option Addr) (n c : Nat) (h : n ≤ c) : (Instr.slice 42 (.slice A n c) none (some (.int .i64 (n : Int))) (some (.int .i64 (n : Int)))).run Try.prog w = .ok (.slice A n n) w := by
  have ht : Try.prog.underlying 42 = some (.slice (Try.prog.elem 42)) := by simp [Program.elem, Try.underlying42]
  have he : Try.prog.elem 42 = 81 := by simp [Program.elem, Try.underlying42]
  rw [run_slice_hm w 42 A n c ht .i64 .i64 (n : Int) (n : Int) (by omega) (by omega) (by omega), he]
  obtain ⟨i, hi, hz0, hz1, hz2⟩ := info_parts info81
  have hsz : (sizeOf 81).run Try.prog w = .ok 2 w := by simp [sizeOf, typeInfo, hi, hz1]
  rw [hsz]
  have ha : (fun a : Addr => a.add 0) = id := by funext a; simp [Addr.add]
  simp [Result.andThen, sliced, ha]

def BytesPost (w : World) (t : Tr) (nop : Nat) (e : Ending) (w' : World) : Prop :=
  ∃ A c out, e = .returned (.slice A out.length c) ∧ w'.ownsRow w.heap.size 5 1 (.slice A out.length c) out.length (out.map bv) ∧ Below w.heap.size w w' ∧ Byt t nop out

set_option maxRecDepth 20000 in
set_option maxHeartbeats 4000000 in
theorem bytes_walk (t : Tr) (cs : Array Value) (w : World) (ok : Nat → Prop) (nop : Nat) (hok : ∀ k, ok k → k < w.heap.size) (ht : TreeC w ok t cs) (hfit : FitsP t) (hnop : nop ≤ 3) :
    Calls Try.prog 23 #[.agg cs, .int .i64 nop] w (BytesPost w t nop) := by
  obtain ⟨vr, ⟨k1, k2, k3⟩, rfl, hr, hn, hb⟩ := ht
  obtain ⟨AR, cR, rfl, hr1, hr2, hr3, hr4, hr5⟩ := hr
  obtain ⟨s1, A3, n3, c3, A4, n4, c4, hk⟩ := id hn.form
  simp only [Prod.mk.injEq] at hk
  obtain ⟨rfl, rfl, rfl⟩ := hk
  obtain ⟨f1, f2, f3, f4, f5, f6, f7, f8, f9, f10⟩ := hfit
  have hbr := bud_root f8
  generalize hW : (w.alloc (.cells #[.int .i64 t.ver, .int .i64 t.lc, .int .i64 t.boot, .slice AR t.rooms.length cR, .string s1, .slice A3 n3 c3, .slice A4 n4 c4] 48)).alloc (.cells #[.slice none 0 0, .slice none 0 0, .int .i64 nop] 112) = W
  have hWs : W.heap.size = w.heap.size + 2 := by rw [← hW]; simp
  have hWb : Below w.heap.size w W := by rw [← hW]; exact ((Below.refl _ _).alloc (Nat.le_refl _) _).alloc (by simp) _
  have hW0 : Cs W w.heap.size #[.int .i64 t.ver, .int .i64 t.lc, .int .i64 t.boot, .slice AR t.rooms.length cR, .string s1, .slice A3 n3 c3, .slice A4 n4 c4] := by rw [← hW]; exact (Cs.new _ _ _).alloc _
  have hW1 : Cs W (w.heap.size + 1) #[.slice none 0 0, .slice none 0 0, .int .i64 nop] := by rw [← hW]; exact Cs.new' _ _ _ _ (by simp)
  have hsw : SW W (w.heap.size + 1) (w.heap.size + 2) [] [] nop none 0 none 0 := ⟨hW1, World.ownsRow_nil _ _ _ _, World.ownsRow_nil _ _ _ _, by simp [Value.ownBlock], by omega, by omega⟩
  have hou : ∀ k, k ≤ w.heap.size → Ou W (w.heap.size + 1) k := fun k hk => ⟨by omega, by omega, fun h => by
    rcases hsw.rw2.1 h with e | e <;> simp [Value.ownBlock] at e⟩
  have HN := Lib.hid (snode_walk (w.heap.size + 1) (w.heap.size + 2) nop hnop t.root W ok [] [] (.string s1, .slice A3 n3 c3, .slice A4 n4 c4) ⟨_, _, _, _, hsw⟩ (hn.mono (Same.of_below hWb hok) (fun _ h => h)) (fun k hk => hou k (by have := hok k hk; omega)) hbr.2 (by simp) (by simp; omega))
  have hbud := hbr.1
  obtain ⟨c0, c1, c2, c3', c4', c5, c6⟩ := cells7 hW0
  have H0 := Lib.hid (And.intro hW0 (hou w.heap.size (Nat.le_refl _)))
  have Hr4 := Lib.hid hr4
  have Hr5 := Lib.hid hr5
  have HWb := Lib.hid (And.intro hWb hok)
  have Hf := Lib.hid (And.intro f3 (And.intro f4 (And.intro f5 f6)))
  clear hn hr4 hr5 f1 f2 f3 f4 f5 f6 f8 f9 hbr hW0 hW1 hsw hou hWb hok hb
  go_enter Try.func23, Try.ntmps23
  go_wp2_with fail
  refine HN.out.mono ?_
  rintro e W2 ⟨rfl, st, strs, henc, hsw2, hk2, hl2, hm2⟩
  rw [List.nil_append] at henc hsw2
  rw [List.nil_append] at hsw2
  have HT := Lib.hid (stoken_walk W2 _ _ st strs nop hsw2 9 (by omega) hnop (by omega))
  have Henc := Lib.hid henc
  have Hk2 := Lib.hid hk2
  clear henc hsw2 hk2 HN c0 c1 c2 c3' c4' c5 c6 hW
  go_wp2_with fail
  refine HT.out.mono ?_
  rintro e W3 ⟨rfl, ⟨A3, c3, B3, d3, hsw3⟩, hk3⟩
  obtain ⟨sb, hsb⟩ : ∃ sb, sb = st ++ tok nop (9 : Nat) := ⟨_, rfl⟩
  have hsbl : sb.length ≤ 18016 := by rw [hsb, List.length_append, tok_len]; omega
  have hstl : strs.length ≤ 18000 := by omega
  rw [← hsb] at hsw3
  have Hsb := Lib.hid hsb
  have hkk := Hk2.out.trans hk3
  have hou3 := hkk.kp _ H0.out.2
  have hW3 := H0.out.1.keep hou3.1
  obtain ⟨c0, c1, c2, c3', c4', c5, c6⟩ := cells7 hW3
  have HW3 := Lib.hid (And.intro hW3 (And.intro hou3.2 hsw3))
  have Hkk := Lib.hid hkk
  have hs42 := fun w => slice42 w AR t.rooms.length cR hr2
  have hql0 : w.heap.size < W3.heap.size := hou3.2.1
  have hpl0 : w.heap.size + 1 < W3.heap.size := hsw3.plt
  have Hrd3 := Lib.hid (show Rd (W3.alloc (.cells #[.int .u64 0, .int .u64 0] 81)) AR ((t.rooms.map roomC).flatMap duo) from by
    rcases Hr5.out with h0 | ⟨b, o, rfl, hob, hD⟩
    · exact .inl (by rw [h0]; rfl)
    · have hbw := HWb.out.2 b hob
      refine Rd.alloc (rd_of_duo (hD.mono ?_))
      exact (hkk.fr.block b (by omega) (by omega)).trans (HWb.out.1.block b hbw))
  clear hsb hkk hou3 hW3 hsw3 hk3 H0 HT
  go_wp2_with (at_builtin; (refine wpList_append_full el42 rfl (.tmp 30) (.tmp 32) rfl AR t.rooms.length ((t.rooms.map roomC).flatMap duo) rfl (by rw [duo_length, List.length_map]) Hrd3.out ⟨W3.heap.size, 0, none⟩ 1 1 [.int .u64 0, .int .u64 0] rfl (by simp) (cs_add (Cs.new _ _ _)) (by omega) (by omega) (by omega) ?_); intro v' WA hownA hbA; obtain ⟨AL, cL, rfl⟩ := own_slice hownA)
  have hLl : (t.rooms ++ [((0 : Int), (0 : Int))]).length = t.rooms.length + 1 := by simp
  have hLm : ((t.rooms ++ [((0 : Int), (0 : Int))]).map roomC).flatMap duo = (t.rooms.map roomC).flatMap duo ++ [.int .u64 0, .int .u64 0] := by simp [roomC, duo]
  have hLb : ∀ r ∈ t.rooms ++ [((0 : Int), (0 : Int))], 0 ≤ r.1 ∧ r.1 ≤ 18446744073709551615 ∧ 0 ≤ r.2 ∧ r.2 ≤ 18446744073709551615 := fun r hr => by
    rcases List.mem_append.1 hr with h | h
    · exact Hr4.out r h
    · obtain rfl := List.mem_singleton.1 h
      decide
  have hLf : (t.rooms ++ [((0 : Int), (0 : Int))]).flatMap be16 = t.rooms.flatMap be16 ++ zeros 16 := by
    rw [List.flatMap_append]
    congr 1
  obtain ⟨L, hL⟩ : ∃ L, L = t.rooms ++ [((0 : Int), (0 : Int))] := ⟨_, rfl⟩
  rw [← hL] at hLl hLm hLb hLf
  rw [← hLm] at hownA
  clear hL hLm
  obtain ⟨gL, rfl⟩ : ∃ g, AL = some ⟨g, 0, none⟩ := (own_form hownA).2.2.resolve_left (by omega)
  have hgL := hownA.lt gL rfl
  have hDL := own_duo hownA
  obtain ⟨N, hN⟩ : ∃ N, N = t.rooms.length + 1 := ⟨_, rfl⟩
  have hbA3 : Below W3.heap.size W3 WA := ((Below.refl W3.heap.size W3).alloc (Nat.le_refl _) (.cells #[.int .u64 0, .int .u64 0] 81)).trans (hbA.mono (by simp))
  have HA := Lib.hid (And.intro hDL (And.intro hbA3 (And.intro hLb hLf)))
  have hA3s := hbA3.size
  clear hownA hDL hbA hLb hLf hbA3 c0 c1 c2 c3' c4' c5 c6 hs42 Hrd3
  go_wp2_with fail
  go_loopw [35, 6] (fun i x wr => ∃ j : Nat, j ≤ t.rooms.length + 1 ∧ i = .int .i64 j ∧ ∃ Ar cr L1, L1 = (L.take j).flatMap be16 ∧ x = .slice Ar (16 * j) cr ∧ wr.ownsRow WA.heap.size 5 1 (.slice Ar (16 * j) cr) (16 * j) (L1.map bv) ∧ Below WA.heap.size WA wr) (fun i _ _ => t.rooms.length + 1 - (intOf i).toNat)
  case atStart => exact ⟨0, by omega, by go_num, none, 0, [], by simp, rfl, World.ownsRow_nil _ _ _ _, Below.refl _ _⟩
  case round =>
    obtain ⟨j, hj, rfl, Ar, cr, L1, hL1, rfl, hown, hF⟩ := hrel
    obtain ⟨wo, rfl⟩ : ∃ wo : World, wo = wr := ⟨_, rfl⟩
    have hFs := hF.size
    by_cases hlt : j < t.rooms.length + 1
    · have hLj : j < L.length := by omega
      have hb4 := HA.out.2.2.1 L[j] (List.getElem_mem hLj)
      obtain ⟨d1, d2⟩ := HA.out.1 j (roomC L[j]) (by rw [List.getElem?_map, List.getElem?_eq_getElem hLj]; rfl)
      have hLs : (L.take (j + 1)).flatMap be16 = (L.take j).flatMap be16 ++ be16 L[j] := by
        rw [List.take_succ_eq_append_getElem hLj, List.flatMap_append]
        simp
      generalize L[j] = rk at *
      obtain ⟨ri, rzi⟩ := rk
      simp only at hb4
      obtain ⟨ra, rfl⟩ : ∃ n : Nat, ri = (n : Int) := ⟨ri.toNat, by omega⟩
      obtain ⟨rz, rfl⟩ : ∃ n : Nat, rzi = (n : Int) := ⟨rzi.toNat, by omega⟩
      rw [be16_nat ra rz (by omega) (by omega), ← hL1] at hLs
      simp only [roomC, Nat.zero_add] at d1 d2
      rw [← World.cell?_of_block (a := ⟨gL, j * 2, none⟩) (hF.block gL hgL.2)] at d1
      rw [← World.cell?_of_block (a := ⟨gL, j * 2 + 1, none⟩) (hF.block gL hgL.2)] at d2
      have hki : (0 : Int) ≤ (j : Int) := by omega
      have hgo : gL < wo.heap.size := by omega
      have Hown := Lib.hid hown
      have HF := Lib.hid hF
      have Hls := Lib.hid hLs
      have HL1 := Lib.hid hL1
      clear hown hF hLs hL1
      go_wp2_with fail
      generalize hV : wo.alloc (.cells #[.int .u64 (ra : Int), .int .u64 (rz : Int)] 81) = V
      have hVb : Below wo.heap.size wo V := by rw [← hV]; exact (Below.refl _ _).alloc (Nat.le_refl _) _
      have hVc : Cs V wo.heap.size #[.int .u64 (ra : Int), .int .u64 (rz : Int)] := by rw [← hV]; exact Cs.new _ _ _
      obtain ⟨q8, hq8⟩ : ∃ q, q = wo.heap.size := ⟨_, rfl⟩
      have x0 : V.cell? ⟨q8, 0, none⟩ = some (.int .u64 (ra : Nat)) := by rw [hq8]; exact (hVc.cell 0).trans rfl
      have y0 : V.cell? ⟨q8, 1, none⟩ = some (.int .u64 (rz : Nat)) := by rw [hq8]; exact (hVc.cell 1).trans rfl
      have hql : q8 < V.heap.size := by rw [hq8]; exact hVc.lt
      have hqr : some q8 ≠ (Value.slice Ar (16 * j) cr).ownBlock := fun e => by have := (Hown.out.lt _ e.symm).2; omega
      have hownV := own_keep Hown.out (fun g hg => hVb.block g (Hown.out.lt g hg).2)
      have Hown' := Hown
      clear Hown
      have Hown := Lib.hid hownV
      have HVb := Lib.hid hVb
      have hVs := hVb.size
      rw [← hq8]
      clear hV d1 d2 hVc hownV hVb hq8
      refine wp_region_plan (fun w' => w'.cell? ⟨q8, 0, none⟩ = some (.int .u64 (ra : Nat)) ∧ w'.cell? ⟨q8, 1, none⟩ = some (.int .u64 (rz : Nat))) 9 (.quiet 0 (.quiet 1 (.quiet 2 (.quiet 5 (.quiet 6 (.eff 3 (.eff 4 (.eff 7 (.eff 8 (.eff 9 .done)))))))))) (by kernel_rfl) (by kernel_rfl) ⟨x0, y0⟩ ?_
      simp only [planO, opAt, List.getElem?_toArray, List.getElem?_cons_zero, List.getElem?_cons_succ, Option.getD_some, Nat.reduceBEq]
      iterate 5
        refine' SeqT.quiet (by rfl) ?_ ?_
        rotate_left
        · rintro w' ⟨hS1, hS2⟩
          go_simp
          try with_reducible rfl
        try simp only [Act.put, List.setIfInBounds_toArray, List.set_cons_zero, List.set_cons_succ]
      refine SeqT.eff ?_ ?_
      · rfl
      intro K hK
      go_simp
      refine (put_walk V.drew ra 8 (by omega) (by omega)).mono ?_
      rintro e w1 ⟨rfl, hrow1, hb1⟩
      rw [low_len] at hrow1
      rw [low_len]
      replace hb1 : Below V.heap.size V w1 := (Below.refl V.heap.size V).drew.trans hb1
      refine hK.out _ _ (.inr ⟨(hb1.cell (p := ⟨q8, 0, none⟩) hql).trans x0, (hb1.cell (p := ⟨q8, 1, none⟩) hql).trans y0⟩) ?_
      clear hK K
      try simp only [Act.put, List.setIfInBounds_toArray, List.set_cons_zero, List.set_cons_succ]
      refine SeqT.eff ?_ ?_
      · rfl
      intro K hK
      refine wp_append_el el24 (.tmp 39) (.tmp 42) rfl WA.heap.size (.slice Ar (16 * j) cr) (16 * j) (L1.map bv) rfl (own_keep Hown.out (fun g hg => hb1.block g (Hown.out.lt g hg).2)) (some ⟨V.drew.heap.size, 0, none⟩) 8 8 ((low ra 8).map bv) rfl (by simp [low_len]) (own_rd hrow1) (bv_one _) (by omega) (by omega) (by have := hb1.size; omega) ?_
      intro v2 w2 hown2 hgrow2 hnil2 hat2
      clear hnil2
      obtain ⟨A2, c2, rfl⟩ := own_slice hown2
      have g2 := grown_below hb1 hgrow2
      have z2 := g2.size
      refine hK.out _ _ (.inr ⟨(World.cell?_of_block (a := ⟨q8, 0, none⟩) (g2.block _ hql hqr)).trans x0, (World.cell?_of_block (a := ⟨q8, 1, none⟩) (g2.block _ hql hqr)).trans y0⟩) ?_
      clear hK K
      try simp only [Act.put, List.setIfInBounds_toArray, List.set_cons_zero, List.set_cons_succ]
      refine SeqT.eff ?_ ?_
      · rfl
      intro K hK
      go_simp
      refine (put_walk w2 rz 8 (by omega) (by omega)).mono ?_
      rintro e w3 ⟨rfl, hrow3, hb3⟩
      rw [low_len] at hrow3
      rw [low_len]
      have g3 := grown_then g2 hb3
      refine hK.out _ _ (.inr ⟨(World.cell?_of_block (a := ⟨q8, 0, none⟩) (g3.block _ hql hqr)).trans x0, (World.cell?_of_block (a := ⟨q8, 1, none⟩) (g3.block _ hql hqr)).trans y0⟩) ?_
      clear hK K
      try simp only [Act.put, List.setIfInBounds_toArray, List.set_cons_zero, List.set_cons_succ]
      refine SeqT.eff ?_ ?_
      · rfl
      intro K hK
      refine wp_append_el el24 (.tmp 43) (.tmp 46) rfl WA.heap.size (.slice A2 (16 * j + 8) c2) (16 * j + 8) (L1.map bv ++ (low ra 8).map bv) rfl (own_keep hown2 (fun g hg => hb3.block g (hown2.lt g hg).2)) (some ⟨w2.heap.size, 0, none⟩) 8 8 ((low rz 8).map bv) rfl (by simp [low_len]) (own_rd hrow3) (bv_one _) (by omega) (by omega) (by have := hb3.size; omega) ?_
      intro v4 w4 hown4 hgrow4 hnil4 hat4
      clear hnil4
      obtain ⟨A4, c4, rfl⟩ := own_slice hown4
      have g4 := grown_trans g3 hgrow4 (NewRow.of_at hat2 hb1.size)
      refine hK.out _ _ (.inr ⟨(World.cell?_of_block (a := ⟨q8, 0, none⟩) (g4.block _ hql hqr)).trans x0, (World.cell?_of_block (a := ⟨q8, 1, none⟩) (g4.block _ hql hqr)).trans y0⟩) ?_
      clear hK K
      try simp only [Act.put, List.setIfInBounds_toArray, List.set_cons_zero, List.set_cons_succ]
      refine SeqT.last ?_ ?_
      · rfl
      intro K hK
      go_simp
      refine hK.out _ _ ?_
      clear hK K
      have HFIN := Lib.hid (show w4.ownsRow WA.heap.size 5 1 (.slice A4 (16 * j + 8 + 8) c4) (16 * j + 8 + 8) ((L1 ++ (low ra 8 ++ low rz 8)).map bv) ∧ Below WA.heap.size WA w4 from ⟨by simpa using hown4, (HF.out.trans (HVb.out.mono hFs)).trans ⟨g4.os, g4.tape, g4.output, g4.size, fun k hk => g4.block k (by omega) (fun e => by have := (Hown.out.lt _ e.symm).1; omega)⟩⟩)
      clear hown4 hgrow4 hat4 g4 hown2 hgrow2 hat2 g2 g3 hb1 hb3 hrow1 hrow3 x0 y0
      go_wp2_with fail
      have e16 : 16 * j + 8 + 8 = 16 * (j + 1) := by omega
      rw [e16] at HFIN ⊢
      exact ⟨⟨j + 1, by omega, by go_num, A4, c4, _, by rw [Hls.out], rfl, HFIN.out⟩, by simp [intOf]; omega⟩
    · obtain rfl : j = t.rooms.length + 1 := by omega
      rw [List.take_of_length_le (by omega)] at hL1
      obtain ⟨lr, hlr⟩ : ∃ l, l = L1 := ⟨_, rfl⟩
      rw [← hlr] at hown hL1
      have hlrl : lr.length = 16 * (t.rooms.length + 1) := by rw [hL1, be16_len, hLl]
      have hFs3 : Below W3.heap.size W3 wo := HA.out.2.1.trans (hF.mono HA.out.2.1.size)
      obtain ⟨hq0, hoq, hsw3⟩ := HW3.out
      have hq0' := hq0.below hFs3 hq0.lt
      have hswo := hsw3.below hFs3
      obtain ⟨y0, y1, y2, y3, y4, y5, y6⟩ := cells7 hq0'
      have x0 : wo.cell? ⟨w.heap.size + 1, 0, none⟩ = some (.slice A3 sb.length c3) := (hswo.cs.cell 0).trans rfl
      have x1 : wo.cell? ⟨w.heap.size + 1, 1, none⟩ = some (.slice B3 strs.length d3) := (hswo.cs.cell 1).trans rfl
      have hql := hq0'.lt
      have hpl := hswo.cs.lt
      have hbo : Below w.heap.size w wo := (HWb.out.1.trans (Hkk.out.fr.below (by omega) (by omega))).trans (hFs3.mono (by omega))
      have Hbo := Lib.hid hbo
      have Hswo := Lib.hid (And.intro hswo hq0')
      have Hlr := Lib.hid hlrl
      have HL1 := Lib.hid hL1
      have Hrr := Lib.hid (own_rd hown)
      clear hown hL1 hlr hF hFs3 hq0 hoq hsw3 hswo hq0' hbo hlrl y3 y4 y5 y6 L1
      obtain ⟨AT, hAT⟩ : ∃ AT, AT = 40 + 16 * (t.rooms.length + 1) := ⟨_, rfl⟩
      have hATs : AT ≤ 136 := by omega
      have hAT2 : IntKind.i64.wrap (40 + ((16 * (t.rooms.length + 1) : Nat) : Int)) = (AT : Int) := by rw [hAT]; simp only [IntKind.wrap, IntKind.bits, IntKind.signed]; simp; omega
      have hAT3 : (40 : Int) + 16 * ((t.rooms.length : Int) + 1) = (AT : Int) := by omega
      have hAT4 : IntKind.i64.wrap (16 * ((t.rooms.length : Int) + 1)) = 16 * ((t.rooms.length : Int) + 1) := by simp only [IntKind.wrap, IntKind.bits, IntKind.signed]; simp; omega
      have hs1 : IntKind.i64.wrap ((AT : Int) + (sb.length : Int)) = (AT : Int) + (sb.length : Int) := by simp only [IntKind.wrap, IntKind.bits, IntKind.signed]; simp; omega
      have hs2 : IntKind.i64.wrap ((AT : Int) + (sb.length : Int) + (strs.length : Int)) = (AT : Int) + (sb.length : Int) + (strs.length : Int) := by simp only [IntKind.wrap, IntKind.bits, IntKind.signed]; simp; omega
      have Hat := Lib.hid hAT
      clear hAT
      go_wp2_with fail
      refine wp_region_plan (fun w' => w'.cell? ⟨w.heap.size + 1, 0, none⟩ = some (.slice A3 sb.length c3) ∧ w'.cell? ⟨w.heap.size + 1, 1, none⟩ = some (.slice B3 strs.length d3) ∧ w'.cell? ⟨w.heap.size, 0, none⟩ = some (.int .i64 t.ver) ∧ w'.cell? ⟨w.heap.size, 1, none⟩ = some (.int .i64 t.lc) ∧ w'.cell? ⟨w.heap.size, 2, none⟩ = some (.int .i64 t.boot)) 40 (.quiet 0 (.quiet 1 (.quiet 2 (.quiet 3 (.quiet 4 (.quiet 5 (.quiet 6 (.quiet 7 (.quiet 8 (.quiet 9 (.quiet 10 (.quiet 11 (.quiet 12 (.quiet 13 (.quiet 14 (.quiet 15 (.quiet 16 (.quiet 17 (.quiet 18 (.quiet 19 (.quiet 20 (.quiet 21 (.quiet 22 (.quiet 23 (.quiet 24 (.quiet 25 (.quiet 26 (.quiet 27 (.quiet 28 (.quiet 29 (.quiet 30 (.quiet 31 (.quiet 32 (.quiet 33 (.quiet 34 (.quiet 35 (.quiet 36 (.quiet 39 (.eff 37 (.quiet 38 .done)))))))))))))))))))))))))))))))))))))))) (by kernel_rfl) (by kernel_rfl) ⟨x0, x1, y0, y1, y2⟩ ?_
      simp only [planO, opAt, List.getElem?_toArray, List.getElem?_cons_zero, List.getElem?_cons_succ, Option.getD_some, Nat.reduceBEq]
      iterate 38
        refine' SeqT.quiet (by rfl) ?_ ?_
        rotate_left
        · rintro w' ⟨hS1, hS2, hS3, hS4, hS5⟩
          go_simp
          try with_reducible rfl
        try simp only [Act.put, List.setIfInBounds_toArray, List.set_cons_zero, List.set_cons_succ]
      refine SeqT.eff ?_ ?_
      · rfl
      intro K hK
      go_simp
      refine hK.out _ _ (.inr ⟨(World.cell?_alloc_lt _ _ _ hpl).trans x0, (World.cell?_alloc_lt _ _ _ hpl).trans x1, (World.cell?_alloc_lt _ _ _ hql).trans y0, (World.cell?_alloc_lt _ _ _ hql).trans y1, (World.cell?_alloc_lt _ _ _ hql).trans y2⟩) ?_
      clear hK K
      try simp only [Act.put, List.setIfInBounds_toArray, List.set_cons_zero, List.set_cons_succ]
      refine' SeqT.quiet (by rfl) ?_ ?_
      rotate_left
      · rintro w' ⟨hS1, hS2, hS3, hS4, hS5⟩
        go_simp
        try with_reducible rfl
      try simp only [Act.put, List.setIfInBounds_toArray, List.set_cons_zero, List.set_cons_succ]
      refine SeqT.done ?_
      obtain ⟨NS, hNS⟩ : ∃ NS : List Int, NS = [3490578157, (AT : Int) + (sb.length : Int) + (strs.length : Int), (AT : Int), (AT : Int) + (sb.length : Int), 40, t.ver, t.lc, t.boot, (strs.length : Int), (sb.length : Int)] := ⟨_, rfl⟩
      have hNSb : ∀ n ∈ NS, 0 ≤ n ∧ n < 4294967296 := fun n hn => by
        obtain ⟨g1, g2, g3, g4⟩ := Hf.out
        rw [hNS] at hn
        simp only [List.mem_cons, List.not_mem_nil, or_false] at hn
        omega
      have hNSl : NS.length = 10 := by rw [hNS]; rfl
      obtain ⟨WB, hWB⟩ : ∃ WB, WB = (wo.alloc (.cells #[.int .i64 3490578157, .int .i64 ((AT : Int) + (sb.length : Int) + (strs.length : Int)), .int .i64 (AT : Int), .int .i64 ((AT : Int) + (sb.length : Int)), .int .i64 40, .int .i64 t.ver, .int .i64 t.lc, .int .i64 t.boot, .int .i64 (strs.length : Int), .int .i64 (sb.length : Int)] 3)).drew := ⟨_, rfl⟩
      have hWBc : Cs WB wo.heap.size (NS.map (Value.int .i64 ·)).toArray := by rw [hWB, hNS]; exact (Cs.new wo 3 _).drew
      have hWBb : Below wo.heap.size wo WB := by rw [hWB]; exact ((Below.refl _ _).alloc (Nat.le_refl _) _).drew
      have hWBs : WB.heap.size = wo.heap.size + 1 := by rw [hWB]; simp
      have hdr : (wo.drew.alloc (.cells #[.int .i64 3490578157, .int .i64 ((AT : Int) + (sb.length : Int) + (strs.length : Int)), .int .i64 (AT : Int), .int .i64 ((AT : Int) + (sb.length : Int)), .int .i64 40, .int .i64 t.ver, .int .i64 t.lc, .int .i64 t.boot, .int .i64 (strs.length : Int), .int .i64 (sb.length : Int)] 3)) = WB := hWB.symm
      first | rw [hdr] | rw [← hWB]
      have HNS := Lib.hid (And.intro hNS (And.intro hNSb (And.intro hNSl hWBc)))
      have HWB := Lib.hid hWBb
      clear hNS hNSb hWB hWBc hWBb hdr hs1 hs2 hAT2 hAT3 hAT4 x0 x1 y0 y1 y2
      have hqa : wo.heap.size < WB.heap.size := by omega
      obtain ⟨qa, hqa'⟩ : ∃ q, q = wo.heap.size := ⟨_, rfl⟩
      rw [← hqa'] at HNS hqa ⊢
      clear hqa'
      go_wp2_with fail
      go_loopw [91, 10] (fun i x wr => ∃ j : Nat, j ≤ 10 ∧ i = .int .i64 j ∧ ∃ Ao co l1, l1 = (NS.take j).flatMap be4 ∧ x = .slice Ao (4 * j) co ∧ wr.ownsRow WB.heap.size 5 1 (.slice Ao (4 * j) co) (4 * j) (l1.map bv) ∧ Below WB.heap.size WB wr) (fun i _ _ => 10 - (intOf i).toNat)
      case atStart => exact ⟨0, by omega, by go_num, none, 0, [], by simp, rfl, World.ownsRow_nil _ _ _ _, Below.refl _ _⟩
      case round =>
        obtain ⟨j, hj, rfl, Ao, co, l1, hl1, rfl, hown, hF⟩ := hrel
        obtain ⟨wi, rfl⟩ : ∃ wi : World, wi = wr := ⟨_, rfl⟩
        have hFs := hF.size
        have hki : (0 : Int) ≤ (j : Int) := by omega
        by_cases hlt : j < 10
        · have hjl : j < NS.length := by rw [HNS.out.2.2.1]; exact hlt
          obtain ⟨hb1, hb2⟩ := HNS.out.2.1 NS[j] (List.getElem_mem hjl)
          have d1 : wi.cell? ⟨qa, j, none⟩ = some (.int .i64 NS[j]) := by
            rw [hF.cell (p := ⟨qa, j, none⟩) hqa, HNS.out.2.2.2.cell]
            simp [hjl]
          have hap : (NS.take (j + 1)).flatMap be4 = (NS.take j).flatMap be4 ++ be4 NS[j] := by
            rw [List.take_succ_eq_append_getElem hjl, List.flatMap_append]
            simp
          generalize NS[j] = nj at *
          obtain ⟨m, rfl⟩ : ∃ m : Nat, nj = (m : Int) := ⟨nj.toNat, by omega⟩
          have hwm : IntKind.u64.wrap (m : Int) = (m : Int) := by simp only [IntKind.wrap, IntKind.bits, IntKind.signed]; simp; omega
          rw [← hl1] at hap
          have Hap := Lib.hid hap
          have Hown := Lib.hid hown
          have HF := Lib.hid hF
          have hqi : qa < wi.heap.size := by omega
          have hltI : (j : Int) < 10 := by omega
          clear hap hown hF hl1
          go_wp2_with (first
            | (go_at_call 49; refine (put_walk wi m 4 (by omega) (by omega)).mono ?_; rintro e w1 ⟨rfl, hrow, hb⟩; rw [low_len] at hrow; rw [low_len]; have hbs := hb.size)
            | (at_builtin; (refine wpList_append_el el24 rfl (.tmp 95) (.tmp 98) rfl WB.heap.size (.slice Ao (4 * j) co) (4 * j) (l1.map bv) rfl (own_keep Hown.out (fun g hg => hb.block g (Hown.out.lt g hg).2)) (some ⟨wi.heap.size, 0, none⟩) 4 4 ((low m 4).map bv) rfl (by simp [low_len]) (own_rd hrow) (bv_one _) (by omega) (by omega) (by omega) ?_); intro v' w2 hown2 hgrow2 hnil2 hat2; obtain ⟨A2, c2, rfl⟩ := own_slice hown2; clear hnil2))
          rw [low4] at hown2
          have e4 : 4 * j + 4 = 4 * (j + 1) := by omega
          rw [e4] at hown2 ⊢
          have hg2 := grown_below hb hgrow2
          refine ⟨⟨j + 1, by omega, by go_num, A2, c2, _, rfl, rfl, ?_, HF.out.trans ⟨hg2.os, hg2.tape, hg2.output, hg2.size, fun k hk => hg2.block k (by omega) (fun e => by have := (Hown.out.lt _ e.symm).1; omega)⟩⟩, by simp [intOf]; omega⟩
          rw [Hap.out, List.map_append]
          exact hown2
        · obtain rfl : j = 10 := by omega
          have hnl := HNS.out.2.2.1
          rw [List.take_of_length_le (by omega)] at hl1
          obtain ⟨lh, hlh⟩ : ∃ l, l = l1 := ⟨_, rfl⟩
          rw [← hlh] at hown hl1
          have hlhl : lh.length = 40 := by rw [hl1, be4_len, hnl]
          have hWw : Below wo.heap.size wo wi := HWB.out.trans (hF.mono HWB.out.size)
          obtain ⟨hswo, hqo⟩ := Hswo.out
          have hswi := hswo.below hWw
          have x0 : wi.cell? ⟨w.heap.size + 1, 0, none⟩ = some (.slice A3 sb.length c3) := (hswi.cs.cell 0).trans rfl
          have x1 : wi.cell? ⟨w.heap.size + 1, 1, none⟩ = some (.slice B3 strs.length d3) := (hswi.cs.cell 1).trans rfl
          have hpl1 : w.heap.size + 1 < wi.heap.size := hswi.cs.lt
          have hown40 : wi.ownsRow WB.heap.size 5 1 (.slice Ao 40 co) 40 (lh.map bv) := hown
          have hpr : some (w.heap.size + 1) ≠ (Value.slice Ao 40 co).ownBlock := fun e => by have := (hown40.lt _ e.symm).1; omega
          have hrow : ∀ g, (Value.slice Ao 40 co).ownBlock = some g → wo.heap.size ≤ g := fun g hg => by have := (hown40.lt g hg).1; omega
          have Hrd := Lib.hid (show Rd wi.drew Ar (lr.map bv) ∧ (∀ w1, wi.grownBy w1 (Value.slice Ao 40 co).ownBlock → Rd w1 A3 (sb.map bv)) ∧ (∀ w1, wi.grownBy w1 (Value.slice Ao 40 co).ownBlock → Rd w1 B3 (strs.map bv)) from
            ⟨rd_grown Hrr.out hWw (r := none) (Kw.refl_grown wi) (by simp), fun w1 hg => rd_grown (own_rd hswo.o1) hWw hg hrow, fun w1 hg => rd_grown (own_rd hswo.o2) hWw hg hrow⟩)
          have Hown := Lib.hid hown40
          have HF := Lib.hid hF
          have Hl1 := Lib.hid (And.intro hl1 hlhl)
          have HWw := Lib.hid hWw
          have hwoB : w.heap.size ≤ wo.heap.size := Hbo.out.size
          clear hown hown40 hF hl1 hlh hlhl hWw hswo hqo hswi hrow l1 hpl
          have hpl := hpl1
          go_wp2_with fail
          refine wp_region_plan (fun w' => w'.cell? ⟨w.heap.size + 1, 0, none⟩ = some (.slice A3 sb.length c3) ∧ w'.cell? ⟨w.heap.size + 1, 1, none⟩ = some (.slice B3 strs.length d3)) 13 (.quiet 0 (.quiet 1 (.quiet 3 (.quiet 4 (.quiet 5 (.quiet 6 (.quiet 8 (.quiet 9 (.quiet 10 (.quiet 11 (.eff 2 (.eff 7 (.eff 12 (.eff 13 .done)))))))))))))) (by kernel_rfl) (by kernel_rfl) ⟨x0, x1⟩ ?_
          simp only [planO, opAt, List.getElem?_toArray, List.getElem?_cons_zero, List.getElem?_cons_succ, Option.getD_some, Nat.reduceBEq]
          iterate 10
            refine' SeqT.quiet (by rfl) ?_ ?_
            rotate_left
            · rintro w' ⟨hS1, hS2⟩
              go_simp
              try with_reducible rfl
            try simp only [Act.put, List.setIfInBounds_toArray, List.set_cons_zero, List.set_cons_succ]
          refine SeqT.eff ?_ ?_
          · rfl
          intro K hK
          refine wp_append_el el24 (.tmp 101) (.tmp 102) rfl WB.heap.size (.slice Ao 40 co) 40 (lh.map bv) rfl Hown.out.drew Ar (16 * (t.rooms.length + 1)) cr (lr.map bv) rfl (by simp; exact Hlr.out) (Hrd.out.1) (bv_one _) (by omega) (by omega) (by have := HF.out.size; exact this) ?_
          intro v1 w1 hown1 hgrow1 hnil1 hat1
          clear hnil1
          obtain ⟨A1, c1, rfl⟩ := own_slice hown1
          have g1 := grown_below (Below.refl wi.heap.size wi).drew hgrow1
          refine hK.out _ _ (.inr ⟨(World.cell?_of_block (a := ⟨w.heap.size + 1, 0, none⟩) (g1.block _ hpl hpr)).trans x0, (World.cell?_of_block (a := ⟨w.heap.size + 1, 1, none⟩) (g1.block _ hpl hpr)).trans x1⟩) ?_
          clear hK K
          try simp only [Act.put, List.setIfInBounds_toArray, List.set_cons_zero, List.set_cons_succ]
          refine SeqT.eff ?_ ?_
          · rfl
          intro K hK
          refine wp_append_el el24 (.tmp 103) (.tmp 107) rfl WB.heap.size (.slice A1 (40 + 16 * (t.rooms.length + 1)) c1) (40 + 16 * (t.rooms.length + 1)) (lh.map bv ++ lr.map bv) rfl hown1 A3 sb.length c3 (sb.map bv) rfl (by simp) (Hrd.out.2.1 w1 g1) (bv_one _) (by omega) (by omega) (by have := HF.out.size; have := g1.size; omega) ?_
          intro v2 w2 hown2 hgrow2 hnil2 hat2
          clear hnil2
          obtain ⟨A2, c2, rfl⟩ := own_slice hown2
          have g2 := grown_trans g1 hgrow2 (NewRow.of_at hat1 (Nat.le_refl _))
          refine hK.out _ _ (.inr ⟨(World.cell?_of_block (a := ⟨w.heap.size + 1, 0, none⟩) (g2.block _ hpl hpr)).trans x0, (World.cell?_of_block (a := ⟨w.heap.size + 1, 1, none⟩) (g2.block _ hpl hpr)).trans x1⟩) ?_
          clear hK K
          try simp only [Act.put, List.setIfInBounds_toArray, List.set_cons_zero, List.set_cons_succ]
          refine SeqT.eff ?_ ?_
          · rfl
          intro K hK
          refine wp_append_el el24 (.tmp 108) (.tmp 112) rfl WB.heap.size (.slice A2 (40 + 16 * (t.rooms.length + 1) + sb.length) c2) (40 + 16 * (t.rooms.length + 1) + sb.length) (lh.map bv ++ lr.map bv ++ sb.map bv) rfl hown2 B3 strs.length d3 (strs.map bv) rfl (by simp) (Hrd.out.2.2 w2 g2) (bv_one _) (by omega) (by omega) (by have := HF.out.size; have := g2.size; omega) ?_
          intro v4 w4 hown4 hgrow4 hnil4 hat4
          clear hnil4
          obtain ⟨A4, c4, rfl⟩ := own_slice hown4
          have g4 := grown_trans g2 hgrow4 ((NewRow.of_at hat1 (Nat.le_refl _)).trans (NewRow.of_at hat2 g1.size) (Nat.le_refl _))
          refine hK.out _ _ (.inr ⟨(World.cell?_of_block (a := ⟨w.heap.size + 1, 0, none⟩) (g4.block _ hpl hpr)).trans x0, (World.cell?_of_block (a := ⟨w.heap.size + 1, 1, none⟩) (g4.block _ hpl hpr)).trans x1⟩) ?_
          clear hK K
          try simp only [Act.put, List.setIfInBounds_toArray, List.set_cons_zero, List.set_cons_succ]
          refine SeqT.last ?_ ?_
          · rfl
          intro K hK
          go_simp
          refine hK.out _ _ ?_
          clear hK K
          have hol : (lh ++ lr ++ sb ++ strs).length = 40 + 16 * (t.rooms.length + 1) + sb.length + strs.length := by
            simp only [List.length_append]
            rw [Hl1.out.2, Hlr.out]
          have hB1 : Below w.heap.size w wi := Hbo.out.trans (HWw.out.mono hwoB)
          have hB2 : Below w.heap.size w w4 := hB1.trans ⟨g4.os, g4.tape, g4.output, g4.size, fun k hk => g4.block k (by omega) (fun e => by have := (Hown.out.lt _ e.symm).1; omega)⟩
          have HFIN := Lib.hid (show BytesPost w t nop (.returned (.slice A4 (40 + 16 * (t.rooms.length + 1) + sb.length + strs.length) c4)) w4 from by
            refine ⟨A4, c4, lh ++ lr ++ sb ++ strs, by rw [hol], ?_, hB2, st, strs, Henc.out, by omega, by omega, ?_⟩
            · rw [hol, List.map_append, List.map_append, List.map_append]
              exact own_mono hown4 (by omega)
            · have e1 := Hl1.out.1
              have e2 := HL1.out
              have e3 := HNS.out.1
              have e4 := HA.out.2.2.2
              have e5 := Hat.out
              have e6 : sb = st ++ tok nop 9 := Hsb.out
              rw [e1, e2, e3, e4, ← e6]
              unfold Lay
              have z0 : zeros 0 = [] := rfl
              simp only [Nat.add_zero, z0, List.append_nil, List.append_assoc]
              congr 1
              simp only [e5, Int.natCast_add, List.length_append]
              simp)
          clear hown4 hgrow4 hat4 g4 hown2 hgrow2 hat2 g2 hown1 hgrow1 hat1 g1 hB1 hB2 hol x0 x1
          go_wp2_with fail
          go_ret
          exact HFIN.out
end Go.Proofs.Ytlbhadggfipckaa
