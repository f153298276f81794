/-
  ZZWrite, impl.Format.
  impl.Format.
-/
import Derived.Test.YtlbhadggfipckaaMa13
import Derived.Test.YtlbhadggfipckaaMa09
set_option linter.unusedVariables false
set_option linter.unusedSimpArgs false
namespace Go.Proofs.Ytlbhadggfipckaa
open Go.RowKit

mutual
theorem LT.tame : ∀ lt : LT, lt.erase.proper → (∀ m ∈ lt.nodes, m.1.size ≤ 31 ∧ ∀ p ∈ m.2, p.name.size ≤ 31) ∧ 8 * nP lt.nodes ≤ lt.erase.costQ ∧ szNs lt.nodes ≤ 6 * lt.erase.costQ
  | .mk b n ps ks, h => by
    simp only [LT.erase, Nd.proper] at h
    exact tame_node h.1.2.2 h.2.1 (tameL ks h.2.2)
theorem tameL : ∀ ks : List LT, properL (eraseL ks) → (∀ m ∈ nodesL ks, m.1.size ≤ 31 ∧ ∀ p ∈ m.2, p.name.size ≤ 31) ∧ 8 * nP (nodesL ks) ≤ costQL (eraseL ks) ∧ szNs (nodesL ks) ≤ 6 * costQL (eraseL ks)
  | [], _ => by simp [nodesL, eraseL, nP, szNs, costQL]
  | k :: r, h => by
    simp only [eraseL, properL] at h
    obtain ⟨a1, a2, a3⟩ := LT.tame k h.1
    obtain ⟨b1, b2, b3⟩ := tameL r h.2
    refine ⟨fun m hm => ?_, ?_, ?_⟩
    · simp only [nodesL, List.mem_append] at hm
      rcases hm with h | h
      · exact a1 m h
      · exact b1 m h
    · simp only [nodesL, nP_append, eraseL, costQL]; omega
    · simp only [nodesL, szNs_append, eraseL, costQL]; omega
theorem tame_node {b : Nat} {n : ByteArray} {ps : List Pr} {ks : List LT} (hn : n.size ≤ 31) (hp : ∀ p ∈ ps, NameP p.name) (hk : (∀ m ∈ nodesL ks, m.1.size ≤ 31 ∧ ∀ p ∈ m.2, p.name.size ≤ 31) ∧ 8 * nP (nodesL ks) ≤ costQL (eraseL ks) ∧ szNs (nodesL ks) ≤ 6 * costQL (eraseL ks)) :
    (∀ m ∈ (LT.mk b n ps ks).nodes, m.1.size ≤ 31 ∧ ∀ p ∈ m.2, p.name.size ≤ 31) ∧ 8 * nP (LT.mk b n ps ks).nodes ≤ (LT.mk b n ps ks).erase.costQ ∧ szNs (LT.mk b n ps ks).nodes ≤ 6 * (LT.mk b n ps ks).erase.costQ := by
  obtain ⟨b1, b2, b3⟩ := hk
  have e1 : 8 * ps.length ≤ costQP ps ∧ szP ps ≤ 6 * costQP ps := by
    clear hp
    induction ps with
    | nil => simp [costQP, szP]
    | cons p ps ih =>
      have := al4_le p.val.length
      simp only [costQP, szP, List.length_cons]
      omega
  have e2 := al4_le (n.size + 1)
  refine ⟨fun m hm => ?_, ?_, ?_⟩
  · simp only [LT.nodes, List.mem_cons] at hm
    rcases hm with rfl | h
    · exact ⟨hn, fun p h => (hp p h).2.2⟩
    · exact b1 m h
  · simp only [LT.nodes, nP, LT.erase, Nd.costQ]; omega
  · simp only [LT.nodes, szNs, LT.erase, Nd.costQ]; omega
end

theorem root_tame {lt : LT} (h : ProperR true lt.erase) : (∀ m ∈ lt.nodes, m.1.size ≤ 31 ∧ ∀ p ∈ m.2, p.name.size ≤ 31) ∧ 8 * nP lt.nodes ≤ lt.erase.costQ ∧ szNs lt.nodes ≤ 6 * lt.erase.costQ := by
  obtain ⟨b, n, ps, ks⟩ := lt
  simp only [LT.erase, ProperR, if_true] at h
  exact tame_node (by rw [h.1]; decide) h.2.1 (tameL ks h.2.2)

def ZWPost (w : World) (f : Nat) (ver lc boot : Int) (rs : List (Int × Int)) (lt : LT) (e : Ending) (w' : World) : Prop :=
  ∃ out A c, e = .returned (.tuple #[.slice A out.length c, .nilIface]) ∧ Fmt ver lc boot rs lt.erase out ∧ Fr w.heap.size (· = f) w w' ∧ w'.ownsRow w.heap.size 5 1 (.slice A out.length c) out.length (out.map bv)

theorem zw_walk (w : World) (ok : Nat → Prop) (f : Nat) (lt : LT) (ver lc boot : Int) (rs : List (Int × Int)) (AE : Option Addr) (cE : Nat) (hok : ∀ k, ok k → k < w.heap.size ∧ k ≠ f) (hn : PN w ok lt)
    (hf : Cs w f #[.int .u32 3490578157, .int .u32 0, .int .u32 0, .int .u32 0, .int .u32 0, .int .u32 ver, .int .u32 lc, .int .u32 boot, .int .u32 0, .int .u32 0, .slice AE rs.length cE, .pointer (some ⟨lt.b, 0, none⟩)])
    (hr : rs = [] ∨ ∃ b o, AE = some ⟨b, o, none⟩ ∧ ok b ∧ DuoR w b o (rs.map roomC)) (hrb : ∀ r ∈ rs, 0 ≤ r.1 ∧ r.1 ≤ 18446744073709551615 ∧ 0 ≤ r.2 ∧ r.2 ≤ 18446744073709551615) (hrl : rs.length ≤ 5)
    (hver : 0 ≤ ver ∧ ver ≤ 4294967295) (hlc : 0 ≤ lc ∧ lc ≤ 4294967295) (hboot : 0 ≤ boot ∧ boot ≤ 4294967295)
    (hnm : ∀ n ∈ lt.nodes, n.1.size ≤ 31 ∧ ∀ p ∈ n.2, p.name.size ≤ 31) (hnp : nP lt.nodes ≤ 1000) (hns : szNs lt.nodes ≤ 100000) :
    Calls Try.prog 42 #[.pointer (some ⟨f, 0, none⟩)] w (ZWPost w f ver lc boot rs lt) := by
  have hfl := hf.lt
  have hB : Below w.heap.size w (w.alloc (.cells #[.slice none 0 0] 134)) := (Below.refl _ _).alloc (Nat.le_refl _) _
  have hs : (w.alloc (.cells #[.slice none 0 0] 134)).heap.size = w.heap.size + 1 := by simp
  have H := Lib.hid (fw_walk (w.alloc (.cells #[.slice none 0 0] 134)) ok f w.heap.size lt ver lc boot rs AE cE (fun k hk => by have := hok k hk; omega) (hn.mono (Same.of_below hB (fun k hk => (hok k hk).1)) (fun _ h => h)) (hf.alloc _) (Cs.new _ _ _) (by omega)
    (hr.imp id fun ⟨b, o, e1, e2, e3⟩ => ⟨b, o, e1, e2, e3.mono (hB.block b (hok b e2).1)⟩) hrb hrl hver hlc hboot hnm hnp hns)
  have HB := Lib.hid hB
  clear hok hn hf hr hrb hnm hB
  go_enter Try.func42, Try.ntmps42
  go_wp2_with fail
  refine H.out.mono ?_
  rintro e w1 ⟨out, N, rfl, hfmt, hfr, A, c, hz, hown⟩
  rw [hs] at hfr hown
  have z0 : w1.cell? ⟨w.heap.size, 0, none⟩ = some (.slice A out.length c) := (hz.cell 0).trans rfl
  have HFIN := Lib.hid (show ZWPost w f ver lc boot rs lt (.returned (.tuple #[.slice A out.length c, .nilIface])) w1 from ⟨out, A, c, rfl, hfmt, (Fr.of_below HB.out).trans (hfr.mono (by omega) (fun k hk h => h.resolve_right (by omega))), own_mono hown (by omega)⟩)
  clear hfmt hfr hz hown hs
  go_wp2_with fail
  refine bodyPost_ret (v := .tuple #[.slice A out.length c, .nilIface]) (by simp [results, Try.results42, go_sem]) rfl ?_
  exact HFIN.out

theorem info98 : (Try.prog.info? 98).map (fun i => (i.zero, i.size, i.bytes)) = some (some (.agg #[.int .u64 0, .int .u64 0]), 2, 16) := by kernel_rfl
theorem el91 : Elem Try.prog 91 98 2 16 := by
  obtain ⟨i, hi, hz0, hz1, hz2⟩ := info_parts info98
  exact ⟨Try.underlying91, i, _, hi, hz0, hz1, hz2, rfl, by omega⟩

theorem Fmt.len {ver lc boot : Int} {rs : List (Int × Int)} {n : Nd} {out : List UInt8} (h : Fmt ver lc boot rs n out) (hr : rs.length ≤ 100) : out.length ≤ 2000000 := by
  obtain ⟨st, strs, -, h1, h2, rfl⟩ := h
  have h3 := be16_len rs
  simp only [List.length_append, h3, zeros_len]
  simp [be4]
  omega

def FmtClos (w : World) (p1 : Nat) (t : Tr) (e : Ending) (w' : World) : Prop :=
  e = .returned (.bool true) ∧ Fr w.heap.size (· = p1) w w' ∧ ∃ v out, Cs w' p1 #[v] ∧ w'.ownsRow w.heap.size 5 1 v out.length (out.map bv) ∧ Fmt t.ver t.lc t.boot t.rooms t.root out

set_option maxHeartbeats 2000000 in
theorem fmt1_walk (w : World) (ok : Nat → Prop) (t : Tr) (cs : Array Value) (p0 p1 : Nat) (y : Value) (hok : ∀ k, ok k → k < w.heap.size) (hp1 : ¬ ok p1) (ht : TreeC w ok t cs) (h0 : Cs w p0 cs) (h1 : Cs w p1 #[y]) (n0 : p0 ≠ p1) (hfit : FitsP t) :
    Calls Try.prog 41 #[.pointer (some ⟨p0, 0, none⟩), .pointer (some ⟨p1, 0, none⟩)] w (FmtClos w p1 t) := by
  obtain ⟨vr, ⟨k1, k2, k3⟩, rfl, hr, hn, hb⟩ := ht
  obtain ⟨AR, cR, rfl, hr1, hr2, hr3, hr4, hr5⟩ := hr
  obtain ⟨s1, A3, n3, c3, A4, n4, c4, hk⟩ := id hn.form
  simp only [Prod.mk.injEq] at hk
  obtain ⟨rfl, rfl, rfl⟩ := hk
  obtain ⟨f1, f2, f3, f4, f5, f6, f7, f8, f9, f10⟩ := hfit
  have HG := Lib.hid (given_walk t.root w.drew ok _ hok (hn.mono (w' := w.drew) (show Same ok w w.drew from fun _ _ => rfl) (fun _ h => h)))
  obtain ⟨a0, a1, a2, a3, a4, a5, a6⟩ := cells7 h0
  have l0 := h0.lt
  have l1 := h1.lt
  have hw0 : IntKind.u32.wrap t.ver = t.ver := by rw [f3]; rfl
  have hw1 : IntKind.u32.wrap t.lc = t.lc := by rw [f4]; rfl
  have hw2 : IntKind.u32.wrap t.boot = t.boot := by simp only [IntKind.wrap, IntKind.bits, IntKind.signed]; simp; omega
  have Hr4 := Lib.hid hr4
  have Hr5 := Lib.hid hr5
  have H0 := Lib.hid h0
  have H1 := Lib.hid h1
  have Hfit := Lib.hid (And.intro f3 (And.intro f4 (And.intro f8 f10)))
  have Hok := Lib.hid hok
  clear hn hr4 hr5 h0 h1 f1 f2 f3 f4 f8 f9 f10 hok hb
  go_enter Try.func41, Try.ntmps41
  go_wp2_with fail
  refine wp_region_seq (fun w' => w'.cell? ⟨p0, 0, none⟩ = some (.int .i64 t.ver) ∧ w'.cell? ⟨p0, 1, none⟩ = some (.int .i64 t.lc) ∧ w'.cell? ⟨p0, 2, none⟩ = some (.int .i64 t.boot) ∧ w'.cell? ⟨p0, 4, none⟩ = some (.string s1) ∧ w'.cell? ⟨p0, 5, none⟩ = some (.slice A3 n3 c3) ∧ w'.cell? ⟨p0, 6, none⟩ = some (.slice A4 n4 c4)) 15
    [(0, true), (1, true), (2, true), (3, true), (4, true), (5, true), (6, true), (7, true), (8, true), (9, true), (10, true), (11, true), (12, false), (13, true), (14, false), (15, false)] (by kernel_rfl) (by kernel_rfl) ⟨a0, a1, a2, a4, a5, a6⟩ ?_
  simp only [opsIn, List.map_cons, List.map_nil, List.getElem?_toArray, List.getElem?_cons_zero, List.getElem?_cons_succ, Option.getD_some, Nat.reduceBEq]
  iterate 12
    refine' Seq.quiet (by rfl) ?_ ?_
    rotate_left
    · rintro w' ⟨hS1, hS2, hS3, hS4, hS5, hS6⟩
      go_simp
      try with_reducible rfl
    try simp only [Act.put, List.setIfInBounds_toArray, List.set_cons_zero, List.set_cons_succ]
  refine Seq.eff ?_ ?_
  · rfl
  intro K hK
  go_simp
  refine HG.out.mono ?_
  rintro e w1 ⟨lt, rfl, her, hpn, hb, -, -⟩
  replace hb : Below w.heap.size w w1 := (Below.refl _ _).drew.trans hb
  have b0 := (hb.cell (p := ⟨p0, 0, none⟩) l0).trans a0
  have b1 := (hb.cell (p := ⟨p0, 1, none⟩) l0).trans a1
  have b2 := (hb.cell (p := ⟨p0, 2, none⟩) l0).trans a2
  have b4 := (hb.cell (p := ⟨p0, 4, none⟩) l0).trans a4
  have b5 := (hb.cell (p := ⟨p0, 5, none⟩) l0).trans a5
  have b6 := (hb.cell (p := ⟨p0, 6, none⟩) l0).trans a6
  refine hK.out _ _ (.inr ⟨b0, b1, b2, b4, b5, b6⟩) ?_
  clear hK K
  try simp only [Act.put, List.setIfInBounds_toArray, List.set_cons_zero, List.set_cons_succ]
  refine' Seq.quiet (by rfl) ?_ ?_
  rotate_left
  · rintro w' ⟨hS1, hS2, hS3, hS4, hS5, hS6⟩
    go_simp
    try with_reducible rfl
  try simp only [Act.put, List.setIfInBounds_toArray, List.set_cons_zero, List.set_cons_succ]
  refine Seq.eff ?_ ?_
  · rfl
  intro K hK
  go_simp
  refine hK.out _ _ (.inr ⟨(World.cell?_alloc_lt _ _ _ (World.block_lt_of_cell? _ _ b0)).trans b0, (World.cell?_alloc_lt _ _ _ (World.block_lt_of_cell? _ _ b1)).trans b1, (World.cell?_alloc_lt _ _ _ (World.block_lt_of_cell? _ _ b2)).trans b2, (World.cell?_alloc_lt _ _ _ (World.block_lt_of_cell? _ _ b4)).trans b4, (World.cell?_alloc_lt _ _ _ (World.block_lt_of_cell? _ _ b5)).trans b5, (World.cell?_alloc_lt _ _ _ (World.block_lt_of_cell? _ _ b6)).trans b6⟩) ?_
  clear hK K
  try simp only [Act.put, List.setIfInBounds_toArray, List.set_cons_zero, List.set_cons_succ]
  refine Seq.last ?_ ?_
  · rfl
  intro K hK
  go_simp
  refine hK.out _ _ ?_
  clear hK K
  generalize hV : w1.alloc (.cells #[.int .u32 3490578157, .int .u32 0, .int .u32 0, .int .u32 0, .int .u32 0, .int .u32 t.ver, .int .u32 t.lc, .int .u32 t.boot, .int .u32 0, .int .u32 0, .slice none 0 0, .pointer (some ⟨lt.b, 0, none⟩)] 93) = W2
  have hWs : W2.heap.size = w1.heap.size + 1 := by rw [← hV]; simp
  have hWb : Below w1.heap.size w1 W2 := by rw [← hV]; exact (Below.refl _ _).alloc (Nat.le_refl _) _
  have hCq : Cs W2 w1.heap.size #[.int .u32 3490578157, .int .u32 0, .int .u32 0, .int .u32 0, .int .u32 0, .int .u32 t.ver, .int .u32 t.lc, .int .u32 t.boot, .int .u32 0, .int .u32 0, .slice none 0 0, .pointer (some ⟨lt.b, 0, none⟩)] := by rw [← hV]; exact Cs.new _ _ _
  clear hV b0 b1 b2 b4 b5 b6 a0 a1 a2 a4 a5 a6 hw0 hw1 hw2
  obtain ⟨q, hq⟩ : ∃ q, w1.heap.size = q := ⟨_, rfl⟩
  have hbs := hb.size
  have hB2 : Below w.heap.size w W2 := hb.trans (hWb.mono hbs)
  rw [hq] at hCq hWs ⊢
  have x3 : W2.cell? ⟨p0, 3, none⟩ = some (.slice AR t.rooms.length cR) := (hB2.cell (p := ⟨p0, 3, none⟩) l0).trans a3
  have hpn2 : PN W2 (Rng w w1) lt := hpn.mono (Same.of_below hWb (fun k hk => hk.2)) (fun _ h => h)
  have HB2 := Lib.hid hB2
  have Hpn := Lib.hid hpn2
  have Hcq := Lib.hid hCq
  have Her := Lib.hid her
  clear hWb hB2 hpn hpn2 hCq hb a3 her HG
  go_wp2_with fail
  go_loopw [26] (fun i wr => ∃ k : Nat, k ≤ t.rooms.length ∧ i = .int .i64 k ∧ ∃ A c, Cs wr q #[.int .u32 3490578157, .int .u32 0, .int .u32 0, .int .u32 0, .int .u32 0, .int .u32 t.ver, .int .u32 t.lc, .int .u32 t.boot, .int .u32 0, .int .u32 0, .slice A k c, .pointer (some ⟨lt.b, 0, none⟩)] ∧ wr.ownsRow (q + 1) 98 2 (.slice A k c) k (((t.rooms.take k).map roomC).flatMap duo) ∧ Fr (q + 1) (· = q) W2 wr) (fun i _ => t.rooms.length - (intOf i).toNat)
  case atStart => exact ⟨0, by omega, by go_num, none, 0, Hcq.out, World.ownsRow_nil _ _ _ _, Fr.refl _ _ _⟩
  case round =>
    obtain ⟨k, hk, rfl, A, c, hq1, hown, hF⟩ := hrel
    clear x3
    have hsz := hF.size
    by_cases hlt : k < t.rooms.length
    · have hne : t.rooms ≠ [] := by intro e; rw [e] at hlt; simp at hlt
      obtain ⟨g, o, rfl, hog, hD⟩ := Hr5.out.resolve_left hne
      obtain ⟨d1, d2⟩ := hD k (roomC t.rooms[k]) (by simp [hlt])
      have hgl := Hok.out g hog
      have tr : ∀ y, w.cell? ⟨g, y, none⟩ = wr.cell? ⟨g, y, none⟩ := fun y => ((hF.cell (by omega) (by omega)).trans (HB2.out.cell (p := ⟨g, y, none⟩) hgl)).symm
      rw [tr] at d1 d2
      have hsn : ((t.rooms.take (k + 1)).map roomC).flatMap duo = ((t.rooms.take k).map roomC).flatMap duo ++ duo (roomC t.rooms[k]) := by
        rw [List.take_succ_eq_append_getElem hlt, List.map_append, List.flatMap_append]
        simp
      generalize t.rooms[k] = rk at *
      obtain ⟨ra, rz⟩ := rk
      simp only [roomC, duo] at d1 d2 hsn
      have hki : (0 : Int) ≤ (k : Int) := by omega
      have hgw : g < wr.heap.size := by omega
      have Hq1 := Lib.hid hq1
      have Hown := Lib.hid hown
      have HF := Lib.hid hF
      have Hsn := Lib.hid hsn
      clear hq1 hown hF hD tr hsn
      go_wp2_with fail
      generalize hV : wr.alloc (.cells #[.int .u64 ra, .int .u64 rz] 80) = V
      have hVs : V.heap.size = wr.heap.size + 1 := by rw [← hV]; simp
      have hVb : Below wr.heap.size wr V := by rw [← hV]; exact (Below.refl _ _).alloc (Nat.le_refl _) _
      have hVc : Cs V wr.heap.size #[.int .u64 ra, .int .u64 rz] := by rw [← hV]; exact Cs.new _ _ _
      clear hV d1 d2
      have hqV : Cs V q #[.int .u32 3490578157, .int .u32 0, .int .u32 0, .int .u32 0, .int .u32 0, .int .u32 t.ver, .int .u32 t.lc, .int .u32 t.boot, .int .u32 0, .int .u32 0, .slice A k c, .pointer (some ⟨lt.b, 0, none⟩)] := Hq1.out.below hVb Hq1.out.lt
      have y0 : V.cell? ⟨q, 10, none⟩ = some (.slice A k c) := (hqV.cell 10).trans rfl
      have y1 : V.cell? ⟨wr.heap.size, 0, none⟩ = some (.int .u64 ra) := (hVc.cell 0).trans rfl
      have y2 : V.cell? ⟨wr.heap.size, 1, none⟩ = some (.int .u64 rz) := (hVc.cell 1).trans rfl
      have lq : q < V.heap.size := hqV.lt
      have lr : wr.heap.size < V.heap.size := by omega
      have hoV : V.drew.ownsRow (q + 1) 98 2 (.slice A k c) k (((t.rooms.take k).map roomC).flatMap duo) := own_keep Hown.out fun g hg => hVb.block g (Hown.out.lt g hg).2
      have hrow : some wr.heap.size ≠ (Value.slice A k c).ownBlock := fun e => by have := (Hown.out.lt _ e.symm).2; omega
      have HVs := Lib.hid hVs
      clear hVs
      refine wp_region_seq (fun w' => w'.cell? ⟨q, 10, none⟩ = some (.slice A k c) ∧ w'.cell? ⟨wr.heap.size, 0, none⟩ = some (.int .u64 ra) ∧ w'.cell? ⟨wr.heap.size, 1, none⟩ = some (.int .u64 rz)) 14
        [(0, true), (1, true), (2, true), (3, true), (4, true), (5, true), (6, true), (7, true), (8, true), (9, true), (10, false), (11, false), (12, true), (13, true), (14, false)] (by kernel_rfl) (by kernel_rfl) ⟨y0, y1, y2⟩ ?_
      simp only [opsIn, List.map_cons, List.map_nil, List.getElem?_toArray, List.getElem?_cons_zero, List.getElem?_cons_succ, Option.getD_some, Nat.reduceBEq]
      iterate 10
        refine' Seq.quiet (by rfl) ?_ ?_
        rotate_left
        · rintro w' ⟨hS1, hS2, hS3⟩
          go_simp
          try with_reducible rfl
        try simp only [Act.put, List.setIfInBounds_toArray, List.set_cons_zero, List.set_cons_succ]
      refine Seq.eff ?_ ?_
      · rfl
      intro K hK
      go_simp
      refine hK.out _ _ (.inr ⟨(World.cell?_alloc_lt _ _ _ lq).trans y0, (World.cell?_alloc_lt _ _ _ lr).trans y1, (World.cell?_alloc_lt _ _ _ lr).trans y2⟩) ?_
      clear hK K
      try simp only [Act.put, List.setIfInBounds_toArray, List.set_cons_zero, List.set_cons_succ]
      refine Seq.eff ?_ ?_
      · rfl
      intro K hK
      refine wp_append_el el91 (.tmp 34) (.tmp 40) rfl (q + 1) (.slice A k c) k (((t.rooms.take k).map roomC).flatMap duo) rfl (hoV.alloc _) (some ⟨V.heap.size, 0, none⟩) 1 1 [.int .u64 ra, .int .u64 rz] rfl (by simp) ((Cs.new V.drew 98 #[.int .u64 ra, .int .u64 rz]).rd rfl) (by simp [Value.oneCell']) (by omega) (by omega) (by simp; omega) ?_
      intro v' w2 hown1 hgrow hnil hat
      obtain ⟨A', c', rfl⟩ := own_slice hown1
      clear hnil
      have hN2 : some q ≠ (Value.slice A k c).ownBlock := own_ne Hown.out (by omega)
      have hk2 : ∀ b o, b < V.heap.size → some b ≠ (Value.slice A k c).ownBlock → w2.cell? ⟨b, o, none⟩ = V.cell? ⟨b, o, none⟩ := fun b o h1 h2 => (World.cell?_of_block (a := ⟨b, o, none⟩) (hgrow.block b (by simp; omega) h2)).trans (World.cell?_alloc_lt V.drew _ _ h1)
      have fz10 : w2.frozen? ⟨q, 10, none⟩ = false := ((hqV.drew.alloc _).grown hgrow hN2).frozen 10
      refine hK.out _ _ (.inr ⟨(hk2 _ _ lq hN2).trans y0, (hk2 _ _ lr hrow).trans y1, (hk2 _ _ lr hrow).trans y2⟩) ?_
      clear hK K
      try simp only [Act.put, List.setIfInBounds_toArray, List.set_cons_zero, List.set_cons_succ]
      iterate 2
        refine' Seq.quiet (by rfl) ?_ ?_
        rotate_left
        · rintro w' ⟨hS1, hS2, hS3⟩
          go_simp
          try with_reducible rfl
        try simp only [Act.put, List.setIfInBounds_toArray, List.set_cons_zero, List.set_cons_succ]
      refine Seq.last ?_ ?_
      · rfl
      intro K hK
      go_simp
      refine hK.out _ _ ?_
      clear hK K
      have hq2' : Cs w2 q #[.int .u32 3490578157, .int .u32 0, .int .u32 0, .int .u32 0, .int .u32 0, .int .u32 t.ver, .int .u32 t.lc, .int .u32 t.boot, .int .u32 0, .int .u32 0, .slice A k c, .pointer (some ⟨lt.b, 0, none⟩)] := (hqV.drew.alloc _).grown hgrow hN2
      have hq3 := hq2'.set_ 10 (.slice A' (k + 1) c')
      simp only [List.setIfInBounds_toArray, List.set_cons_zero, List.set_cons_succ] at hq3
      have hFV : Fr (q + 1) (· = q) W2 V := HF.out.trans (Fr.of_below (hVb.mono (by omega)))
      have hF2 := (((hFV.drew.alloc (by simp; omega) (.cells #[.int .u64 ra, .int .u64 rz] 98)).grown hgrow (by simp; omega) fun x hx => .inl (Hown.out.lt x hx).1).setCell (p := ⟨q, 10, none⟩) (.inr rfl) (.slice A' (k + 1) c'))
      have HFIN := Lib.hid (show ∃ A c, Cs (w2.setCell ⟨q, 10, none⟩ (.slice A' (k + 1) c')) q #[.int .u32 3490578157, .int .u32 0, .int .u32 0, .int .u32 0, .int .u32 0, .int .u32 t.ver, .int .u32 t.lc, .int .u32 t.boot, .int .u32 0, .int .u32 0, .slice A (k + 1 : Nat) c, .pointer (some ⟨lt.b, 0, none⟩)] ∧ (w2.setCell ⟨q, 10, none⟩ (.slice A' (k + 1) c')).ownsRow (q + 1) 98 2 (.slice A (k + 1) c) (k + 1) (((t.rooms.take (k + 1)).map roomC).flatMap duo) ∧ Fr (q + 1) (· = q) W2 (w2.setCell ⟨q, 10, none⟩ (.slice A' (k + 1) c')) from
        ⟨A', c', hq3, by rw [Hsn.out]; exact ownsRow_setCell_below (a := ⟨q, 10, none⟩) hown1 (by simp) _, hF2⟩)
      clear hq2' hq3 hFV hF2 hown1 hgrow hat hoV hVb hVc hqV y0 y1 y2
      go_wp2_with fail
      exact ⟨⟨k + 1, hlt, by go_num, HFIN.out⟩, by simp [intOf]; omega⟩
    · obtain rfl : k = t.rooms.length := by omega
      rw [List.take_length] at hown
      obtain ⟨wo, rfl⟩ : ∃ wo : World, wo = wr := ⟨_, rfl⟩
      obtain ⟨o1, o2, o3⟩ := own_form hown
      obtain ⟨g1, g2, g3, g4⟩ := Hfit.out
      have hpt := root_tame (lt := lt) (by rw [Her.out]; exact g3)
      rw [Her.out] at hpt
      have hZ := zw_walk wo (fun k => Rng w w1 k ∨ (Value.slice A t.rooms.length c).ownBlock = some k) q lt t.ver t.lc t.boot t.rooms A c (fun k hk => by
          rcases hk with h | h
          · have := h.2; exact ⟨by omega, by omega⟩
          · have := hown.lt k h; exact ⟨by omega, by omega⟩) (Hpn.out.mono (fun k hk => hF.block k (by have := hk.2; omega) (by have := hk.2; omega)) (fun _ h => .inl h)) hq1
        (by
          rcases o3 with o3 | ⟨g, rfl⟩
          · exact .inl (List.length_eq_zero_iff.1 o3)
          · exact .inr ⟨g, 0, rfl, .inr rfl, own_duo hown⟩) Hr4.out (by omega) (by rw [g1]; omega) (by rw [g2]; omega) (by omega) hpt.1 (by omega) (by omega)
      have HZ := Lib.hid hZ
      have HF := Lib.hid hF
      have Hq1 := Lib.hid hq1
      clear hZ hF hq1 hown hpt g1 g2 g3 g4 o1 o2 o3 Hpn Hcq
      go_wp2_with fail
      refine HZ.out.mono ?_
      rintro e w3 ⟨out, A5, c5, rfl, hfmt, hfr, hown⟩
      rw [Her.out] at hfmt
      have hol := hfmt.len (by omega)
      obtain ⟨o1, o2, o3⟩ := own_form hown
      have HC := Lib.hid (clone_any w3 (.slice A5 out.length c5) out ⟨A5, c5, rfl, o1, o2, own_rd hown⟩ (by omega))
      have hfrw : Fr w.heap.size (· = p1) w w3 := ((Fr.of_below HB2.out).trans ((HF.out.mono (by omega) (fun k hk h => by omega)))).trans (hfr.mono (by omega) (fun k hk h => by omega))
      have p3 : Cs w3 p1 #[y] := ((H1.out.below HB2.out l1).fr HF.out (by omega) (by omega)).fr hfr (by omega) (by omega)
      have Hfrw := Lib.hid hfrw
      have Hp3 := Lib.hid p3
      have Hfmt := Lib.hid hfmt
      have hw3 := hfrw.size
      clear hfmt hfr hown hfrw p3 o1 o2 o3
      go_wp2_with fail
      refine HC.out.mono ?_
      rintro e w4 ⟨v, rfl, hown, hb4⟩
      obtain ⟨A6, c6, rfl⟩ := own_slice hown
      have p4 := Hp3.out.below hb4 (by omega)
      have c0 := p4.cell 0
      have fz := p4.frozen 0
      simp at c0
      have p5 := p4.set_ 0 (.slice A6 out.length c6)
      simp at p5
      have HFIN := Lib.hid (show FmtClos w p1 t (.returned (.bool true)) (w4.setCell ⟨p1, 0, none⟩ (.slice A6 out.length c6)) from
        ⟨rfl, (Hfrw.out.trans (Fr.of_below (hb4.mono hw3))).setCell (p := ⟨p1, 0, none⟩) (.inr rfl) _, _, out, p5, own_mono (ownsRow_setCell_below (a := ⟨p1, 0, none⟩) hown (by show p1 < w3.heap.size; omega) _) hw3, Hfmt.out⟩)
      clear p4 p5 hown hb4
      go_wp2_with fail
      go_ret
      exact HFIN.out
end Go.Proofs.Ytlbhadggfipckaa

set_option linter.unusedVariables false
set_option linter.unusedSimpArgs false
namespace Go.Proofs.Ytlbhadggfipckaa
open Go.RowKit

def FormatPost (w : World) (t : Tr) (e : Ending) (w' : World) : Prop :=
  ∃ v out, e = .returned (.tuple #[v, .bool true]) ∧ Below w.heap.size w w' ∧ w'.ownsRow w.heap.size 5 1 v out.length (out.map bv) ∧ Fmt t.ver t.lc t.boot t.rooms t.root out

set_option maxHeartbeats 1000000 in
theorem format_walk (t : Tr) (cs : Array Value) (w : World) (ok : Nat → Prop) (hok : ∀ k, ok k → k < w.heap.size) (ht : TreeC w ok t cs) (hfit : FitsP t) :
    Calls Try.prog 20 #[.agg cs] w (FormatPost w t) := by
  have hmf : ∀ (fn : Fn) (first cap : Array Value) (w : World), (Instr.makeFunc fn first cap).run Try.prog w = .ok (.func fn first cap) w := fun _ _ _ _ => rfl
  obtain ⟨A, c, s1, A3, n3, c3, A4, n4, c4, rfl⟩ := ht.form
  have b1 : 0 ≤ t.ver ∧ t.ver < 100 := by have := hfit.2.2.1; omega
  have b2 : 0 ≤ t.lc ∧ t.lc < 100 := by have := hfit.2.2.2.1; omega
  have b3 := hfit.2.2.2.2.1
  have b4 := hfit.2.2.2.2.2.1
  have HT := Lib.hid ht
  have Hfit := Lib.hid hfit
  clear ht hfit
  go_enter Try.func20, Try.ntmps20
  go_wp2_with fail
  refine (word_walk _ t.ver (by omega) (by omega)).mono ?_
  rintro e w1 ⟨rfl, rfl⟩
  go_wp2_with fail
  refine (word_walk _ t.lc (by omega) (by omega)).mono ?_
  rintro e w1 ⟨rfl, rfl⟩
  go_wp2_with fail
  refine (word_walk _ t.boot (by omega) (by omega)).mono ?_
  rintro e w1 ⟨rfl, rfl⟩
  go_wp2_with fail
  generalize hW : (w.alloc (.cells #[.int .i64 t.ver, .int .i64 t.lc, .int .i64 t.boot, .slice A t.rooms.length c, .string s1, .slice A3 n3 c3, .slice A4 n4 c4] 40)).alloc (.cells #[.slice none 0 0] 24) = W
  have hWs : W.heap.size = w.heap.size + 2 := by rw [← hW]; simp
  have hWb : Below w.heap.size w W := by rw [← hW]; exact ((Below.refl _ _).alloc (Nat.le_refl _) _).alloc (by simp) _
  have hW0 : Cs W w.heap.size #[.int .i64 t.ver, .int .i64 t.lc, .int .i64 t.boot, .slice A t.rooms.length c, .string s1, .slice A3 n3 c3, .slice A4 n4 c4] := by rw [← hW]; exact (Cs.new _ _ _).alloc _
  have hW1 : Cs W (w.heap.size + 1) #[.slice none 0 0] := by rw [← hW]; exact Cs.new' _ _ _ _ (by simp)
  have hWt : Below w.heap.size w (W.alloc (.cells #[.bool false] 4)) := hWb.alloc (by omega) _
  clear hW
  refine (try_ok (R := fun b w1 => b = true ∧ Fr (W.heap.size + 1) (· = w.heap.size + 1) (W.alloc (.cells #[.bool false] 4)) w1 ∧ ∃ v out, Cs w1 (w.heap.size + 1) #[v] ∧ w1.ownsRow (W.heap.size + 1) 5 1 v out.length (out.map bv) ∧ Fmt t.ver t.lc t.boot t.rooms t.root out) (fun _ => by kernel_rfl) ?_).mono ?_
  · refine (fmt1_walk (W.alloc (.cells #[.bool false] 4)) ok t _ w.heap.size (w.heap.size + 1) (.slice none 0 0) (fun x hx => by have := hok x hx; simp; omega) (fun hx => by have := hok _ hx; omega) (HT.out.mono (Same.of_below hWt hok) (fun _ h => h)) (hW0.alloc _) (hW1.alloc _) (by omega) Hfit.out).mono ?_
    rintro e w1 ⟨rfl, hf, v, out, hv, hl⟩
    have hsz : (W.alloc (.cells #[.bool false] 4)).heap.size = W.heap.size + 1 := by simp
    rw [hsz] at hf hl
    exact ⟨_, rfl, (hf.cell (by omega) (by omega)).trans (by simp [go_sem]), ((Cs.new W 4 #[.bool false]).fr hf (by omega) (by omega)).frozen 0, rfl, hf, v, out, hv, hl⟩
  · rintro e w2 ⟨b, w1, rfl, ⟨rfl, hf, v, out, hv, hl, hfmt⟩, rfl⟩
    obtain ⟨A5, c5, rfl⟩ := own_slice hl
    have q := hv.far (p := ⟨W.heap.size, 0, none⟩) (by simp; omega) (.bool true)
    have hBw : Below w.heap.size w (w1.setCell ⟨W.heap.size, 0, none⟩ (.bool true)) := (hWt.trans (hf.below (by omega) (by omega))).setCell (by simp; omega) _
    have hl2 : (w1.setCell ⟨W.heap.size, 0, none⟩ (.bool true)).ownsRow (W.heap.size + 1) 5 1 (.slice A5 out.length c5) out.length (out.map bv) := ownsRow_setCell_below (a := ⟨W.heap.size, 0, none⟩) hl (by simp) _
    have c0 := q.cell 0
    have f0 := q.frozen 0
    simp at c0
    generalize w1.setCell ⟨W.heap.size, 0, none⟩ (.bool true) = w3 at *
    have hl3 : (w3.setCell ⟨w.heap.size + 1, 0, none⟩ (.slice A5 out.length c5)).ownsRow (W.heap.size + 1) 5 1 (.slice A5 out.length c5) out.length (out.map bv) := ownsRow_setCell_below (a := ⟨w.heap.size + 1, 0, none⟩) hl2 (by show w.heap.size + 1 < W.heap.size + 1; omega) _
    have HFIN := Lib.hid (show FormatPost w t (.returned (.tuple #[.slice A5 out.length c5, .bool true])) (w3.setCell ⟨w.heap.size + 1, 0, none⟩ (.slice A5 out.length c5)) from ⟨_, out, rfl, hBw.setCell (by simp) _, own_mono hl3 (by omega), hfmt⟩)
    clear hf hv hl hl2 hl3 hBw hW0 hW1 hWt hWb hfmt
    go_wp2_with fail
    have c1 := (q.set_ 0 (.slice A5 out.length c5)).cell 0
    simp at c1
    refine bodyPost_ret (v := .tuple #[.slice A5 out.length c5, .bool true]) (by simp [results, Try.results20, go_sem, c1]) rfl ?_
    exact HFIN.out
end Go.Proofs.Ytlbhadggfipckaa
