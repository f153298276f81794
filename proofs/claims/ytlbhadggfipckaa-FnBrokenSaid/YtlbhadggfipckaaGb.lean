/-
  impl.given: a node of the package.
-/
import Derived.Test.YtlbhadggfipckaaGa
import Derived.Test.YtlbhadggfipckaaTe
set_option linter.unusedVariables false
set_option linter.unusedSimpArgs false
namespace Go.Proofs.Ytlbhadggfipckaa
open Go.RowKit

theorem own_below {w w' : World} {base n : Nat} {e : TypeId} {size : Nat} {v : Value} {xs : List Value} {o : Obj} (h : w.ownsRow base e size v n xs) (hb : Below (w.alloc o).drew.heap.size (w.alloc o).drew w') : w'.ownsRow base e size v n xs :=
  own_keep ((h.alloc o).drew) fun g hg => hb.block g (by have := h.lt g hg; simp; omega)

def GivenPost (w : World) (n : Nd) (e : Ending) (w' : World) : Prop :=
  ∃ lt : LT, e = .returned (.pointer (some ⟨lt.b, 0, none⟩)) ∧ lt.erase = n ∧ PN w' (Rng w w') lt ∧ Below w.heap.size w w' ∧ lt.flat.Nodup ∧ ∀ x ∈ lt.flat, Rng w w' x

def GInv1 (w : World) (name : ByteArray) (ps : List Pr) (box : Array Value) (k : Nat) (wr : World) : Prop :=
  ∃ A c ts, Below w.heap.size w wr ∧ w.heap.size + 2 ≤ wr.heap.size ∧ Cs wr w.heap.size box ∧ Cs wr (w.heap.size + 1) #[.string name, .slice A k c, .slice none 0 0] ∧
    wr.ownsRow (w.heap.size + 2) 70 2 (.slice A k c) k (ts.flatMap duo) ∧ Each (PrC wr (OkR (w.heap.size + 2) wr (Value.slice A k c).ownBlock)) (ps.take k) ts

def GInv2 (w : World) (name : ByteArray) (ps : List Pr) (ks : List Nd) (box : Array Value) (k : Nat) (wr : World) : Prop :=
  ∃ A c, ∃ lts : List LT, ∃ vp, Below w.heap.size w wr ∧ w.heap.size + 2 ≤ wr.heap.size ∧ Cs wr w.heap.size box ∧ Cs wr (w.heap.size + 1) #[.string name, vp, .slice A k c] ∧
    wr.ownsRow (w.heap.size + 2) 87 1 (.slice A k c) k (lts.map fun x => .pointer (some ⟨x.b, 0, none⟩)) ∧ PropsC wr (OkR (w.heap.size + 2) wr (Value.slice A k c).ownBlock) vp ps ∧
    lts.map LT.erase = ks.take k ∧ (∀ x ∈ lts, PN wr (OkR (w.heap.size + 2) wr (Value.slice A k c).ownBlock) x) ∧ (lts.flatMap LT.flat).Nodup ∧ ∀ x ∈ lts.flatMap LT.flat, w.heap.size + 2 ≤ x ∧ x < wr.heap.size

theorem flat_snoc {a b : List Nat} {lo n : Nat} (ha : a.Nodup) (hb : b.Nodup) (h1 : ∀ x ∈ a, lo ≤ x ∧ x < n) (h2 : ∀ x ∈ b, n ≤ x) : (a ++ b).Nodup := by
  rw [List.nodup_append]
  refine ⟨ha, hb, fun x hx y hy => ?_⟩
  have := h1 x hx
  have := h2 y hy
  omega

theorem given_fin {w wr : World} {name : ByteArray} {ps : List Pr} {ks : List Nd} {A : Option Addr} {c : Nat} {lts : List LT} {vp : Value} (hns : name.size ≤ 140737488351232) (hk1 : ks.length * 64 ≤ 140737488351232) (hF : Below w.heap.size w wr) (hz : w.heap.size + 2 ≤ wr.heap.size)
    (q : Cs wr (w.heap.size + 1) #[.string name, vp, .slice A ks.length c]) (hown : wr.ownsRow (w.heap.size + 2) 87 1 (.slice A ks.length c) ks.length (lts.map fun x => .pointer (some ⟨x.b, 0, none⟩))) (hpr : PropsC wr (OkR (w.heap.size + 2) wr (Value.slice A ks.length c).ownBlock) vp ps)
    (hm : lts.map LT.erase = ks.take ks.length ∧ (∀ x ∈ lts, PN wr (OkR (w.heap.size + 2) wr (Value.slice A ks.length c).ownBlock) x) ∧ (lts.flatMap LT.flat).Nodup ∧ ∀ x ∈ lts.flatMap LT.flat, w.heap.size + 2 ≤ x ∧ x < wr.heap.size) :
    GivenPost w (.mk name ps ks) (.returned (.pointer (some ⟨w.heap.size + 1, 0, none⟩))) wr := by
  obtain ⟨m1, m2, m3, m4⟩ := hm
  rw [List.take_length] at m1
  have hlen : lts.length = ks.length := by rw [← m1]; simp
  have ho : ∀ b, OkR (w.heap.size + 2) wr (Value.slice A ks.length c).ownBlock b → Rng w wr b := fun b hb => ⟨by have := hb.1; omega, hb.2.1⟩
  obtain ⟨o1, o2, o3⟩ := own_form hown
  refine ⟨.mk (w.heap.size + 1) name ps lts, rfl, by simp only [LT.erase]; rw [eraseL_eq, m1], ?_, hF, ?_, ?_⟩
  · refine PN.mk (A := A) (c := c) (vp := vp) ⟨by omega, by omega⟩ hns (by rw [hlen]; exact q) (hpr.mono (Same.refl _ _) ho) (by omega) (by omega) o2 (fun k hk => (m2 k hk).mono (Same.refl _ _) ho) ?_
    rcases o3 with o3 | ⟨g, rfl⟩
    · exact .inl (List.length_eq_zero_iff.1 (by omega))
    · refine .inr ⟨g, 0, rfl, ⟨by have := (hown.lt g rfl).1; omega, (hown.lt g rfl).2⟩, fun i k hi => ?_⟩
      have hil := (List.getElem?_eq_some_iff.1 hi).1
      rw [Nat.zero_add, hown.cellAt i (by omega), List.getElem?_map, hi]
      rfl
  · simp only [LT.flat, flatL_eq]
    refine List.nodup_cons.2 ⟨fun h => ?_, m3⟩
    have := m4 _ h
    omega
  · intro x hx
    simp only [LT.flat, flatL_eq] at hx
    rcases List.mem_cons.1 hx with rfl | h
    · exact ⟨by omega, by omega⟩
    · have := m4 _ h
      exact ⟨by omega, by omega⟩

set_option maxHeartbeats 4000000 in
theorem given_walk (n : Nd) : ∀ (w : World) (ok : Nat → Prop) (t : Value × Value × Value), (∀ k, ok k → k < w.heap.size) → NodeC w ok n t → Calls Try.prog 37 #[.agg #[t.1, t.2.1, t.2.2]] w (GivenPost w n) := by
  refine Nd.ind (P := fun n => ∀ (w : World) (ok : Nat → Prop) (t : Value × Value × Value), (∀ k, ok k → k < w.heap.size) → NodeC w ok n t → Calls Try.prog 37 #[.agg #[t.1, t.2.1, t.2.2]] w (GivenPost w n)) ?_ n
  intro name ps ks IH w ok t hok hn
  obtain ⟨vp, vk, rfl, hns, hps, hks⟩ := hn.open_
  obtain ⟨Ap, cp, ts, rfl, hp1, hp2, hp3, hp4, hp5⟩ := hps
  obtain ⟨Ak, ck, us, rfl, hk1, hk2, hk3, hk4, hk5⟩ := hks
  have Hp4 := Lib.hid hp4
  have Hp5 := Lib.hid hp5
  have Hk4 := Lib.hid hk4
  have Hk5 := Lib.hid hk5
  have IH := Lib.hid IH
  clear hp4 hp5 hk4 hk5 hn
  go_enter Try.func37, Try.ntmps37
  go_wp2_with fail
  go_loopw [15] (fun i wr => ∃ k : Nat, k ≤ ps.length ∧ i = .int .i64 k ∧ GInv1 w name ps #[.string name, .slice Ap ps.length cp, .slice Ak ks.length ck] k wr) (fun i _ => ps.length - (intOf i).toNat)
  case atStart =>
    exact ⟨0, by omega, by go_num, none, 0, [], ((Below.refl _ _).alloc (by omega) _).alloc (by simp) _, by simp, (Cs.new' _ _ _ _ rfl).alloc _, Cs.new' _ _ _ _ (by simp), ⟨by simp, .inl ⟨rfl, rfl⟩⟩, Each.nil⟩
  case round =>
    obtain ⟨k, hk, rfl, A, c, ts', hF, hz, q1, q2, hown, hE⟩ := hrel
    have z1 := q1.lt
    have z2 := q2.lt
    by_cases hlt : k < ps.length
    · have hne : ps ≠ [] := by rintro rfl; simp at hlt
      obtain ⟨b, o, rfl, hob, hD⟩ := Hp5.out.resolve_left hne
      have hp4 := Hp4.out
      have hkp : ps[k]? = some ps[k] := List.getElem?_eq_getElem hlt
      have hlt2 : k < ts.length := by rw [← hp4.1]; exact hlt
      have hkt : ts[k]? = some (ts[k]'hlt2) := List.getElem?_eq_getElem hlt2
      obtain ⟨e1, pn, hval⟩ := hp4.2 k _ _ hkp hkt
      obtain ⟨Av, cv, e3, v1, v2, v3, v4⟩ := id hval
      obtain ⟨d1, d2⟩ := hD k _ hkt
      have hbo := hok b hob
      have tr : ∀ y, w.cell? ⟨b, y, none⟩ = wr.cell? ⟨b, y, none⟩ := fun y => (World.cell?_of_block (a := ⟨b, y, none⟩) (hF.block b hbo)).symm
      rw [e3] at hval
      rw [tr, e1] at d1
      rw [tr, e3] at d2
      have v4s : SlB wr (.slice Av ps[k].val.length cv) ps[k].val := (hval.mono (Same.of_below hF hok) (fun _ h => h)).slB
      generalize hpk : ps[k] = pk at *
      clear e1 e3 hkt hkp hD hp4 v4 tr hval
      have Hpk := Lib.hid hpk
      have HF := Lib.hid hF
      have HE := Lib.hid hE
      have Hq := Lib.hid (And.intro q1 q2)
      have c11 := q2.cell 1
      have f11 := q2.frozen 1
      simp at c11
      have hbl : b < wr.heap.size := by omega
      have hki : (0 : Int) ≤ (k : Int) := by omega
      clear hpk hF hE q1 q2
      go_wp2_with fail
      refine wp_region_seq (fun w' => w'.cell? ⟨w.heap.size + 1, 1, none⟩ = some (.slice A k c) ∧ w'.cell? ⟨wr.heap.size, 0, none⟩ = some (.string pk.name) ∧ w'.cell? ⟨wr.heap.size, 1, none⟩ = some (.slice Av pk.val.length cv)) 15
        [(0, true), (1, true), (2, true), (3, true), (4, true), (5, true), (6, true), (7, true), (8, true), (9, false), (10, true), (11, false), (12, false), (13, true), (14, true), (15, false)] (by kernel_rfl) (by kernel_rfl) (by simp [go_sem, World.cell?_alloc_lt, c11, *]) ?_
      simp only [opsIn, List.map_cons, List.map_nil, List.getElem?_toArray, List.getElem?_cons_zero, List.getElem?_cons_succ, Option.getD_some, Nat.reduceBEq]
      iterate 9
        refine' Seq.quiet (by rfl) ?_ ?_
        rotate_left
        · rintro w' ⟨hS1, hS2, hS3⟩
          go_simp
          try with_reducible rfl
        try simp only [Act.put, List.setIfInBounds_toArray, List.set_cons_zero, List.set_cons_succ]
      refine Seq.eff ?_ ?_
      · rfl
      intro K hK
      go_simp
      refine (clone_any _ (.slice Av pk.val.length cv) pk.val (v4s.below (((Below.refl wr.heap.size wr).alloc (Nat.le_refl _) _).drew)) (by omega)).mono ?_
      rintro e w1 ⟨v, rfl, hv, hb⟩
      obtain ⟨A5, c5, rfl⟩ := own_slice hv
      have s1z := hb.size
      simp at s1z
      have e0 : w1.cell? ⟨w.heap.size + 1, 1, none⟩ = some (.slice A k c) := (hb.cell (by simp; omega)).trans (by simp [go_sem, World.cell?_alloc_lt, c11, *])
      have e1 : w1.cell? ⟨wr.heap.size, 0, none⟩ = some (.string pk.name) := (hb.cell (by simp)).trans (by simp [go_sem])
      have e2 : w1.cell? ⟨wr.heap.size, 1, none⟩ = some (.slice Av pk.val.length cv) := (hb.cell (by simp)).trans (by simp [go_sem])
      refine hK.out _ _ (.inr ⟨e0, e1, e2⟩) ?_
      clear hK K
      try simp only [Act.put, List.setIfInBounds_toArray, List.set_cons_zero, List.set_cons_succ]
      refine' Seq.quiet (by rfl) ?_ ?_
      rotate_left
      · rintro w' ⟨hS1, hS2, hS3⟩
        go_simp
        try with_reducible rfl
      try simp only [Act.put, List.setIfInBounds_toArray, List.set_cons_zero, List.set_cons_succ]
      refine Seq.eff ?_ ?_
      · rfl
      intro K hK
      go_simp
      have hb1 : w.heap.size + 1 < w1.heap.size := by omega
      have hb2 : wr.heap.size < w1.heap.size := by omega
      refine hK.out _ _ (.inr ⟨(World.cell?_alloc_lt _ _ _ hb1).trans e0, (World.cell?_alloc_lt _ _ _ hb2).trans e1, (World.cell?_alloc_lt _ _ _ hb2).trans e2⟩) ?_
      clear hK K
      try simp only [Act.put, List.setIfInBounds_toArray, List.set_cons_zero, List.set_cons_succ]
      refine Seq.eff ?_ ?_
      · rfl
      intro K hK
      refine wp_append_el el127 (.tmp 23) (.tmp 30) rfl (w.heap.size + 2) (.slice A k c) k (ts'.flatMap duo) rfl ((own_below hown hb).alloc _) (some ⟨w1.heap.size, 0, none⟩) 1 1 [.string pk.name, .slice A5 pk.val.length c5] rfl (by simp)
        ((Cs.new _ _ _).rd rfl) (by simp [Value.oneCell']) (by omega) (by omega) (by simp; omega) ?_
      intro v' w2 hown1 hgrow hnil hat
      obtain ⟨A', c', rfl⟩ := own_slice hown1
      clear hnil
      have s2z := hgrow.size
      simp at s2z
      have hrow : some wr.heap.size ≠ (Value.slice A k c).ownBlock := fun e => by have := (hown.lt _ e.symm).2; omega
      have hN2 : some (w.heap.size + 1) ≠ (Value.slice A k c).ownBlock := own_ne hown (by omega)
      have hk2 : ∀ b o, b < wr.heap.size + 1 → some b ≠ (Value.slice A k c).ownBlock → w2.cell? ⟨b, o, none⟩ = w1.cell? ⟨b, o, none⟩ := fun b o h1 h2 =>
        (World.cell?_of_block (a := ⟨b, o, none⟩) (hgrow.block b (by simp; omega) h2)).trans (World.cell?_alloc_lt _ _ _ (by simp; omega))
      have q2' := ((((Hq.out.2.alloc _).drew.below hb (by simp; omega)).alloc _).grown hgrow hN2)
      have hf11 : w2.frozen? ⟨w.heap.size + 1, 1, none⟩ = false := q2'.frozen 1
      have g0 : w2.cell? ⟨w.heap.size + 1, 1, none⟩ = some (.slice A k c) := (hk2 _ _ (by omega) hN2).trans e0
      refine hK.out _ _ (.inr ⟨g0, (hk2 _ _ (by omega) hrow).trans e1, (hk2 _ _ (by omega) hrow).trans e2⟩) ?_
      clear hK K
      try simp only [Act.put, List.setIfInBounds_toArray, List.set_cons_zero, List.set_cons_succ]
      iterate 2
        refine' Seq.quiet (by rfl) ?_ ?_
        rotate_left
        · rintro w' ⟨hS1, hS2, hS3⟩
          go_simp
          try with_reducible rfl
        try simp only [Act.put, List.setIfInBounds_toArray, List.set_cons_zero, List.set_cons_succ]
      refine Seq.last ?_ ?_
      · rfl
      intro K hK
      go_simp
      refine hK.out _ _ ?_
      clear hK K
      obtain ⟨a1, a2, a3, a4, a5, a6, a7⟩ := app_frame (q := w.heap.size + 1) (j := 1) (u := .slice A' (k + 1) c') hown (by omega) hz hb hgrow hat
      have HFIN := Lib.hid (show GInv1 w name ps #[.string name, .slice (some ⟨b, o, none⟩) ps.length cp, .slice Ak ks.length ck] (k + 1) (w2.setCell ⟨w.heap.size + 1, 1, none⟩ (.slice A' (k + 1) c')) from ⟨A', c', ts' ++ [(.string pk.name, .slice A5 pk.val.length c5)], HF.out.trans (a7 _ (by omega)), by simp [World.setCell]; omega, Hq.out.1.keep (a5 _ (by omega) (by omega)), q2'.set_ 1 _,
        by rw [List.flatMap_append]; exact ownsRow_setCell_below hown1 (a := ⟨w.heap.size + 1, 1, none⟩) (by simp) _,
        by
          rw [List.take_succ_eq_append_getElem hlt, Hpk.out]
          exact (HE.out.imp fun _ _ h => h.mono a1 a2).snoc ⟨rfl, pn, (valC_of_own hv (by omega) (fun g hg => hv.lt g hg)).mono a3 a4⟩⟩)
      clear a1 a2 a3 a4 a5 a6 a7 hv hb hown1 hgrow hat q2' hk2
      go_wp2_with fail
      exact ⟨⟨k + 1, by omega, by go_num, HFIN.out⟩, by simp [intOf]; omega⟩
    · obtain rfl : k = ps.length := by omega
      obtain ⟨wo, rfl⟩ : ∃ wo : World, wo = wr := ⟨_, rfl⟩
      rw [List.take_length] at hE
      have c02 := q1.cell 2
      simp at c02
      have hpr : PropsC wo (OkR (w.heap.size + 2) wo none) (.slice A ps.length c) ps := props_of_own70 hown hE rfl hp1 (fun b hb => ⟨hb.1, hb.2.1, by simp⟩) (fun g hg => ⟨(hown.lt g hg).1, (hown.lt g hg).2, by simp⟩)
      have HF := Lib.hid hF
      have Hpr := Lib.hid hpr
      have Hq := Lib.hid (And.intro q1 q2)
      clear hF hE q1 q2 hpr hown
      go_wp2_with fail
      go_loopw [38] (fun i wr => ∃ k : Nat, k ≤ ks.length ∧ i = .int .i64 k ∧ GInv2 w name ps ks #[.string name, .slice Ap ps.length cp, .slice Ak ks.length ck] k wr) (fun i _ => ks.length - (intOf i).toNat)
      case atStart =>
        exact ⟨0, by omega, by go_num, none, 0, [], .slice A ps.length c, HF.out, hz, Hq.out.1, Hq.out.2, World.ownsRow_nil _ _ _ _, Hpr.out, rfl, by simp, by simp, by simp⟩
      case round =>
        clear HF Hpr Hq c02 hz z1 z2
        obtain ⟨k, hk, rfl, A, c, lts, vp, hF, hz, q1, q2, hown, hpr, hm⟩ := hrel
        obtain ⟨Ap2, cp2, -, rfl, -⟩ := id hpr
        have z1 := q1.lt
        have z2 := q2.lt
        have HF := Lib.hid hF
        have Hpr := Lib.hid hpr
        have Hm := Lib.hid hm
        have Hq := Lib.hid (And.intro q1 q2)
        have c12 := q2.cell 2
        have f12 := q2.frozen 2
        simp at c12
        clear hpr hm q1 q2
        by_cases hlt : k < ks.length
        · have hne : ks ≠ [] := by rintro rfl; simp at hlt
          obtain ⟨b, o, rfl, hob, hD⟩ := Hk5.out.resolve_left hne
          have hk4 := Hk4.out
          have hkp : ks[k]? = some ks[k] := List.getElem?_eq_getElem hlt
          have hlt2 : k < us.length := by rw [← hk4.1]; exact hlt
          have hkt : us[k]? = some (us[k]'hlt2) := List.getElem?_eq_getElem hlt2
          have hN := hk4.2 k _ _ hkp hkt
          obtain ⟨d1, d2, d3⟩ := hD k _ hkt
          have hbo := hok b hob
          have tr : ∀ x, w.cell? ⟨b, x, none⟩ = wr.cell? ⟨b, x, none⟩ := fun x => (World.cell?_of_block (a := ⟨b, x, none⟩) (hF.block b hbo)).symm
          rw [tr] at d1 d2 d3
          generalize us[k]'hlt2 = tk at *
          obtain ⟨s1, A3, n3, c3, A4, n4, c4, rfl⟩ := hN.form
          simp only at d1 d2 d3
          have hbl : b < wr.heap.size := by omega
          have hki : (0 : Int) ≤ (k : Int) := by omega
          have hI := IH.out ks[k] (List.getElem_mem hlt) (wr.alloc (.cells #[.string s1, .slice A3 n3 c3, .slice A4 n4 c4] 38)).drew ok _ (fun x hx => by have := hok x hx; simp; omega) (NodeC.mono (Same.of_below ((hF.alloc (by omega) _).drew) hok) (fun _ h => h) hN)
          have HI := Lib.hid hI
          clear hkt hkp hD hk4 hN hI tr hF
          go_wp2_with fail
          refine wp_region_seq (fun w' => w'.cell? ⟨w.heap.size + 1, 2, none⟩ = some (.slice A k c) ∧ w'.cell? ⟨wr.heap.size, 0, none⟩ = some (.string s1) ∧ w'.cell? ⟨wr.heap.size, 1, none⟩ = some (.slice A3 n3 c3) ∧ w'.cell? ⟨wr.heap.size, 2, none⟩ = some (.slice A4 n4 c4)) 11
            [(0, true), (1, true), (2, true), (3, true), (4, true), (5, true), (6, false), (7, false), (8, false), (9, true), (10, true), (11, false)] (by kernel_rfl) (by kernel_rfl) (by simp [go_sem, World.cell?_alloc_lt, c12, *]) ?_
          simp only [opsIn, List.map_cons, List.map_nil, List.getElem?_toArray, List.getElem?_cons_zero, List.getElem?_cons_succ, Option.getD_some, Nat.reduceBEq]
          iterate 6
            refine' Seq.quiet (by rfl) ?_ ?_
            rotate_left
            · rintro w' ⟨hS1, hS2, hS3, hS4⟩
              go_simp
              try with_reducible rfl
            try simp only [Act.put, List.setIfInBounds_toArray, List.set_cons_zero, List.set_cons_succ]
          refine Seq.eff ?_ ?_
          · rfl
          intro K hK
          go_simp
          refine HI.out.mono ?_
          rintro e w1 ⟨lt, rfl, her, hpn, hb, hnd, hfl⟩
          have s1z := hb.size
          simp at s1z
          have e0 : w1.cell? ⟨w.heap.size + 1, 2, none⟩ = some (.slice A k c) := (hb.cell (by simp; omega)).trans (by simp [go_sem, World.cell?_alloc_lt, c12, *])
          have e1 : w1.cell? ⟨wr.heap.size, 0, none⟩ = some (.string s1) := (hb.cell (by simp)).trans (by simp [go_sem])
          have e2 : w1.cell? ⟨wr.heap.size, 1, none⟩ = some (.slice A3 n3 c3) := (hb.cell (by simp)).trans (by simp [go_sem])
          have e3 : w1.cell? ⟨wr.heap.size, 2, none⟩ = some (.slice A4 n4 c4) := (hb.cell (by simp)).trans (by simp [go_sem])
          refine hK.out _ _ (.inr ⟨e0, e1, e2, e3⟩) ?_
          clear hK K
          try simp only [Act.put, List.setIfInBounds_toArray, List.set_cons_zero, List.set_cons_succ]
          refine Seq.eff ?_ ?_
          · rfl
          intro K hK
          go_simp
          have hb1 : w.heap.size + 1 < w1.heap.size := by omega
          have hb2 : wr.heap.size < w1.heap.size := by omega
          refine hK.out _ _ (.inr ⟨(World.cell?_alloc_lt _ _ _ hb1).trans e0, (World.cell?_alloc_lt _ _ _ hb2).trans e1, (World.cell?_alloc_lt _ _ _ hb2).trans e2, (World.cell?_alloc_lt _ _ _ hb2).trans e3⟩) ?_
          clear hK K
          try simp only [Act.put, List.setIfInBounds_toArray, List.set_cons_zero, List.set_cons_succ]
          refine Seq.eff ?_ ?_
          · rfl
          intro K hK
          refine wp_append_el el128 (.tmp 46) (.tmp 49) rfl (w.heap.size + 2) (.slice A k c) k (lts.map fun x => .pointer (some ⟨x.b, 0, none⟩)) rfl ((own_below hown hb).alloc _) (some ⟨w1.heap.size, 0, none⟩) 1 1 [.pointer (some ⟨lt.b, 0, none⟩)] rfl (by simp)
            ((Cs.new _ _ _).rd rfl) (by simp [Value.oneCell']) (by omega) (by omega) (by simp; omega) ?_
          intro v' w2 hown1 hgrow hnil hat
          obtain ⟨A', c', rfl⟩ := own_slice hown1
          clear hnil
          have s2z := hgrow.size
          simp at s2z
          have hrow : some wr.heap.size ≠ (Value.slice A k c).ownBlock := fun e => by have := (hown.lt _ e.symm).2; omega
          have hN2 : some (w.heap.size + 1) ≠ (Value.slice A k c).ownBlock := own_ne hown (by omega)
          have hk2 : ∀ b o, b < wr.heap.size + 1 → some b ≠ (Value.slice A k c).ownBlock → w2.cell? ⟨b, o, none⟩ = w1.cell? ⟨b, o, none⟩ := fun b o h1 h2 =>
            (World.cell?_of_block (a := ⟨b, o, none⟩) (hgrow.block b (by simp; omega) h2)).trans (World.cell?_alloc_lt _ _ _ (by simp; omega))
          have q2' := ((((Hq.out.2.alloc _).drew.below hb (by simp; omega)).alloc _).grown hgrow hN2)
          have hf11 : w2.frozen? ⟨w.heap.size + 1, 2, none⟩ = false := q2'.frozen 2
          have g0 : w2.cell? ⟨w.heap.size + 1, 2, none⟩ = some (.slice A k c) := (hk2 _ _ (by omega) hN2).trans e0
          refine hK.out _ _ (.inr ⟨g0, (hk2 _ _ (by omega) hrow).trans e1, (hk2 _ _ (by omega) hrow).trans e2, (hk2 _ _ (by omega) hrow).trans e3⟩) ?_
          clear hK K
          try simp only [Act.put, List.setIfInBounds_toArray, List.set_cons_zero, List.set_cons_succ]
          iterate 2
            refine' Seq.quiet (by rfl) ?_ ?_
            rotate_left
            · rintro w' ⟨hS1, hS2, hS3, hS4⟩
              go_simp
              try with_reducible rfl
            try simp only [Act.put, List.setIfInBounds_toArray, List.set_cons_zero, List.set_cons_succ]
          refine Seq.last ?_ ?_
          · rfl
          intro K hK
          go_simp
          refine hK.out _ _ ?_
          clear hK K
          obtain ⟨a1, a2, a3, a4, a5, a6, a7⟩ := app_frame (q := w.heap.size + 1) (j := 2) (u := .slice A' (k + 1) c') hown (by omega) hz hb hgrow hat
          have HFIN := Lib.hid (show GInv2 w name ps ks #[.string name, .slice Ap ps.length cp, .slice (some ⟨b, o, none⟩) ks.length ck] (k + 1) (w2.setCell ⟨w.heap.size + 1, 2, none⟩ (.slice A' (k + 1) c')) from ⟨A', c', lts ++ [lt], .slice Ap2 ps.length cp2, HF.out.trans (a7 _ (by omega)), by simp [World.setCell]; omega, Hq.out.1.keep (a5 _ (by omega) (by omega)), q2'.set_ 2 _,
            by rw [List.map_append]; exact ownsRow_setCell_below hown1 (a := ⟨w.heap.size + 1, 2, none⟩) (by simp) _,
            Hpr.out.mono a1 a2,
            by rw [List.map_append, Hm.out.1, List.take_succ_eq_append_getElem hlt, List.map_cons, List.map_nil, her],
            fun x hx => (List.mem_append.1 hx).elim (fun h => (Hm.out.2.1 x h).mono a1 a2) (fun h => by rw [List.mem_singleton.1 h]; exact hpn.mono a3 a4),
            by
              rw [List.flatMap_append]
              exact flat_snoc Hm.out.2.2.1 (by simpa using hnd) Hm.out.2.2.2 (fun x hx => by have := (hfl x (by simpa using hx)).1; simp at this; omega),
            fun x hx => by
              rw [List.flatMap_append] at hx
              rcases List.mem_append.1 hx with h | h
              · have := Hm.out.2.2.2 x h; simp [World.setCell]; omega
              · have := hfl x (by simpa using h); unfold Rng at this; simp [World.setCell] at this ⊢; omega⟩)
          clear a1 a2 a3 a4 a5 a6 a7 hpn hnd hfl hb hown1 hgrow hat q2' hk2
          go_wp2_with fail
          exact ⟨⟨k + 1, by omega, by go_num, HFIN.out⟩, by simp [intOf]; omega⟩
        · obtain rfl : k = ks.length := by omega
          clear hF
          go_wp2_with fail
          go_ret
          exact given_fin hns hk1 HF.out hz Hq.out.2 hown Hpr.out Hm.out
end Go.Proofs.Ytlbhadggfipckaa
