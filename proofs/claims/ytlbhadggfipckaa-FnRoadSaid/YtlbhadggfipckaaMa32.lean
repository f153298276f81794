/-
  impl.plain.
  impl.Parse's closure on the bytes of a tree.
-/
import Derived.Test.YtlbhadggfipckaaMa31
import Derived.Test.YtlbhadggfipckaaMa07
set_option linter.unusedVariables false
set_option linter.unusedSimpArgs false
namespace Go.Proofs.Ytlbhadggfipckaa
open Go.RowKit

theorem info124 : (Try.prog.info? 124).map (fun i => (i.zero, i.size, i.bytes)) = some (some (.agg #[.string ⟨#[]⟩, .slice none 0 0]), 2, 40) := by kernel_rfl
theorem info38 : (Try.prog.info? 38).map (fun i => (i.zero, i.size, i.bytes)) = some (some (.agg #[.string ⟨#[]⟩, .slice none 0 0, .slice none 0 0]), 3, 64) := by kernel_rfl
theorem el35 : Elem Try.prog 35 124 2 40 := by
  obtain ⟨i, hi, hz0, hz1, hz2⟩ := info_parts info124
  exact ⟨Try.underlying35, i, _, hi, hz0, hz1, hz2, rfl, by omega⟩
theorem el36 : Elem Try.prog 36 38 3 64 := by
  obtain ⟨i, hi, hz0, hz1, hz2⟩ := info_parts info38
  exact ⟨Try.underlying36, i, _, hi, hz0, hz1, hz2, rfl, by omega⟩

theorem own_below0 {w w' : World} {base n : Nat} {e : TypeId} {size : Nat} {v : Value} {xs : List Value} (h : w.ownsRow base e size v n xs) (hb : Below w.drew.heap.size w.drew w') : w'.ownsRow base e size v n xs :=
  own_keep (h.drew) fun g hg => hb.block g (h.lt g hg).2

theorem app_frame0 {wr w1 w2 : World} {lo q j : Nat} {o2 : Obj} {e : TypeId} {size n : Nat} {v v' u : Value} {xs : List Value} (hown : wr.ownsRow lo e size v n xs) (hq : q < lo) (hlo : lo ≤ wr.heap.size)
    (hb : Below wr.drew.heap.size wr.drew w1) (hgrow : (w1.alloc o2).grownBy w2 v.ownBlock) (hat : v'.ownBlock = v.ownBlock ∨ v'.ownBlock = some (w1.alloc o2).heap.size) :
    Same (OkR lo wr v.ownBlock) wr (w2.setCell ⟨q, j, none⟩ u) ∧ (∀ b, OkR lo wr v.ownBlock b → OkR lo (w2.setCell ⟨q, j, none⟩ u) v'.ownBlock b) ∧ Same (Rng wr.drew w1) w1 (w2.setCell ⟨q, j, none⟩ u) ∧
      (∀ b, Rng wr.drew w1 b → OkR lo (w2.setCell ⟨q, j, none⟩ u) v'.ownBlock b) ∧ (∀ b, b < lo → b ≠ q → (w2.setCell ⟨q, j, none⟩ u).heap[b]? = wr.heap[b]?) ∧ wr.heap.size ≤ w2.heap.size ∧ (∀ B, B ≤ q → Below B wr (w2.setCell ⟨q, j, none⟩ u)) := by
  have hW : wr.drew.heap.size = wr.heap.size := rfl
  have s1 := hb.size
  have s2 := hgrow.size
  have s2' : (w1.alloc o2).heap.size = w1.heap.size + 1 := by simp
  have hne : ∀ b, b < lo → some b ≠ v.ownBlock := fun b hb => own_ne hown hb
  have hg0 : ∀ b, wr.heap.size ≤ b → some b ≠ v.ownBlock := fun b hb e => by
    have := (hown.lt b e.symm).2
    omega
  have hg1 : ∀ b, b < w1.heap.size → some b ≠ v.ownBlock → some b ≠ v'.ownBlock := fun b hb h1 e => by
    rcases hat with h2 | h2
    · exact h1 (e.trans h2)
    · rw [h2] at e
      injection e with e
      omega
  have key : ∀ b, b < wr.heap.size → b ≠ q → some b ≠ v.ownBlock → (w2.setCell ⟨q, j, none⟩ u).heap[b]? = wr.heap[b]? := fun b h1 h2 h4 => by
    rw [Below.heap_setCell _ _ _ _ h2, hgrow.block b (by omega) h4, Below.heap_alloc _ _ _ (by omega), hb.block b (by omega)]
    rfl
  refine ⟨fun b hb => key b hb.2.1 (by have := hb.1; omega) hb.2.2, fun b hb => ⟨hb.1, ?_, hg1 b (by have := hb.2.1; omega) hb.2.2⟩, fun b hb => ?_, fun b hb => ⟨by have := hb.1; omega, ?_, hg1 b hb.2 (hg0 b (by have := hb.1; omega))⟩, fun b h1 h2 => key b (by omega) h2 (hne b h1), by omega, fun B hB => ?_⟩
  · have := hb.2.1
    simp [World.setCell]
    omega
  · have h1 := hb.1
    have h2 := hb.2
    rw [Below.heap_setCell _ _ _ _ (by simp; omega), hgrow.block b (by omega) (hg0 b (by omega)), Below.heap_alloc _ _ _ (by omega)]
  · have := hb.2
    simp [World.setCell]
    omega
  · exact ⟨hgrow.os.trans hb.os, hgrow.tape.trans hb.tape, hgrow.output.trans hb.output, by simp [World.setCell]; omega, fun b h1 => key b (by omega) (by omega) (hne b (by omega))⟩

def PlnPost (w : World) (n : Nd) (e : Ending) (w' : World) : Prop :=
  ∃ t : Value × Value × Value, e = .returned (.agg #[t.1, t.2.1, t.2.2]) ∧ NodeC w' (Rng w w') n t ∧ Below w.heap.size w w'

def LInv1 (w : World) (name : ByteArray) (ps : List Pr) (k : Nat) (wr : World) : Prop :=
  ∃ A c ts, Below w.heap.size w wr ∧ w.heap.size + 2 ≤ wr.heap.size ∧ Cs wr w.heap.size #[.string ⟨#[]⟩, .slice none 0 0, .slice none 0 0] ∧ Cs wr (w.heap.size + 1) #[.string name, .slice A k c, .slice none 0 0] ∧
    wr.ownsRow (w.heap.size + 2) 124 2 (.slice A k c) k (ts.flatMap duo) ∧ Each (PrC wr (OkR (w.heap.size + 2) wr (Value.slice A k c).ownBlock)) (ps.take k) ts

def LInv2 (w : World) (name : ByteArray) (ps : List Pr) (ks : List Nd) (k : Nat) (wr : World) : Prop :=
  ∃ A c ts vp, Below w.heap.size w wr ∧ w.heap.size + 2 ≤ wr.heap.size ∧ Cs wr w.heap.size #[.string ⟨#[]⟩, .slice none 0 0, .slice none 0 0] ∧ Cs wr (w.heap.size + 1) #[.string name, vp, .slice A k c] ∧
    wr.ownsRow (w.heap.size + 2) 38 3 (.slice A k c) k (ts.flatMap tri) ∧ PropsC wr (OkR (w.heap.size + 2) wr (Value.slice A k c).ownBlock) vp ps ∧ Each (NodeC wr (OkR (w.heap.size + 2) wr (Value.slice A k c).ownBlock)) (ks.take k) ts

theorem kids_of_own' {w : World} {base k c : Nat} {e : TypeId} {ok ok' : Nat → Prop} {A : Option Addr} {ks : List Nd} {ts : List (Value × Value × Value)} (h : w.ownsRow base e 3 (.slice A k c) k (ts.flatMap tri)) (hE : Each (NodeC w ok) ks ts) (hk : ks.length = k)
    (hl : ks.length * 64 ≤ 140737488351232) (ho : ∀ b, ok b → ok' b) (hg : ∀ g, (Value.slice A k c).ownBlock = some g → ok' g) : KidsC w ok' (.slice A k c) ks := by
  subst hk
  obtain ⟨h1, h2, h3⟩ := own_form h
  refine ⟨A, c, ts, rfl, hl, h1, h2, hE.imp fun _ _ h => h.mono (Same.refl ok w) ho, ?_⟩
  rcases h3 with h3 | ⟨g, rfl⟩
  · exact .inl (List.length_eq_zero_iff.1 h3)
  · exact .inr ⟨g, 0, rfl, hg g rfl, own_tri h⟩

set_option maxRecDepth 20000 in
set_option maxHeartbeats 4000000 in
theorem pln_walk (n : LT) : ∀ (w : World) (ok : Nat → Prop), (∀ k, ok k → k < w.heap.size) → PN w ok n → Calls Try.prog 52 #[.pointer (some ⟨n.b, 0, none⟩)] w (PlnPost w n.erase) := by
  refine LT.ind (P := fun n => ∀ (w : World) (ok : Nat → Prop), (∀ k, ok k → k < w.heap.size) → PN w ok n → Calls Try.prog 52 #[.pointer (some ⟨n.b, 0, none⟩)] w (PlnPost w n.erase)) ?_ n
  intro q name ps ks IH w ok hok hn
  obtain ⟨vp, Ak, ck, hqb, hns, hcs, hps, hk1, hk2, hk3, hkn, hk5⟩ := hn.open_
  obtain ⟨Ap, cp, ts, rfl, hp1, hp2, hp3, hp4, hp5⟩ := hps
  have hql : q < w.heap.size := hok q hqb
  have c0 : w.cell? ⟨q, 0, none⟩ = some (.string name) := (hcs.cell 0).trans rfl
  have c1 : w.cell? ⟨q, 1, none⟩ = some (.slice Ap ps.length cp) := (hcs.cell 1).trans rfl
  have Hcs := Lib.hid hcs
  have Hp4 := Lib.hid hp4
  have Hp5 := Lib.hid hp5
  have Hkn := Lib.hid hkn
  have Hk5 := Lib.hid hk5
  have IH := Lib.hid IH
  clear hp4 hp5 hkn hk5 hn hcs
  show Calls Try.prog 52 #[.pointer (some ⟨q, 0, none⟩)] w _
  go_enter Try.func52, Try.ntmps52
  go_wp2_with fail
  go_loopw [18] (fun i wr => ∃ k : Nat, k ≤ ps.length ∧ i = .int .i64 k ∧ LInv1 w name ps k wr) (fun i _ => ps.length - (intOf i).toNat)
  case atStart =>
    exact ⟨0, by omega, by go_num, none, 0, [], ((Below.refl _ _).alloc (by omega) _).alloc (by simp) _, by simp, (Cs.new' _ _ _ _ rfl).alloc _, Cs.new' _ _ _ _ (by simp), ⟨by simp, .inl ⟨rfl, rfl⟩⟩, Each.nil⟩
  case round =>
    obtain ⟨k, hk, rfl, A, c, ts', hF, hz, q1, q2, hown, hE⟩ := hrel
    have z1 := q1.lt
    have z2 := q2.lt
    by_cases hlt : k < ps.length
    · have hne : ps ≠ [] := by rintro rfl; simp at hlt
      obtain ⟨b, o, rfl, hob, hD⟩ := Hp5.out.resolve_left hne
      have hp4 := Hp4.out
      have hkp : ps[k]? = some ps[k] := List.getElem?_eq_getElem hlt
      have hlt2 : k < ts.length := by rw [← hp4.1]; exact hlt
      have hkt : ts[k]? = some (ts[k]'hlt2) := List.getElem?_eq_getElem hlt2
      obtain ⟨e1, pn, hval⟩ := hp4.2 k _ _ hkp hkt
      obtain ⟨Av, cv, e3, v1, v2, v3, v4⟩ := id hval
      obtain ⟨d1, d2⟩ := hD k _ hkt
      have hbo := hok b hob
      have tr : ∀ y, w.cell? ⟨b, y, none⟩ = wr.cell? ⟨b, y, none⟩ := fun y => (World.cell?_of_block (a := ⟨b, y, none⟩) (hF.block b hbo)).symm
      rw [e3] at hval
      rw [tr, e1] at d1
      rw [tr, e3] at d2
      have v4s : SlB wr (.slice Av ps[k].val.length cv) ps[k].val := (hval.mono (Same.of_below hF hok) (fun _ h => h)).slB
      generalize hpk : ps[k] = pk at *
      clear e1 e3 hkt hkp hD hp4 v4 tr hval
      have Hpk := Lib.hid hpk
      have HF := Lib.hid hF
      have HE := Lib.hid hE
      have Hq := Lib.hid (And.intro q1 q2)
      have c11 := q2.cell 1
      have f11 := q2.frozen 1
      simp at c11
      have hbl : b < wr.heap.size := by omega
      have hki : (0 : Int) ≤ (k : Int) := by omega
      clear hpk hF hE q1 q2 c0 c1
      go_wp2_with fail
      refine wp_region_plan (fun w' => w'.cell? ⟨w.heap.size + 1, 1, none⟩ = some (.slice A k c) ∧ w'.cell? ⟨wr.heap.size, 0, none⟩ = some (.string pk.name) ∧ w'.cell? ⟨wr.heap.size, 1, none⟩ = some (.slice Av pk.val.length cv)) 11 (.quiet 0 (.quiet 1 (.quiet 2 (.quiet 3 (.quiet 4 (.quiet 5 (.eff 6 (.quiet 7 (.eff 8 (.eff 9 (.quiet 10 (.eff 11 .done)))))))))))) (by kernel_rfl) (by kernel_rfl) (by simp [go_sem, World.cell?_alloc_lt, c11, *]) ?_
      simp only [planO, opAt, List.getElem?_toArray, List.getElem?_cons_zero, List.getElem?_cons_succ, Option.getD_some, Nat.reduceBEq]
      iterate 6
        refine' SeqT.quiet (by rfl) ?_ ?_
        rotate_left
        · rintro w' ⟨hS1, hS2, hS3⟩
          go_simp
          try with_reducible rfl
        try simp only [Act.put, List.setIfInBounds_toArray, List.set_cons_zero, List.set_cons_succ]
      refine SeqT.eff ?_ ?_
      · rfl
      intro K hK
      go_simp
      refine (clone_any _ (.slice Av pk.val.length cv) pk.val (v4s.below (((Below.refl wr.heap.size wr).alloc (Nat.le_refl _) _).drew)) (by omega)).mono ?_
      rintro e w1 ⟨v, rfl, hv, hb⟩
      obtain ⟨A5, c5, rfl⟩ := own_slice hv
      have s1z := hb.size
      simp at s1z
      have e0 : w1.cell? ⟨w.heap.size + 1, 1, none⟩ = some (.slice A k c) := (hb.cell (by simp; omega)).trans (by simp [go_sem, World.cell?_alloc_lt, c11, *])
      have e1 : w1.cell? ⟨wr.heap.size, 0, none⟩ = some (.string pk.name) := (hb.cell (by simp)).trans (by simp [go_sem])
      have e2 : w1.cell? ⟨wr.heap.size, 1, none⟩ = some (.slice Av pk.val.length cv) := (hb.cell (by simp)).trans (by simp [go_sem])
      have hb1 : w.heap.size + 1 < w1.heap.size := by omega
      have hb2 : wr.heap.size < w1.heap.size := by omega
      refine hK.out _ _ (.inr ⟨e0, e1, e2⟩) ?_
      clear hK K
      try simp only [Act.put, List.setIfInBounds_toArray, List.set_cons_zero, List.set_cons_succ]
      refine' SeqT.quiet (by rfl) ?_ ?_
      rotate_left
      · rintro w' ⟨hS1, hS2, hS3⟩
        go_simp
        try with_reducible rfl
      try simp only [Act.put, List.setIfInBounds_toArray, List.set_cons_zero, List.set_cons_succ]
      refine SeqT.eff ?_ ?_
      · rfl
      intro K hK
      go_simp
      refine hK.out _ _ (.inr ⟨(World.cell?_alloc_lt _ _ _ hb1).trans e0, (World.cell?_alloc_lt _ _ _ hb2).trans e1, (World.cell?_alloc_lt _ _ _ hb2).trans e2⟩) ?_
      clear hK K
      try simp only [Act.put, List.setIfInBounds_toArray, List.set_cons_zero, List.set_cons_succ]
      refine SeqT.eff ?_ ?_
      · rfl
      intro K hK
      refine wp_append_el el35 (.tmp 23) (.tmp 30) rfl (w.heap.size + 2) (.slice A k c) k (ts'.flatMap duo) rfl ((own_below hown hb).alloc _) (some ⟨w1.heap.size, 0, none⟩) 1 1 [.string pk.name, .slice A5 pk.val.length c5] rfl (by simp) ((Cs.new _ _ _).rd rfl) (by simp [Value.oneCell']) (by omega) (by omega) (by simp; omega) ?_
      intro v' w2 hown1 hgrow hnil hat
      obtain ⟨A', c', rfl⟩ := own_slice hown1
      clear hnil
      have s2z := hgrow.size
      simp at s2z
      have hrow : some wr.heap.size ≠ (Value.slice A k c).ownBlock := fun e => by have := (hown.lt _ e.symm).2; omega
      have hN2 : some (w.heap.size + 1) ≠ (Value.slice A k c).ownBlock := own_ne hown (by omega)
      have hk2 : ∀ b o, b < wr.heap.size + 1 → some b ≠ (Value.slice A k c).ownBlock → w2.cell? ⟨b, o, none⟩ = w1.cell? ⟨b, o, none⟩ := fun b o h1 h2 => (World.cell?_of_block (a := ⟨b, o, none⟩) (hgrow.block b (by simp; omega) h2)).trans (World.cell?_alloc_lt _ _ _ (by simp; omega))
      have q2' := ((((Hq.out.2.alloc _).drew.below hb (by simp; omega)).alloc _).grown hgrow hN2)
      have hf11 : w2.frozen? ⟨w.heap.size + 1, 1, none⟩ = false := q2'.frozen 1
      have g0 : w2.cell? ⟨w.heap.size + 1, 1, none⟩ = some (.slice A k c) := (hk2 _ _ (by omega) hN2).trans e0
      refine hK.out _ _ (.inr ⟨g0, (hk2 _ _ (by omega) hrow).trans e1, (hk2 _ _ (by omega) hrow).trans e2⟩) ?_
      clear hK K
      try simp only [Act.put, List.setIfInBounds_toArray, List.set_cons_zero, List.set_cons_succ]
      refine' SeqT.quiet (by rfl) ?_ ?_
      rotate_left
      · rintro w' ⟨hS1, hS2, hS3⟩
        go_simp
        try with_reducible rfl
      try simp only [Act.put, List.setIfInBounds_toArray, List.set_cons_zero, List.set_cons_succ]
      refine SeqT.last ?_ ?_
      · rfl
      intro K hK
      go_simp
      refine hK.out _ _ ?_
      clear hK K
      obtain ⟨a1, a2, a3, a4, a5, a6, a7⟩ := app_frame (q := w.heap.size + 1) (j := 1) (u := .slice A' (k + 1) c') hown (by omega) hz hb hgrow hat
      have HFIN := Lib.hid (show LInv1 w name ps (k + 1) (w2.setCell ⟨w.heap.size + 1, 1, none⟩ (.slice A' (k + 1) c')) from ⟨A', c', ts' ++ [(.string pk.name, .slice A5 pk.val.length c5)], HF.out.trans (a7 _ (by omega)), by simp [World.setCell]; omega, Hq.out.1.keep (a5 _ (by omega) (by omega)), q2'.set_ 1 _,
        by rw [List.flatMap_append]; exact ownsRow_setCell_below hown1 (a := ⟨w.heap.size + 1, 1, none⟩) (by simp) _,
        by
          rw [List.take_succ_eq_append_getElem hlt, Hpk.out]
          exact (HE.out.imp fun _ _ h => h.mono a1 a2).snoc ⟨rfl, pn, (valC_of_own hv (by omega) (fun g hg => hv.lt g hg)).mono a3 a4⟩⟩)
      clear a1 a2 a3 a4 a5 a6 a7 hv hb hown1 hgrow hat q2' hk2
      go_wp2_with fail
      exact ⟨⟨k + 1, by omega, by go_num, HFIN.out⟩, by simp [intOf]; omega⟩
    · obtain rfl : k = ps.length := by omega
      obtain ⟨wo, rfl⟩ : ∃ wo : World, wo = wr := ⟨_, rfl⟩
      rw [List.take_length] at hE
      have hcq := Hcs.out.below hF hql
      have c02 : wo.cell? ⟨q, 2, none⟩ = some (.slice Ak ks.length ck) := (hcq.cell 2).trans rfl
      have hpr : PropsC wo (OkR (w.heap.size + 2) wo none) (.slice A ps.length c) ps := props_of_own70 hown hE rfl hp1 (fun b hb => ⟨hb.1, hb.2.1, by simp⟩) (fun g hg => ⟨(hown.lt g hg).1, (hown.lt g hg).2, by simp⟩)
      have HF := Lib.hid hF
      have Hpr := Lib.hid hpr
      have Hq := Lib.hid (And.intro q1 q2)
      clear hF hE q1 q2 hpr hown hcq c0 c1
      go_wp2_with fail
      go_loopw [39] (fun i wr => ∃ k : Nat, k ≤ ks.length ∧ i = .int .i64 k ∧ LInv2 w name ps (eraseL ks) k wr) (fun i _ => ks.length - (intOf i).toNat)
      case atStart =>
        exact ⟨0, by omega, by go_num, none, 0, [], .slice A ps.length c, HF.out, hz, Hq.out.1, Hq.out.2, World.ownsRow_nil _ _ _ _, Hpr.out, Each.nil⟩
      case round =>
        clear HF Hpr Hq c02 hz z1 z2
        obtain ⟨k, hk, rfl, A, c, ts', vp, hF, hz, q1, q2, hown, hpr, hm⟩ := hrel
        obtain ⟨Ap2, cp2, -, rfl, -⟩ := id hpr
        have z1 := q1.lt
        have z2 := q2.lt
        have HF := Lib.hid hF
        have Hpr := Lib.hid hpr
        have Hm := Lib.hid hm
        have Hq := Lib.hid (And.intro q1 q2)
        have c12 : wr.cell? ⟨w.heap.size + 1, 2, none⟩ = some (.slice A k c) := (q2.cell 2).trans rfl
        have f12 := q2.frozen 2
        by_cases hlt : k < ks.length
        · have hne : ks ≠ [] := by rintro rfl; simp at hlt
          obtain ⟨b, o, rfl, hob, hD⟩ := Hk5.out.resolve_left hne
          have hkp : ks[k]? = some ks[k] := List.getElem?_eq_getElem hlt
          have hN := Hkn.out ks[k] (List.getElem_mem hlt)
          have d1 := hD k _ hkp
          have hbo := hok b hob
          have tr : ∀ x, w.cell? ⟨b, x, none⟩ = wr.cell? ⟨b, x, none⟩ := fun x => (World.cell?_of_block (a := ⟨b, x, none⟩) (hF.block b hbo)).symm
          rw [tr] at d1
          have hki : (0 : Int) ≤ (k : Int) := by omega
          have HI := Lib.hid (IH.out ks[k] (List.getElem_mem hlt) wr.drew ok (fun x hx => by have := hok x hx; simp; omega) (hN.mono (w' := wr.drew) (fun x hx => hF.block x (hok x hx)) (fun _ h => h)))
          have hek : (eraseL ks)[k]? = some ks[k].erase := by rw [eraseL_eq, List.getElem?_map, hkp]; rfl
          have Hek := Lib.hid hek
          generalize ks[k] = kk at *
          clear hkp hN tr hF hpr hm q1 q2 hD hek
          go_wp2_with fail
          refine wp_region_plan (fun w' => w'.cell? ⟨w.heap.size + 1, 2, none⟩ = some (.slice A k c)) 7 (.quiet 0 (.quiet 1 (.quiet 2 (.eff 3 (.eff 4 (.eff 5 (.quiet 6 (.eff 7 .done)))))))) (by kernel_rfl) (by kernel_rfl) c12 ?_
          simp only [planO, opAt, List.getElem?_toArray, List.getElem?_cons_zero, List.getElem?_cons_succ, Option.getD_some, Nat.reduceBEq]
          iterate 3
            refine' SeqT.quiet (by rfl) ?_ ?_
            rotate_left
            · rintro w' hS1
              go_simp
              try with_reducible rfl
            try simp only [Act.put, List.setIfInBounds_toArray, List.set_cons_zero, List.set_cons_succ]
          refine SeqT.eff ?_ ?_
          · rfl
          intro K hK
          go_simp
          refine HI.out.mono ?_
          rintro e w1 ⟨t1, rfl, hN1, hb⟩
          have s1z := hb.size
          simp at s1z
          have e0 : w1.cell? ⟨w.heap.size + 1, 2, none⟩ = some (.slice A k c) := (hb.cell (by simp; omega)).trans c12
          have hb1 : w.heap.size + 1 < w1.heap.size := by omega
          obtain ⟨s1, B3, m3, d3, B4, m4, d4, rfl⟩ := hN1.form
          refine hK.out _ _ (.inr e0) ?_
          clear hK K
          try simp only [Act.put, List.setIfInBounds_toArray, List.set_cons_zero, List.set_cons_succ]
          refine SeqT.eff ?_ ?_
          · rfl
          intro K hK
          go_simp
          refine hK.out _ _ (.inr ((World.cell?_alloc_lt _ _ _ hb1).trans e0)) ?_
          clear hK K
          try simp only [Act.put, List.setIfInBounds_toArray, List.set_cons_zero, List.set_cons_succ]
          refine SeqT.eff ?_ ?_
          · rfl
          intro K hK
          refine wp_append_el el36 (.tmp 44) (.tmp 47) rfl (w.heap.size + 2) (.slice A k c) k (ts'.flatMap tri) rfl ((own_below0 hown hb).alloc _) (some ⟨w1.heap.size, 0, none⟩) 1 1 [.string s1, .slice B3 m3 d3, .slice B4 m4 d4] rfl (by simp) ((Cs.new _ _ _).rd rfl) (by simp [Value.oneCell']) (by omega) (by omega) (by simp; omega) ?_
          intro v' w2 hown1 hgrow hnil hat
          obtain ⟨A', c', rfl⟩ := own_slice hown1
          clear hnil
          have s2z := hgrow.size
          simp at s2z
          have hN2 : some (w.heap.size + 1) ≠ (Value.slice A k c).ownBlock := own_ne hown (by omega)
          have q2' := ((((Hq.out.2).drew.below hb (by simp; omega)).alloc _).grown hgrow hN2)
          have hf11 : w2.frozen? ⟨w.heap.size + 1, 2, none⟩ = false := q2'.frozen 2
          have g0 : w2.cell? ⟨w.heap.size + 1, 2, none⟩ = some (.slice A k c) := (q2'.cell 2).trans rfl
          refine hK.out _ _ (.inr g0) ?_
          clear hK K
          try simp only [Act.put, List.setIfInBounds_toArray, List.set_cons_zero, List.set_cons_succ]
          refine' SeqT.quiet (by rfl) ?_ ?_
          rotate_left
          · rintro w' hS1
            go_simp
            try with_reducible rfl
          try simp only [Act.put, List.setIfInBounds_toArray, List.set_cons_zero, List.set_cons_succ]
          refine SeqT.last ?_ ?_
          · rfl
          intro K hK
          go_simp
          refine hK.out _ _ ?_
          clear hK K
          obtain ⟨a1, a2, a3, a4, a5, a6, a7⟩ := app_frame0 (q := w.heap.size + 1) (j := 2) (u := .slice A' (k + 1) c') hown (by omega) hz hb hgrow hat
          have hlt3 : k < (eraseL ks).length := by rw [eraseL_eq, List.length_map]; exact hlt
          have HFIN := Lib.hid (show LInv2 w name ps (eraseL ks) (k + 1) (w2.setCell ⟨w.heap.size + 1, 2, none⟩ (.slice A' (k + 1) c')) from ⟨A', c', ts' ++ [(.string s1, .slice B3 m3 d3, .slice B4 m4 d4)], .slice Ap2 ps.length cp2, HF.out.trans (a7 _ (by omega)), by simp [World.setCell]; omega, Hq.out.1.keep (a5 _ (by omega) (by omega)), q2'.set_ 2 _,
            by rw [List.flatMap_append]; exact ownsRow_setCell_below hown1 (a := ⟨w.heap.size + 1, 2, none⟩) (by simp) _,
            Hpr.out.mono a1 a2,
            by
              rw [List.take_succ_eq_append_getElem hlt3, show (eraseL ks)[k] = kk.erase from Option.some.inj ((List.getElem?_eq_getElem hlt3).symm.trans Hek.out)]
              exact (Hm.out.imp fun _ _ h => h.mono a1 a2).snoc (hN1.mono a3 a4)⟩)
          clear a1 a2 a3 a4 a5 a6 a7 hN1 hb hown1 hgrow hat q2'
          go_wp2_with fail
          exact ⟨⟨k + 1, by omega, by go_num, HFIN.out⟩, by simp [intOf]; omega⟩
        · obtain rfl : k = ks.length := by omega
          have e0 : wr.cell? ⟨w.heap.size + 1, 0, none⟩ = some (.string name) := (q2.cell 0).trans rfl
          have e1 : wr.cell? ⟨w.heap.size + 1, 1, none⟩ = some (.slice Ap2 ps.length cp2) := (q2.cell 1).trans rfl
          have y0 : wr.cell? ⟨w.heap.size, 0, none⟩ = some (.string ⟨#[]⟩) := (q1.cell 0).trans rfl
          have y1 : wr.cell? ⟨w.heap.size, 1, none⟩ = some (.slice none 0 0) := (q1.cell 1).trans rfl
          have y2 : wr.cell? ⟨w.heap.size, 2, none⟩ = some (.slice none 0 0) := (q1.cell 2).trans rfl
          have fz0 := q1.frozen 0
          have fz1 := q1.frozen 1
          have fz2 := q1.frozen 2
          have q7 := ((q1.set_ 0 (.string name)).set_ 1 (.slice Ap2 ps.length cp2)).set_ 2 (.slice A ks.length c)
          simp only [List.setIfInBounds_toArray, List.set_cons_zero, List.set_cons_succ] at q7
          have hlen : (eraseL ks).length = ks.length := by rw [eraseL_eq, List.length_map]
          have hm' : Each (NodeC wr (OkR (w.heap.size + 2) wr (Value.slice A ks.length c).ownBlock)) (eraseL ks) ts' := by
            have := hm
            rw [List.take_of_length_le (Nat.le_of_eq hlen)] at this
            exact this
          have hB7 := ((hF.setCell (p := ⟨w.heap.size, 0, none⟩) (Nat.le_refl _) (.string name)).setCell (p := ⟨w.heap.size, 1, none⟩) (Nat.le_refl _) (.slice Ap2 ps.length cp2)).setCell (p := ⟨w.heap.size, 2, none⟩) (Nat.le_refl _) (.slice A ks.length c)
          have hsm : Same (OkR (w.heap.size + 2) wr none) wr (((wr.setCell ⟨w.heap.size, 0, none⟩ (.string name)).setCell ⟨w.heap.size, 1, none⟩ (.slice Ap2 ps.length cp2)).setCell ⟨w.heap.size, 2, none⟩ (.slice A ks.length c)) := fun k hk => by
            have := hk.1
            rw [Below.heap_setCell _ _ _ _ (by show k ≠ w.heap.size; omega), Below.heap_setCell _ _ _ _ (by show k ≠ w.heap.size; omega), Below.heap_setCell _ _ _ _ (by show k ≠ w.heap.size; omega)]
          have hkc : KidsC wr (OkR (w.heap.size + 2) wr none) (.slice A ks.length c) (eraseL ks) := kids_of_own' (ok := OkR (w.heap.size + 2) wr (Value.slice A ks.length c).ownBlock) hown hm' hlen (by rw [hlen]; exact hk1) (fun b hb => ⟨hb.1, hb.2.1, by simp⟩) (fun g hg => ⟨(hown.lt g hg).1, (hown.lt g hg).2, by simp⟩)
          have hnc : NodeC wr (OkR (w.heap.size + 2) wr none) (.mk name ps (eraseL ks)) (.string name, .slice Ap2 ps.length cp2, .slice A ks.length c) := NodeC.shut hns (hpr.mono (Same.refl _ _) (fun b hb => ⟨hb.1, hb.2.1, by simp⟩)) hkc
          have HFIN := Lib.hid (And.intro hB7 (hnc.mono hsm (ok' := Rng w (((wr.setCell ⟨w.heap.size, 0, none⟩ (.string name)).setCell ⟨w.heap.size, 1, none⟩ (.slice Ap2 ps.length cp2)).setCell ⟨w.heap.size, 2, none⟩ (.slice A ks.length c))) (fun b hb => ⟨by have := hb.1; omega, by have := hb.2.1; simp [World.setCell]; omega⟩)))
          have Hq7 := Lib.hid q7
          clear hF hpr hm hm' q1 q2 hB7 hsm hkc hnc q7 hown
          go_wp2_with fail
          have q7 := Hq7.out
          have hfin := HFIN.out
          revert q7 hfin
          generalize ((wr.setCell ⟨w.heap.size, 0, none⟩ (.string name)).setCell ⟨w.heap.size, 1, none⟩ (.slice Ap2 ps.length cp2)).setCell ⟨w.heap.size, 2, none⟩ (.slice A ks.length c) = W7
          intro q7 hfin
          have k0 : W7.cell? ⟨w.heap.size, 0, none⟩ = some (.string name) := (q7.cell 0).trans rfl
          have k1 : W7.cell? ⟨w.heap.size, 1, none⟩ = some (.slice Ap2 ps.length cp2) := (q7.cell 1).trans rfl
          have k2 : W7.cell? ⟨w.heap.size, 2, none⟩ = some (.slice A ks.length c) := (q7.cell 2).trans rfl
          refine bodyPost_ret (v := .agg #[.string name, .slice Ap2 ps.length cp2, .slice A ks.length c]) (by simp [results, Try.results52, go_sem, k0, k1, k2]) rfl ?_
          exact ⟨_, rfl, hfin.2, hfin.1⟩
end Go.Proofs.Ytlbhadggfipckaa

set_option linter.unusedVariables false
set_option linter.unusedSimpArgs false
namespace Go.Proofs.Ytlbhadggfipckaa
open Go.RowKit

theorem info80 : (Try.prog.info? 80).map (fun i => (i.zero, i.size, i.bytes)) = some (some (.agg #[.int .u64 0, .int .u64 0]), 2, 16) := by kernel_rfl
theorem el34 : Elem Try.prog 34 80 2 16 := by
  obtain ⟨i, hi, hz0, hz1, hz2⟩ := info_parts info80
  exact ⟨Try.underlying34, i, _, hi, hz0, hz1, hz2, rfl, by omega⟩

theorem rooms_of_own' {w : World} {base k c : Nat} {e : TypeId} {ok' : Nat → Prop} {A : Option Addr} {rs : List (Int × Int)} (h : w.ownsRow base e 2 (.slice A k c) k ((rs.map roomC).flatMap duo)) (hk : rs.length = k)
    (hl : rs.length * 16 ≤ 140737488351232) (hr : ∀ r ∈ rs, 0 ≤ r.1 ∧ r.1 ≤ 18446744073709551615 ∧ 0 ≤ r.2 ∧ r.2 ≤ 18446744073709551615) (hg : ∀ g, (Value.slice A k c).ownBlock = some g → ok' g) : RoomsC w ok' (.slice A k c) rs := by
  subst hk
  obtain ⟨h1, h2, h3⟩ := own_form h
  refine ⟨A, c, rfl, hl, h1, h2, hr, ?_⟩
  rcases h3 with h3 | ⟨g, rfl⟩
  · exact .inl (List.length_eq_zero_iff.1 h3)
  · exact .inr ⟨g, 0, rfl, hg g rfl, own_duo h⟩

def Parse1Post (w : World) (p1 bt : Nat) (rs : List (Nat × Nat)) (root : Nd) (e : Ending) (w' : World) : Prop :=
  e = .returned (.bool true) ∧ Fr w.heap.size (· = p1) w w' ∧ ∃ cs, Cs w' p1 cs ∧ TreeC w' (Rng w w') ⟨17, 16, (bt : Int), rs.map castR, root⟩ cs

set_option maxRecDepth 20000 in
set_option maxHeartbeats 4000000 in
theorem parse1_ok (w : World) (p0 p1 : Nat) (v : Value) (dt : List UInt8) (h0 : Cs w p0 #[v]) (hv : SlB w v dt) (hl : dt.length ≤ 100000000) (bt : Nat) (rs : List (Nat × Nat)) (root : Nd) (hgood : GoodB dt bt rs root)
    (h1 : Cs w p1 #[.int .i64 0, .int .i64 0, .int .i64 0, .slice none 0 0, .string ⟨#[]⟩, .slice none 0 0, .slice none 0 0]) :
    Calls Try.prog 50 #[.pointer (some ⟨p0, 0, none⟩), .pointer (some ⟨p1, 0, none⟩)] w (Parse1Post w p1 bt rs root) := by
  have c0 := h0.cell 0
  simp at c0
  obtain ⟨A0, c0', rfl, q1, q2, q3⟩ := id hv
  have HC := Lib.hid (clone_any w _ dt hv (by omega))
  have Hg := Lib.hid hgood
  have hbt4 := hgood.bt4
  have hrl5 := hgood.rl
  have Hp := Lib.hid h1
  have hp1w := h1.lt
  clear h0 hv hgood q3 h1
  go_enter Try.func50, Try.ntmps50
  go_wp2_with fail
  refine HC.out.mono ?_
  rintro e w1 ⟨v1, rfl, hown, hb1⟩
  obtain ⟨A1, c1, rfl⟩ := own_slice hown
  have HZ := Lib.hid (zread_ok w1 A1 c1 dt w.heap.size hown hl bt rs root Hg.out)
  have HB := Lib.hid hb1
  have hz1 := hb1.size
  clear hown hb1
  go_wp2_with fail
  refine HZ.out.mono ?_
  rintro e w2 ⟨f, hf, rfl, ⟨n0, n1, n2, n3, n4, n8, n9, Ar, cr, lt, a1, a2, a3, a4⟩, hf2⟩
  have hz2 := hf2.size
  have hfl := a1.lt
  have x5 : w2.cell? ⟨f, 5, none⟩ = some (.int .u32 (17 : Nat)) := (a1.cell 5).trans rfl
  have x6 : w2.cell? ⟨f, 6, none⟩ = some (.int .u32 (16 : Nat)) := (a1.cell 6).trans rfl
  have x7 : w2.cell? ⟨f, 7, none⟩ = some (.int .u32 (bt : Nat)) := (a1.cell 7).trans rfl
  have x11 : w2.cell? ⟨f, 11, none⟩ = some (.pointer (some ⟨lt.b, 0, none⟩)) := (a1.cell 11).trans rfl
  have hw17 : IntKind.i64.wrap 17 = 17 := by rfl
  have hw16 : IntKind.i64.wrap 16 = 16 := by rfl
  have hwb : IntKind.i64.wrap (bt : Int) = (bt : Int) := by simp only [IntKind.wrap, IntKind.bits, IntKind.signed]; simp; omega
  have HP := Lib.hid (pln_walk lt w2.drew (Rng w1 w2) (fun k hk => hk.2) (a4.mono (w := w2) (w' := w2.drew) (ok := Rng w1 w2) (ok' := Rng w1 w2) (fun _ _ => rfl) (fun _ h => h)))
  have hFw2 : Fr w.heap.size (· = p1) w w2 := (Fr.of_below HB.out).trans (hf2.mono hz1 (fun k hk h => by omega))
  have hp1' : Cs w2 p1 #[.int .i64 0, .int .i64 0, .int .i64 0, .slice none 0 0, .string ⟨#[]⟩, .slice none 0 0, .slice none 0 0] := (Hp.out.below HB.out hp1w).fr2 hf2 (fun h => by omega)
  have Hp1 := Lib.hid hp1'.drew
  have hp1l := hp1'.lt
  have H2 := Lib.hid (And.intro a1 (And.intro a2 (And.intro a3 hFw2)))
  clear a1 a2 a3 a4 hf2 hFw2 hp1'
  go_wp2_with fail
  refine wp_region_plan (fun w' => w'.cell? ⟨f, 5, none⟩ = some (.int .u32 (17 : Nat)) ∧ w'.cell? ⟨f, 6, none⟩ = some (.int .u32 (16 : Nat)) ∧ w'.cell? ⟨f, 7, none⟩ = some (.int .u32 (bt : Nat)) ∧ w'.cell? ⟨f, 11, none⟩ = some (.pointer (some ⟨lt.b, 0, none⟩))) 24 (.quiet 0 (.quiet 1 (.quiet 2 (.quiet 3 (.quiet 4 (.quiet 5 (.quiet 6 (.quiet 7 (.quiet 8 (.quiet 9 (.quiet 10 (.quiet 11 (.quiet 12 (.quiet 13 (.quiet 14 (.quiet 15 (.quiet 16 (.quiet 17 (.quiet 18 (.quiet 19 (.quiet 20 (.quiet 21 (.eff 22 (.quiet 23 (.eff 24 .done))))))))))))))))))))))))) (by kernel_rfl) (by kernel_rfl) ⟨x5, x6, x7, x11⟩ ?_
  simp only [planO, opAt, List.getElem?_toArray, List.getElem?_cons_zero, List.getElem?_cons_succ, Option.getD_some, Nat.reduceBEq]
  iterate 22
    refine' SeqT.quiet (by rfl) ?_ ?_
    rotate_left
    · rintro w' ⟨hS1, hS2, hS3, hS4⟩
      go_simp
      try with_reducible rfl
    try simp only [Act.put, List.setIfInBounds_toArray, List.set_cons_zero, List.set_cons_succ]
  refine SeqT.eff ?_ ?_
  · rfl
  intro K hK
  go_simp
  refine HP.out.mono ?_
  rintro e w3 ⟨t1, rfl, hN1, hb3⟩
  obtain ⟨s1, B3, m3, d3, B4, m4, d4, rfl⟩ := hN1.form
  have y5 : w3.cell? ⟨f, 5, none⟩ = some (.int .u32 (17 : Nat)) := (hb3.cell (by exact hfl)).trans x5
  have y6 : w3.cell? ⟨f, 6, none⟩ = some (.int .u32 (16 : Nat)) := (hb3.cell (by exact hfl)).trans x6
  have y7 : w3.cell? ⟨f, 7, none⟩ = some (.int .u32 (bt : Nat)) := (hb3.cell (by exact hfl)).trans x7
  have y11 : w3.cell? ⟨f, 11, none⟩ = some (.pointer (some ⟨lt.b, 0, none⟩)) := (hb3.cell (by exact hfl)).trans x11
  have qp3 := Hp1.out.below hb3 (by exact hp1l)
  obtain ⟨j0, j1, j2, j3, j4, j5, j6⟩ := cells7 qp3
  have jf0 := qp3.frozen 0
  have jf1 := qp3.frozen 1
  have jf2 := qp3.frozen 2
  have jf3 := qp3.frozen 3
  have jf4 := qp3.frozen 4
  have jf5 := qp3.frozen 5
  have jf6 := qp3.frozen 6
  refine hK.out _ _ (.inr ⟨y5, y6, y7, y11⟩) ?_
  clear hK K
  try simp only [Act.put, List.setIfInBounds_toArray, List.set_cons_zero, List.set_cons_succ]
  refine' SeqT.quiet (by rfl) ?_ ?_
  rotate_left
  · rintro w' ⟨hS1, hS2, hS3, hS4⟩
    go_simp
    try with_reducible rfl
  try simp only [Act.put, List.setIfInBounds_toArray, List.set_cons_zero, List.set_cons_succ]
  refine SeqT.last ?_ ?_
  · rfl
  intro K hK
  go_simp
  refine hK.out _ _ ?_
  clear hK K
  obtain ⟨W3, hW3⟩ : ∃ W3, W3 = ((((((w3.setCell ⟨p1, 0, none⟩ (.int .i64 17)).setCell ⟨p1, 1, none⟩ (.int .i64 16)).setCell ⟨p1, 2, none⟩ (.int .i64 (bt : Int))).setCell ⟨p1, 3, none⟩ (.slice none 0 0)).setCell ⟨p1, 4, none⟩ (.string s1)).setCell ⟨p1, 5, none⟩ (.slice B3 m3 d3)).setCell ⟨p1, 6, none⟩ (.slice B4 m4 d4) := ⟨_, rfl⟩
  rw [← hW3]
  have hq3 : Cs W3 p1 #[.int .i64 17, .int .i64 16, .int .i64 (bt : Int), .slice none 0 0, .string s1, .slice B3 m3 d3, .slice B4 m4 d4] := by
    rw [hW3]
    have := ((((((qp3.set_ 0 (.int .i64 17)).set_ 1 (.int .i64 16)).set_ 2 (.int .i64 (bt : Int))).set_ 3 (.slice none 0 0)).set_ 4 (.string s1)).set_ 5 (.slice B3 m3 d3)).set_ 6 (.slice B4 m4 d4)
    simpa using this
  have hfrW : Fr w3.heap.size (· = p1) w3 W3 := by
    rw [hW3]
    exact (((((((Fr.refl w3.heap.size (· = p1) w3).setCell (p := ⟨p1, 0, none⟩) (.inr rfl) _).setCell (p := ⟨p1, 1, none⟩) (.inr rfl) _).setCell (p := ⟨p1, 2, none⟩) (.inr rfl) _).setCell (p := ⟨p1, 3, none⟩) (.inr rfl) _).setCell (p := ⟨p1, 4, none⟩) (.inr rfl) _).setCell (p := ⟨p1, 5, none⟩) (.inr rfl) _).setCell (p := ⟨p1, 6, none⟩) (.inr rfl) _
  have hzW : W3.heap.size = w3.heap.size := by rw [hW3]; simp [World.setCell]
  obtain ⟨a1, a2, a3, hFw2⟩ := H2.out
  have hz3 : w2.heap.size ≤ w3.heap.size := hb3.size
  have hfW := (a1.drew.below hb3 hfl).fr2 hfrW (by omega)
  have k10 : W3.cell? ⟨f, 10, none⟩ = some (.slice Ar rs.length cr) := (hfW.cell 10).trans rfl
  have a2W : W3.ownsRow w1.heap.size 98 2 (.slice Ar rs.length cr) rs.length ((rs.map fun x => roomC (castR x)).flatMap duo) := own_keep a2 fun g hg => by
    have := a2.lt g hg
    rw [hfrW.block g (by omega) (by omega)]
    exact hb3.block g this.2
  have HD := Lib.hid (show rs = [] ∨ ∃ b o, Ar = some ⟨b, o, none⟩ ∧ b < W3.heap.size ∧ b ≠ p1 ∧ DuoR W3 b o (rs.map fun x => roomC (castR x)) from by
    rcases (own_form a2W).2.2 with h | ⟨g, rfl⟩
    · exact .inl (List.length_eq_zero_iff.1 h)
    · have := a2W.lt g rfl
      exact .inr ⟨g, 0, rfl, this.2, by omega, own_duo a2W⟩)
  have hFW : Fr w.heap.size (· = p1) w W3 := (hFw2.trans ((Fr.of_below (show Below w2.heap.size w2 w3 from ⟨hb3.os, hb3.tape, hb3.output, hb3.size, hb3.block⟩)).mono (by omega) (fun _ _ h => h))).trans (hfrW.mono (by omega) (fun _ _ h => h))
  have hNW : NodeC W3 (Rng w W3) root (.string s1, .slice B3 m3 d3, .slice B4 m4 d4) := by
    rw [← a3]
    exact hN1.mono (fun k hk => hfrW.block k hk.2 (by have := hk.1; simp at this; omega)) (fun k hk => ⟨by have := hk.1; simp at this; omega, by have := hk.2; omega⟩)
  have hNl : ∀ k, Rng w W3 k → k < W3.heap.size := fun k hk => hk.2
  have hNp : NodeC W3 (fun k => Rng w2 W3 k) root (.string s1, .slice B3 m3 d3, .slice B4 m4 d4) := by
    rw [← a3]
    exact hN1.mono (fun k hk => hfrW.block k hk.2 (by have := hk.1; simp at this; omega)) (fun k hk => ⟨by have := hk.1; simpa using this, by have := hk.2; omega⟩)
  have H4 := Lib.hid (And.intro hFW (And.intro hNp (And.intro hz3 hzW)))
  have Hq3 := Lib.hid hq3
  clear hW3 hfrW a1 a2 a3 hFw2 hfW a2W hFW hNW hNl hNp hq3 hN1 hb3 qp3 j0 j1 j2 j3 j4 j5 j6 y5 y6 y7 y11 x5 x6 x7 x11 HP
  go_wp2_with fail
  go_loopw [44] (fun i wr => ∃ k : Nat, k ≤ rs.length ∧ i = .int .i64 k ∧ ∃ A c, Cs wr p1 #[.int .i64 17, .int .i64 16, .int .i64 (bt : Int), .slice A k c, .string s1, .slice B3 m3 d3, .slice B4 m4 d4] ∧ wr.ownsRow W3.heap.size 80 2 (.slice A k c) k (((rs.take k).map fun x => roomC (castR x)).flatMap duo) ∧ Fr W3.heap.size (· = p1) W3 wr) (fun i _ => rs.length - (intOf i).toNat)
  case atStart => exact ⟨0, by omega, by go_num, none, 0, Hq3.out, ⟨by simp, .inl ⟨rfl, rfl⟩⟩, Fr.refl _ _ _⟩
  case round =>
    obtain ⟨k, hk, rfl, A', c', q1, hown, hF⟩ := hrel
    have hp1r := q1.lt
    have hzr := hF.size
    have hp3 : p1 < W3.heap.size := Hq3.out.lt
    by_cases hlt : k < rs.length
    · have hne : rs ≠ [] := by intro e; simp [e] at hlt
      obtain ⟨b, o, rfl, hbW, hbp, hD⟩ := HD.out.resolve_left hne
      have hkt : (rs.map fun x => roomC (castR x))[k]? = some (roomC (castR rs[k])) := by simp [hlt]
      obtain ⟨d1, d2⟩ := hD k _ hkt
      have d1 := (hF.cell (o := o + k * 2) hbW hbp).trans d1
      have d2 := (hF.cell (o := o + k * 2 + 1) hbW hbp).trans d2
      have hap : ((rs.take (k + 1)).map fun x => roomC (castR x)).flatMap duo = ((rs.take k).map fun x => roomC (castR x)).flatMap duo ++ [(roomC (castR rs[k])).1, (roomC (castR rs[k])).2] := by
        rw [List.take_succ_eq_append_getElem hlt, List.map_append, List.flatMap_append]
        rfl
      generalize rs[k] = rk at *
      obtain ⟨ra, rz⟩ := rk
      simp only [roomC, castR] at d1 d2
      have hap : ((rs.take (k + 1)).map fun x => roomC (castR x)).flatMap duo = ((rs.take k).map fun x => roomC (castR x)).flatMap duo ++ [.int .u64 (ra : Int), .int .u64 (rz : Int)] := hap
      clear hkt hD
      have Hap := Lib.hid hap
      have HF := Lib.hid hF
      have Hq := Lib.hid q1
      have c73 : wr.cell? ⟨p1, 3, none⟩ = some (.slice A' k c') := (q1.cell 3).trans rfl
      have f73 := q1.frozen 3
      have hbl : b < wr.heap.size := by omega
      have hki : (0 : Int) ≤ (k : Int) := by omega
      clear hap hF q1
      go_wp2_with (at_builtin; go_must (refine wpList_append_el el34 rfl (.tmp 49) (.tmp 55) rfl W3.heap.size (.slice A' k c') k (((rs.take k).map fun x => roomC (castR x)).flatMap duo) rfl ((hown.alloc _).alloc _) (some ⟨wr.heap.size + 1, 0, none⟩) 1 1 [.int .u64 (ra : Int), .int .u64 (rz : Int)] rfl (by simp) ((Cs.new' _ _ _ _ (by simp [World.setCell])).rd rfl) (by simp [Value.oneCell']) (by omega) (by omega) (by simp [World.setCell]; omega) ?_); intro v' w5 hown1 hgrow hnil hat; obtain ⟨A2, c2, rfl⟩ := own_slice hown1; clear hnil; have hq4 := (((Hq.out.alloc (.cells #[.int .u64 (ra : Int), .int .u64 (rz : Int)] 98)).alloc (.cells #[.int .u64 (ra : Int), .int .u64 (rz : Int)] 80))).grown hgrow (own_ne hown hp3); have c73' : w5.cell? ⟨p1, 3, none⟩ = some (.slice A' k c') := (hq4.cell 3).trans rfl; have f73' := hq4.frozen 3)
      refine ⟨⟨k + 1, by omega, by go_num, A2, c2, ?_, ?_, ?_⟩, by simp [intOf]; omega⟩
      · simpa using hq4.set_ 3 (.slice A2 (k + 1) c2)
      · rw [Hap.out]
        exact ownsRow_setCell_below hown1 (a := ⟨p1, 3, none⟩) hp3 _
      · exact ((((HF.out.alloc hzr _).alloc (by simp; omega) _).grown hgrow (by simp; omega) (fun g hg => .inl (hown.lt g hg).1)).setCell (p := ⟨p1, 3, none⟩) (.inr rfl) _)
    · obtain rfl : k = rs.length := by omega
      rw [List.take_length] at hown
      obtain ⟨hFW, hNp, hz3, hzW⟩ := H4.out
      have hNr : NodeC wr (Rng w wr) root (.string s1, .slice B3 m3 d3, .slice B4 m4 d4) := hNp.mono (fun k hk => hF.block k hk.2 (by have := hk.1; omega)) (fun k hk => ⟨by have := hk.1; omega, by have := hk.2; omega⟩)
      have hrm : RoomsC wr (Rng w wr) (.slice A' rs.length c') (rs.map castR) := rooms_of_own' (by rw [List.map_map]; exact hown) (by simp) (by simp; omega) (by
        intro x hx
        obtain ⟨y, hy, rfl⟩ := List.mem_map.1 hx
        have := Hg.out.rb y hy
        simp only [castR]
        omega) (fun g hg => ⟨by have := (hown.lt g hg).1; omega, (hown.lt g hg).2⟩)
      have HFIN := Lib.hid (show Parse1Post w p1 bt rs root (.returned (.bool true)) wr from
        ⟨rfl, hFW.trans (hF.mono (by omega) (fun _ _ h => h)), _, q1, _, (_, _, _), rfl, by simpa using hrm, hNr, by simp, by simp, by simp; omega⟩)
      clear hFW hNp hz3 hzW hNr hrm hF q1 hown
      go_wp2_with fail
      go_ret
      exact HFIN.out
end Go.Proofs.Ytlbhadggfipckaa
