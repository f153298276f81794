/-
  FDT.Write's third closure, walked.
-/
import Derived.Test.YtlbhadggfipckaaMa11
set_option linter.unusedVariables false
set_option linter.unusedSimpArgs false
namespace Go.Proofs.Ytlbhadggfipckaa
open Go.RowKit

theorem w3_head {bs : List UInt8} {name nm : ByteArray} (h4 : bs.length % 4 = 0) (hnm : name ++ ⟨#[0]⟩ = nm) :
    bs ++ [1].flatMap be4 ++ bytesOf nm ++ pad 4 (bs ++ [1].flatMap be4 ++ bytesOf nm).length = bs ++ (tok 0 1 ++ pad4 (bytesOf name ++ [0])) := by
  have e1 : bytesOf nm = bytesOf name ++ [0] := by rw [← hnm]; simp [bytesOf]
  have e2 : (bs ++ [1].flatMap be4 ++ (bytesOf name ++ [0])).length = (bs.length + 4) + (bytesOf name ++ [0]).length := by simp [be4]; omega
  rw [e1, e2, pad_of_mod (by omega)]
  simp [tok, pad4]

theorem w3_prop {H out val : List UInt8} {n off : Int} (h4 : H.length % 4 = 0) (ho : out.length % 4 = 0) :
    H ++ out ++ [3, n, off].flatMap be4 ++ val ++ pad 4 (H ++ out ++ [3, n, off].flatMap be4 ++ val).length = H ++ (out ++ (tok 0 3 ++ be4 n ++ be4 off ++ pad4 val)) := by
  have e2 : (H ++ out ++ [3, n, off].flatMap be4 ++ val).length = (H.length + out.length + 12) + val.length := by simp [be4]; omega
  rw [e2, pad_of_mod (by omega)]
  simp [tok, pad4, List.append_assoc]

theorem eraseL_snoc (ks : List LT) (k : LT) : eraseL (ks ++ [k]) = eraseL ks ++ [k.erase] := by simp [eraseL_eq]

def W3Post (w : World) (a z lo : Nat) (strs : List UInt8) (lt : LT) (bs : List UInt8) (e : Ending) (w' : World) : Prop :=
  e = .returned .nilIface ∧ ∃ out, EncN strs 0 lt.erase out ∧ WS w' a z lo (bs ++ out) ∧ Kp a z lo w w'

theorem bytesOf_len (s : ByteArray) : (bytesOf s).length = s.size := by simp [bytesOf]

def Tame (S : List (ByteArray × Nat)) (ns : List (ByteArray × List Pr)) : Prop := ∀ n ∈ ns, n.1.size ≤ 1000 ∧ ∀ p ∈ n.2, p.name.size ≤ 1000 ∧ (offOf p.name S).isSome = true

set_option maxHeartbeats 4000000 in
theorem w3_walk (a z lo aw mv m wn : Nat) (S : List (ByteArray × Nat)) (strs : List UInt8) (hh : ∀ s off, offOf s S = some off → Has strs off s) (hsl : strs.length ≤ 100000) (lt : LT) :
    ∀ (w : World) (ok : Nat → Prop) (bs : List UInt8), (∀ k, ok k → Out w a z k) → PN w ok lt → WV w a z aw mv m wn S → WS w a z lo bs → bs.length % 4 = 0 → Tame S lt.nodes → bs.length + szNs lt.nodes ≤ 1000000 →
      Calls Try.prog 76 #[.pointer (some ⟨lt.b, 0, none⟩), .pointer (some ⟨aw, 0, none⟩), .pointer (some ⟨mv, 0, none⟩), .pointer (some ⟨wn, 0, none⟩)] w (W3Post w a z lo strs lt bs) := by
  refine LT.ind (P := fun lt => ∀ (w : World) (ok : Nat → Prop) (bs : List UInt8), (∀ k, ok k → Out w a z k) → PN w ok lt → WV w a z aw mv m wn S → WS w a z lo bs → bs.length % 4 = 0 → Tame S lt.nodes → bs.length + szNs lt.nodes ≤ 1000000 →
      Calls Try.prog 76 #[.pointer (some ⟨lt.b, 0, none⟩), .pointer (some ⟨aw, 0, none⟩), .pointer (some ⟨mv, 0, none⟩), .pointer (some ⟨wn, 0, none⟩)] w (W3Post w a z lo strs lt bs)) ?_ lt
  intro b name ps ks IH w ok bs hok hn hv hw hb4 htame hsz
  obtain ⟨vp, A, c, hob, hns, hcs, hps, hl1, hl2, hl3, hks, hrow⟩ := hn.open_
  obtain ⟨Ap, cp, ts, rfl, hp1, hp2, hp3, hp4, hp5⟩ := hps
  have htn : name.size ≤ 1000 := (htame (name, ps) (by simp [LT.nodes])).1
  have htp : ∀ p ∈ ps, p.name.size ≤ 1000 ∧ (offOf p.name S).isSome = true := (htame (name, ps) (by simp [LT.nodes])).2
  have htk : Tame S (nodesL ks) := fun n hn => htame n (by simp [LT.nodes, hn])
  simp only [LT.nodes, szNs] at hsz
  have hle := al4_le (name.size + 1)
  have c0 : w.cell? ⟨aw, 0, none⟩ = some (.pointer (some ⟨a, 0, none⟩)) := (hv.ca.cell 0).trans rfl
  have OA := hv.oa
  have Hp4 := Lib.hid hp4
  have Hp5 := Lib.hid hp5
  have Hk := Lib.hid hks
  have Hr := Lib.hid hrow
  have IH := Lib.hid IH
  have Hcs := Lib.hid hcs
  have Hws := Lib.hid hw
  have Hv := Lib.hid hv
  have Hok := Lib.hid hok
  have Htp := Lib.hid htp
  have Htk := Lib.hid htk
  have Hh := Lib.hid hh
  have hm := m154
  have hnl := n154
  clear hn hks hrow hcs hw hv hp4 hp5 hok htp htk hh htame
  show Calls Try.prog 76 #[.pointer (some ⟨b, 0, none⟩), .pointer (some ⟨aw, 0, none⟩), .pointer (some ⟨mv, 0, none⟩), .pointer (some ⟨wn, 0, none⟩)] w (W3Post w a z lo strs (.mk b name ps ks) bs)
  go_enter Try.func76, Try.ntmps76
  go_wp2_with fail
  refine wp_region_seq (fun w' => w'.cell? ⟨aw, 0, none⟩ = some (.pointer (some ⟨a, 0, none⟩))) 5
    [(0, true), (1, true), (2, false), (3, false), (4, false), (5, false)] (by kernel_rfl) (by kernel_rfl) (c0) ?_
  simp only [opsIn, List.map_cons, List.map_nil, List.getElem?_toArray, List.getElem?_cons_zero, List.getElem?_cons_succ, Option.getD_some, Nat.reduceBEq]
  iterate 2
    refine' Seq.quiet (by rfl) ?_ ?_
    rotate_left
    · rintro w' hS1
      go_simp
      try with_reducible rfl
    try simp only [Act.put, List.setIfInBounds_toArray, List.set_cons_zero, List.set_cons_succ]
  refine Seq.eff ?_ ?_
  · rfl
  intro K hK
  go_simp
  refine hK.out _ _ (.inr ((World.cell?_alloc_lt _ _ _ OA.1).trans c0)) ?_
  clear hK K
  try simp only [Act.put, List.setIfInBounds_toArray, List.set_cons_zero, List.set_cons_succ]
  refine Seq.eff ?_ ?_
  · rfl
  intro K hK
  go_simp
  refine (put32 w.drew [1] (by simp; try omega) (by simp)).mono ?_
  rintro e w1 ⟨A1, c1, rfl, hrd, hb⟩
  replace hb : Below w.heap.size w w1 := (Below.refl _ _).drew.trans hb
  have hc1 : w1.cell? ⟨aw, 0, none⟩ = some (.pointer (some ⟨a, 0, none⟩)) := (hb.cell OA.1).trans c0
  refine hK.out _ _ (.inr (hc1)) ?_
  clear hK K
  try simp only [Act.put, List.setIfInBounds_toArray, List.set_cons_zero, List.set_cons_succ]
  refine Seq.eff ?_ ?_
  · rfl
  intro K hK
  go_simp
  refine (write_walk w1 a z lo _ (Hws.out.below hb) A1 _ _ hrd (by simp [be4]; omega)).mono ?_
  rintro e w2 ⟨rfl, hws2, hf2, hk2⟩
  have kp2 : Kp a z lo w w2 := (Kp.of_below hb Hws.out.zlt Hws.out.lo).trans ⟨hf2, hk2⟩
  have hc2 : w2.cell? ⟨aw, 0, none⟩ = some (.pointer (some ⟨a, 0, none⟩)) := (kp2.cell OA).trans c0
  refine hK.out _ _ (.inr (hc2)) ?_
  clear hK K
  try simp only [Act.put, List.setIfInBounds_toArray, List.set_cons_zero, List.set_cons_succ]
  refine Seq.last ?_ ?_
  · rfl
  intro K hK
  go_simp
  refine hK.out _ _ ?_
  clear hK K
  have Hws1 := Lib.hid hws2
  have Kp1 := Lib.hid kp2
  clear hws2 hf2 hk2 kp2 hc1 hb hrd
  have c0' := hc2
  have OA1 := Kp1.out.out OA
  have q1 := Hcs.out.keep (Kp1.out.eq (Hok.out b hob))
  have n0 := q1.cell 0
  simp at n0
  have OB1 := Kp1.out.out (Hok.out b hob)
  have hcv := fun (w : World) (s : ByteArray) => Lib.run_convert_string_bytes (P := Try.prog) w 9 24 5 s Try.underlying9 Try.underlying24 Try.underlying5
  obtain ⟨nm, hnm⟩ : ∃ nm, name ++ ⟨#[0]⟩ = nm := ⟨_, rfl⟩
  have hnml : nm.size = name.size + 1 := by rw [← hnm, ByteArray.size_append]; rfl
  have hcat : ¬ (9223372036854775807 < name.size + 1) := by omega
  go_wp2_with fail
  refine wp_region_seq (fun w' => w'.cell? ⟨aw, 0, none⟩ = some (.pointer (some ⟨a, 0, none⟩)) ∧ w'.cell? ⟨b, 0, none⟩ = some (.string name)) 12
    [(0, true), (1, true), (2, true), (3, true), (4, true), (5, true), (6, false), (7, false), (8, true), (9, true), (10, true), (11, true), (12, false)] (by kernel_rfl) (by kernel_rfl) ⟨c0', n0⟩ ?_
  simp only [opsIn, List.map_cons, List.map_nil, List.getElem?_toArray, List.getElem?_cons_zero, List.getElem?_cons_succ, Option.getD_some, Nat.reduceBEq]
  iterate 6
    refine' Seq.quiet (by rfl) ?_ ?_
    rotate_left
    · rintro w' ⟨hS1, hS2⟩
      go_simp
      try with_reducible rfl
    try simp only [Act.put, List.setIfInBounds_toArray, List.set_cons_zero, List.set_cons_succ]
  refine Seq.eff ?_ ?_
  · rfl
  intro K hK
  go_simp
  have hcb := conv_below w2.drew nm
  have hc3 : (Lib.bytesWorld w2.drew 5 nm).cell? ⟨aw, 0, none⟩ = some (.pointer (some ⟨a, 0, none⟩)) := (hcb.cell OA1.1).trans c0'
  have hn3 : (Lib.bytesWorld w2.drew 5 nm).cell? ⟨b, 0, none⟩ = some (.string name) := (hcb.cell OB1.1).trans n0
  refine hK.out _ _ (.inr ⟨hc3, hn3⟩) ?_
  clear hK K
  try simp only [Act.put, List.setIfInBounds_toArray, List.set_cons_zero, List.set_cons_succ]
  refine Seq.eff ?_ ?_
  · rfl
  intro K hK
  go_simp
  have HA := Lib.hid (aw_walk (Lib.bytesWorld w2.drew 5 nm) a z lo _ (Hws1.out.below ((Below.refl _ _).drew.trans hcb)) (some ⟨w2.heap.size, 0, none⟩) (grownCap w2.drew (name.size + 1) 0 5) (bytesOf nm) (conv_rd w2.drew nm) (by simp [bytesOf_len, be4]; omega))
  rw [bytesOf_len, hnml] at HA
  refine HA.out.mono ?_
  rintro e w3 ⟨rfl, hws3, hf3, hk3⟩
  have kp3 : Kp a z lo w2 w3 := (Kp.of_below ((Below.refl _ _).drew.trans hcb) Hws1.out.zlt Hws1.out.lo).trans ⟨hf3, hk3⟩
  refine hK.out _ _ (.inr ⟨(kp3.cell OA1).trans c0', (kp3.cell OB1).trans n0⟩) ?_
  clear hK K
  try simp only [Act.put, List.setIfInBounds_toArray, List.set_cons_zero, List.set_cons_succ]
  iterate 4
    refine' Seq.quiet (by rfl) ?_ ?_
    rotate_left
    · rintro w' ⟨hS1, hS2⟩
      go_simp
      try with_reducible rfl
    try simp only [Act.put, List.setIfInBounds_toArray, List.set_cons_zero, List.set_cons_succ]
  refine Seq.last ?_ ?_
  · rfl
  intro K hK
  go_simp
  refine hK.out _ _ ?_
  clear hK K
  have Hws := Lib.hid hws3
  have KP := Lib.hid (Kp1.out.trans kp3)
  have OA := KP.out.out OA
  have c0 : w3.cell? ⟨aw, 0, none⟩ = some (.pointer (some ⟨a, 0, none⟩)) := (kp3.cell OA1).trans c0'
  clear hws3 hf3 hk3 kp3 hcb hc3 hn3 HA Hws1 Kp1 c0' OA1 q1 n0 OB1 hcv hnml hcat hc2
  go_wp2_with fail
  have hbsl : (bs ++ List.flatMap be4 [1] ++ bytesOf nm).length ≤ 10000000 := by rw [← hnm]; simp [be4, bytesOf]; omega
  refine (align_walk w3 a z lo 4 _ Hws.out (by omega) (by omega) hbsl).mono ?_
  rintro e w4 ⟨rfl, hws4, hf4, hk4⟩
  rw [w3_head hb4 hnm] at hws4
  have HH : (bs ++ (tok 0 1 ++ pad4 (bytesOf name ++ [0]))).length = bs.length + 4 + al4 (name.size + 1) := by
    rw [List.length_append, List.length_append, pad4_len]
    simp [tok, be4, bytesOf]
    omega
  have hH4 : (bs ++ (tok 0 1 ++ pad4 (bytesOf name ++ [0]))).length % 4 = 0 := by rw [HH]; unfold al4; omega
  obtain ⟨H, hH⟩ : ∃ H, bs ++ (tok 0 1 ++ pad4 (bytesOf name ++ [0])) = H := ⟨_, rfl⟩
  rw [hH] at hws4 HH hH4
  have Hws4 := Lib.hid hws4
  have KP4 := Lib.hid (KP.out.trans ⟨hf4, hk4⟩)
  have hH := Lib.hid hH
  have q4 := Hcs.out.keep (KP4.out.eq (Hok.out b hob))
  have n1 := q4.cell 1
  simp at n1
  clear hws4 hf4 hk4 KP OA c0 hbsl hnm Hws q4
  go_wp2_with fail
  go_loopw [53] (fun i wr => ∃ k : Nat, k ≤ ps.length ∧ i = .int .i64 k ∧ ∃ out, EncP strs 0 (ps.take k) out ∧ WS wr a z lo (H ++ out) ∧ Kp a z lo w wr) (fun i _ => ps.length - (intOf i).toNat)
  case atStart => exact ⟨0, by omega, by go_num, [], .nil, by simpa using Hws4.out, KP4.out⟩
  case round =>
    obtain ⟨k, hk, rfl, out, henc, hws, kp⟩ := hrel
    clear n1 KP4 Hws4
    have hol := henc.len
    by_cases hlt : k < ps.length
    · have hne : ps ≠ [] := by rintro rfl; simp at hlt
      obtain ⟨g, o, rfl, hog, hD⟩ := Hp5.out.resolve_left hne
      have hp4 := Hp4.out
      have hkp : ps[k]? = some ps[k] := List.getElem?_eq_getElem hlt
      have hlt2 : k < ts.length := by rw [← hp4.1]; exact hlt
      have hkt : ts[k]? = some (ts[k]'hlt2) := List.getElem?_eq_getElem hlt2
      obtain ⟨e1, pn, hval⟩ := hp4.2 k _ _ hkp hkt
      obtain ⟨Av, cv, e3, v1, v2, v3, v4⟩ := id hval
      obtain ⟨d1, d2⟩ := hD k _ hkt
      have og := Hok.out g hog
      rw [← kp.cell og, e1] at d1
      rw [← kp.cell og, e3] at d2
      obtain ⟨t1, t2⟩ := szP_take ps k hlt
      obtain ⟨tn, tm⟩ := Htp.out ps[k] (List.getElem_mem hlt)
      have hsn : ps.take (k + 1) = ps.take k ++ [ps[k]] := List.take_succ_eq_append_getElem hlt
      have Hval := Lib.hid v4
      obtain ⟨off, hoff⟩ := Option.isSome_iff_exists.1 tm
      have hhas := Hh.out _ _ hoff
      have hofl := hhas.lt
      generalize ps[k] = pk at *
      have V := Hv.out.kp kp
      have m0 := V.cm.cell 0
      simp at m0
      have ogl := (kp.out og).1
      have zm := V.om.1
      have zo := V.oo.1
      have hki : (0 : Int) ≤ (k : Int) := by omega
      have hlk := (V.mo.keep (w' := wr.alloc (.cells #[.string pk.name, .slice Av pk.val.length cv] 70)) (Below.heap_alloc _ _ _ zo)).look (s := pk.name) (by simp only [maxLen]; omega) false
      rw [hoff] at hlk
      simp at hlk
      have hle2 := al4_le pk.val.length
      have hw1 : IntKind.u32.wrap (pk.val.length : Int) = (pk.val.length : Int) := by simp only [IntKind.wrap, IntKind.bits, IntKind.signed]; simp; omega
      have Henc := Lib.hid henc
      have Hws := Lib.hid hws
      have KP := Lib.hid kp
      have VV := Lib.hid V
      have Hhas := Lib.hid hhas
      clear e1 e3 hkt hkp hD hp4 hval v4 henc hws kp V hhas hoff tm og
      go_wp2_with fail
      generalize hV : (wr.alloc (.cells #[.string pk.name, .slice Av pk.val.length cv] 70)).alloc (.cells #[.int .u32 3, .int .u32 (pk.val.length : Int), .int .u32 (off : Int)] 164) = V
      have hVs : V.heap.size = wr.heap.size + 2 := by rw [← hV]; simp
      have hVb : Below wr.heap.size wr V := by rw [← hV]; exact ((Below.refl _ _).alloc (Nat.le_refl _) _).alloc (by simp) _
      have hV0 : Cs V wr.heap.size #[.string pk.name, .slice Av pk.val.length cv] := by rw [← hV]; exact (Cs.new _ _ _).alloc _
      have hV1 : Cs V (wr.heap.size + 1) #[.int .u32 3, .int .u32 (pk.val.length : Int), .int .u32 (off : Int)] := by rw [← hV]; exact Cs.new' _ _ _ _ (by simp)
      clear hV
      have OP : Out V a z wr.heap.size := Hws.out.out_new hVb (Nat.le_refl _) (by omega)
      have OX0 : Out V a z (wr.heap.size + 1) := Hws.out.out_new hVb (by omega) (by omega)
      have OX1 := OX0
      have OX2 := OX0
      have kpV : Kp a z lo wr V := Kp.of_below hVb Hws.out.zlt Hws.out.lo
      have OA : Out V a z aw := kpV.out VV.out.oa
      have c0 : V.cell? ⟨aw, 0, none⟩ = some (.pointer (some ⟨a, 0, none⟩)) := (kpV.cell VV.out.oa).trans ((VV.out.ca.cell 0).trans rfl)
      have x0 : V.cell? ⟨wr.heap.size + 1, 0, none⟩ = some (.int .u32 3) := (hV1.cell 0).trans rfl
      have x1 : V.cell? ⟨wr.heap.size + 1, 1, none⟩ = some (.int .u32 (pk.val.length : Int)) := (hV1.cell 1).trans rfl
      have x2 : V.cell? ⟨wr.heap.size + 1, 2, none⟩ = some (.int .u32 (off : Int)) := (hV1.cell 2).trans rfl
      have p1 : V.cell? ⟨wr.heap.size, 1, none⟩ = some (.slice Av pk.val.length cv) := (hV0.cell 1).trans rfl
      have Hws := Lib.hid (Hws.out.below hVb)
      have KP := Lib.hid (KP.out.trans kpV)
      have hlt := Lib.hid hlt
      clear hVb hV0 hV1 kpV d1 d2 m0 hlk VV hw1 hVs
      refine wp_region_seq (fun w' => w'.cell? ⟨aw, 0, none⟩ = some (.pointer (some ⟨a, 0, none⟩)) ∧ w'.cell? ⟨wr.heap.size + 1, 0, none⟩ = some (.int .u32 3) ∧ w'.cell? ⟨wr.heap.size + 1, 1, none⟩ = some (.int .u32 (pk.val.length : Int)) ∧ w'.cell? ⟨wr.heap.size + 1, 2, none⟩ = some (.int .u32 (off : Int))) 11
        [(0, true), (1, true), (2, true), (3, true), (4, true), (5, true), (6, true), (7, true), (8, false), (9, false), (10, false), (11, false)] (by kernel_rfl) (by kernel_rfl) ⟨c0, x0, x1, x2⟩ ?_
      simp only [opsIn, List.map_cons, List.map_nil, List.getElem?_toArray, List.getElem?_cons_zero, List.getElem?_cons_succ, Option.getD_some, Nat.reduceBEq]
      iterate 8
        refine' Seq.quiet (by rfl) ?_ ?_
        rotate_left
        · rintro w' ⟨hS1, hS2, hS3, hS4⟩
          go_simp
          try with_reducible rfl
        try simp only [Act.put, List.setIfInBounds_toArray, List.set_cons_zero, List.set_cons_succ]
      refine Seq.eff ?_ ?_
      · rfl
      intro K hK
      go_simp
      refine hK.out _ _ (.inr ⟨(World.cell?_alloc_lt _ _ _ OA.1).trans c0, (World.cell?_alloc_lt _ _ _ (World.block_lt_of_cell? _ _ x0)).trans x0, (World.cell?_alloc_lt _ _ _ (World.block_lt_of_cell? _ _ x1)).trans x1, (World.cell?_alloc_lt _ _ _ (World.block_lt_of_cell? _ _ x2)).trans x2⟩) ?_
      clear hK K
      try simp only [Act.put, List.setIfInBounds_toArray, List.set_cons_zero, List.set_cons_succ]
      refine Seq.eff ?_ ?_
      · rfl
      intro K hK
      go_simp
      refine (put32 V.drew [3, (pk.val.length : Int), (off : Int)] (by simp; try omega) (by simp)).mono ?_
      rintro e w1 ⟨A1, c1, rfl, hrd, hb⟩
      replace hb : Below V.heap.size V w1 := (Below.refl _ _).drew.trans hb
      have hc1 : w1.cell? ⟨aw, 0, none⟩ = some (.pointer (some ⟨a, 0, none⟩)) := (hb.cell OA.1).trans c0
      have hx0 : w1.cell? ⟨wr.heap.size + 1, 0, none⟩ = some (.int .u32 3) := (hb.cell (World.block_lt_of_cell? _ _ x0)).trans x0
      have hx1 : w1.cell? ⟨wr.heap.size + 1, 1, none⟩ = some (.int .u32 (pk.val.length : Int)) := (hb.cell (World.block_lt_of_cell? _ _ x1)).trans x1
      have hx2 : w1.cell? ⟨wr.heap.size + 1, 2, none⟩ = some (.int .u32 (off : Int)) := (hb.cell (World.block_lt_of_cell? _ _ x2)).trans x2
      refine hK.out _ _ (.inr ⟨hc1, hx0, hx1, hx2⟩) ?_
      clear hK K
      try simp only [Act.put, List.setIfInBounds_toArray, List.set_cons_zero, List.set_cons_succ]
      refine Seq.eff ?_ ?_
      · rfl
      intro K hK
      go_simp
      refine (write_walk w1 a z lo _ (Hws.out.below hb) A1 _ _ hrd (by simp [be4]; omega)).mono ?_
      rintro e w2 ⟨rfl, hws2, hf2, hk2⟩
      have kp2 : Kp a z lo V w2 := (Kp.of_below hb Hws.out.zlt Hws.out.lo).trans ⟨hf2, hk2⟩
      have hc2 : w2.cell? ⟨aw, 0, none⟩ = some (.pointer (some ⟨a, 0, none⟩)) := (kp2.cell OA).trans c0
      have hy0 : w2.cell? ⟨wr.heap.size + 1, 0, none⟩ = some (.int .u32 3) := (kp2.cell OX0).trans x0
      have hy1 : w2.cell? ⟨wr.heap.size + 1, 1, none⟩ = some (.int .u32 (pk.val.length : Int)) := (kp2.cell OX1).trans x1
      have hy2 : w2.cell? ⟨wr.heap.size + 1, 2, none⟩ = some (.int .u32 (off : Int)) := (kp2.cell OX2).trans x2
      refine hK.out _ _ (.inr ⟨hc2, hy0, hy1, hy2⟩) ?_
      clear hK K
      try simp only [Act.put, List.setIfInBounds_toArray, List.set_cons_zero, List.set_cons_succ]
      refine Seq.last ?_ ?_
      · rfl
      intro K hK
      go_simp
      refine hK.out _ _ ?_
      clear hK K
      have Hws := Lib.hid hws2
      have KP := Lib.hid (KP.out.trans kp2)
      have c0 := hc2
      have p1 : w2.cell? ⟨wr.heap.size, 1, none⟩ = some (.slice Av pk.val.length cv) := (kp2.cell OP).trans p1
      have OA := kp2.out OA
      clear hws2 hf2 hk2 kp2 hc1 hb hrd hc2 hx0 hx1 hx2 hy0 hy1 hy2 x0 x1 x2
      go_wp2_with fail
      refine (aw_walk w2 a z lo _ Hws.out Av cv pk.val (Hval.out.mono (KP.out.same Hok.out) (fun _ h => h)).rd (by simp [be4]; omega)).mono ?_
      rintro e w5 ⟨rfl, hws5, hf5, hk5⟩
      have kp5 : Kp a z lo w2 w5 := ⟨hf5, hk5⟩
      have c0 : w5.cell? ⟨aw, 0, none⟩ = some (.pointer (some ⟨a, 0, none⟩)) := (kp5.cell OA).trans c0
      have KP := Lib.hid (KP.out.trans kp5)
      have Hws := Lib.hid hws5
      clear hws5 hf5 hk5 kp5 p1
      go_wp2_with fail
      refine (align_walk w5 a z lo 4 _ Hws.out (by omega) (by omega) (by simp [be4]; omega)).mono ?_
      rintro e w6 ⟨rfl, hws6, hf6, hk6⟩
      rw [w3_prop hH4 (by rw [hol]; exact szP_mod _)] at hws6
      have henc' := Henc.out.snoc (p := pk) Hhas.out
      rw [← hsn] at henc'
      have HFIN := Lib.hid (show ∃ out, EncP strs 0 (ps.take (k + 1)) out ∧ WS w6 a z lo (H ++ out) ∧ Kp a z lo w w6 from ⟨_, henc', hws6, KP.out.trans ⟨hf6, hk6⟩⟩)
      clear henc' hws6 hf6 hk6
      go_wp2_with fail
      exact ⟨⟨k + 1, hlt.out, by go_num, HFIN.out⟩, by have := hlt.out; simp [intOf]; omega⟩
    · obtain rfl : k = ps.length := by omega
      rw [List.take_length] at henc hol
      obtain ⟨wo, rfl⟩ : ∃ wo : World, wo = wr := ⟨_, rfl⟩
      have HencP := Lib.hid henc
      have Hws5 := Lib.hid hws
      have KP5 := Lib.hid kp
      have q4 := Hcs.out.keep (kp.eq (Hok.out b hob))
      have n2 := q4.cell 2
      simp at n2
      clear henc hws kp q4
      obtain ⟨H1, hH1⟩ : ∃ H1, H ++ out = H1 := ⟨_, rfl⟩
      have hH1l : H1.length = H.length + szP ps := by rw [← hH1, List.length_append, hol]
      have hszm := szP_mod ps
      have hH14 : H1.length % 4 = 0 := by omega
      rw [hH1] at Hws5
      have hH1 := Lib.hid hH1
      go_wp2_with fail
      go_loopw [101] (fun i wr => ∃ k : Nat, k ≤ ks.length ∧ i = .int .i64 k ∧ ∃ out, EncL strs 0 (eraseL (ks.take k)) out ∧ WS wr a z lo (H1 ++ out) ∧ Kp a z lo w wr) (fun i _ => ks.length - (intOf i).toNat)
      case atStart => exact ⟨0, by omega, by go_num, [], .nil, by simpa using Hws5.out, KP5.out⟩
      case round =>
        clear n2 KP5 Hws5
        obtain ⟨k, hk, rfl, out2, henc, hws, kp⟩ := hrel
        have hol2 := encL_len _ henc
        have hm2 := szNs_mod (nodesL (ks.take k))
        have V := Hv.out.kp kp
        by_cases hlt : k < ks.length
        · have hne : ks ≠ [] := by rintro rfl; simp at hlt
          obtain ⟨g, o, rfl, hog, hD⟩ := Hr.out.resolve_left hne
          have d1 := hD k ks[k] (List.getElem?_eq_getElem hlt)
          have og := Hok.out g hog
          rw [← kp.cell og] at d1
          have ogl := (kp.out og).1
          have hki : (0 : Int) ≤ (k : Int) := by omega
          obtain ⟨t1, t2⟩ := szNs_take ks k hlt
          have hsn : eraseL (ks.take (k + 1)) = eraseL (ks.take k) ++ [ks[k].erase] := by rw [List.take_succ_eq_append_getElem hlt, eraseL_snoc]
          have hI := IH.out ks[k] (List.getElem_mem hlt) wr ok (H1 ++ out2) (fun x hx => kp.out (Hok.out x hx)) ((Hk.out _ (List.getElem_mem hlt)).mono (kp.same Hok.out) (fun _ h => h)) V hws (by rw [List.length_append]; omega) (fun n hn => Htk.out n (by
            have e1 : ks = ks.take k ++ ks[k] :: ks.drop (k + 1) := by simp
            rw [e1, nodesL_append]
            simp only [nodesL, List.mem_append]
            exact .inr (.inl hn))) (by rw [List.length_append]; omega)
          have HI := Lib.hid hI
          have KP := Lib.hid kp
          have Henc := Lib.hid henc
          have w0 := V.cw.cell 0
          simp at w0
          generalize ks[k] = kk at *
          clear hD hI henc hws kp og V
          go_wp2_with fail
          refine HI.out.mono ?_
          rintro e w2 ⟨rfl, out3, henc3, hws3, kp3⟩
          have HFIN := Lib.hid (show ∃ out, EncL strs 0 (eraseL (ks.take (k + 1))) out ∧ WS w2 a z lo (H1 ++ out) ∧ Kp a z lo w w2 from ⟨out2 ++ out3, by rw [hsn]; exact Henc.out.snoc henc3, by rw [← List.append_assoc]; exact hws3, KP.out.trans kp3⟩)
          clear henc3 hws3 kp3
          go_wp2_with fail
          exact ⟨⟨k + 1, by omega, by go_num, HFIN.out⟩, by simp [intOf]; omega⟩
        · obtain rfl : k = ks.length := by omega
          rw [List.take_length] at henc hol2 hm2
          have c0 : wr.cell? ⟨aw, 0, none⟩ = some (.pointer (some ⟨a, 0, none⟩)) := (V.ca.cell 0).trans rfl
          have OA := V.oa
          have Hws := Lib.hid hws
          have KP := Lib.hid kp
          have Henc := Lib.hid henc
          clear hws kp henc V
          go_wp2_with fail
          refine wp_region_seq (fun w' => w'.cell? ⟨aw, 0, none⟩ = some (.pointer (some ⟨a, 0, none⟩))) 5
            [(0, true), (1, true), (2, false), (3, false), (4, false), (5, false)] (by kernel_rfl) (by kernel_rfl) (c0) ?_
          simp only [opsIn, List.map_cons, List.map_nil, List.getElem?_toArray, List.getElem?_cons_zero, List.getElem?_cons_succ, Option.getD_some, Nat.reduceBEq]
          iterate 2
            refine' Seq.quiet (by rfl) ?_ ?_
            rotate_left
            · rintro w' hS1
              go_simp
              try with_reducible rfl
            try simp only [Act.put, List.setIfInBounds_toArray, List.set_cons_zero, List.set_cons_succ]
          refine Seq.eff ?_ ?_
          · rfl
          intro K hK
          go_simp
          refine hK.out _ _ (.inr ((World.cell?_alloc_lt _ _ _ OA.1).trans c0)) ?_
          clear hK K
          try simp only [Act.put, List.setIfInBounds_toArray, List.set_cons_zero, List.set_cons_succ]
          refine Seq.eff ?_ ?_
          · rfl
          intro K hK
          go_simp
          refine (put32 wr.drew [2] (by simp; try omega) (by simp)).mono ?_
          rintro e w1 ⟨A1, c1, rfl, hrd, hb⟩
          replace hb : Below wr.heap.size wr w1 := (Below.refl _ _).drew.trans hb
          have hc1 : w1.cell? ⟨aw, 0, none⟩ = some (.pointer (some ⟨a, 0, none⟩)) := (hb.cell OA.1).trans c0
          refine hK.out _ _ (.inr (hc1)) ?_
          clear hK K
          try simp only [Act.put, List.setIfInBounds_toArray, List.set_cons_zero, List.set_cons_succ]
          refine Seq.eff ?_ ?_
          · rfl
          intro K hK
          go_simp
          refine (write_walk w1 a z lo _ (Hws.out.below hb) A1 _ _ hrd (by simp [be4]; omega)).mono ?_
          rintro e w2 ⟨rfl, hws2, hf2, hk2⟩
          have kp2 : Kp a z lo wr w2 := (Kp.of_below hb Hws.out.zlt Hws.out.lo).trans ⟨hf2, hk2⟩
          have hc2 : w2.cell? ⟨aw, 0, none⟩ = some (.pointer (some ⟨a, 0, none⟩)) := (kp2.cell OA).trans c0
          refine hK.out _ _ (.inr (hc2)) ?_
          clear hK K
          try simp only [Act.put, List.setIfInBounds_toArray, List.set_cons_zero, List.set_cons_succ]
          refine Seq.last ?_ ?_
          · rfl
          intro K hK
          go_simp
          refine hK.out _ _ ?_
          clear hK K
          have HFIN := Lib.hid (show W3Post w a z lo strs (.mk b name ps ks) bs (.returned .nilIface) w2 from ⟨rfl, tok 0 1 ++ pad4 (bytesOf name ++ [0]) ++ out ++ out2 ++ tok 0 2, EncN.mk HencP.out Henc.out, by
            have e1 : bs ++ (tok 0 1 ++ pad4 (bytesOf name ++ [0]) ++ out ++ out2 ++ tok 0 2) = H1 ++ out2 ++ [2].flatMap be4 := by
              rw [← hH1.out, ← hH.out]
              simp [tok, List.append_assoc]
            rw [e1]
            exact hws2, KP.out.trans kp2⟩)
          clear hws2 hf2 hk2 kp2 hc1 hb hrd hc2 KP Henc c0
          go_wp2_with fail
          go_ret
          exact HFIN.out
end Go.Proofs.Ytlbhadggfipckaa
