/-
  Header.read, ReserveEntry.read.
-/
import Derived.Test.YtlbhadggfipckaaMa21
import Derived.Test.YtlbhadggfipckaaMa18
import Derived.Test.YtlbhadggfipckaaMa17
set_option linter.unusedVariables false
set_option linter.unusedSimpArgs false
namespace Go.Proofs.Ytlbhadggfipckaa
open Go.RowKit

theorem B32Post.ret {St : World → List UInt8 → Prop} {X : Nat → Prop} {w : World} {rest : List UInt8} {q : Nat} {cs : List Value} {o n : Nat} {ns : List Nat} {rest' : List UInt8} {e : Ending} {w' : World} (h : B32Post St X w rest q cs o n ns rest' e w') : ∃ v, e = .returned v := by
  rcases h.2 with ⟨-, ⟨s, h⟩, -⟩ | ⟨-, h, -⟩ <;> exact ⟨_, h⟩

/-- Header.read -/
theorem hread_walk {tid fid z : Nat} {X : Nat → Prop} {St : World → List UInt8 → Prop} (R : RdK tid fid z X St) (w : World) (rest : List UInt8) (hst : St w rest) (f : Nat) (cs : List Value) (hq : Cs w f cs.toArray) (hqX : ¬ X f) (hcs : 10 ≤ cs.length) (ns : List Nat) (rest' : List UInt8) (hns : ns.length = 10) (hnb : ∀ m ∈ ns, m < 4294967296) (hr : rest.length < 40 ∨ rest = beN ns ++ rest') :
    Calls Try.prog 85 #[.pointer (some ⟨f, 0, none⟩), .iface tid (.pointer (some ⟨z, 0, none⟩))] w (B32Post St X w rest f cs 0 10 ns rest') := by
  have hqw := hq.lt
  have hXw := R.xl w rest hst
  obtain ⟨W, hW⟩ : ∃ W, W = (w.alloc (.cells #[.pointer (some ⟨f, 0, none⟩), .pointer (some ⟨f, 1, none⟩), .pointer (some ⟨f, 2, none⟩), .pointer (some ⟨f, 3, none⟩), .pointer (some ⟨f, 4, none⟩), .pointer (some ⟨f, 5, none⟩), .pointer (some ⟨f, 6, none⟩), .pointer (some ⟨f, 7, none⟩), .pointer (some ⟨f, 8, none⟩), .pointer (some ⟨f, 9, none⟩)] 193)).drew := ⟨_, rfl⟩
  have hb : Below w.heap.size w W := by rw [hW]; exact ((Below.refl w.heap.size w).alloc (Nat.le_refl _) _).drew
  have hc : Cs W w.heap.size #[.pointer (some ⟨f, 0, none⟩), .pointer (some ⟨f, 1, none⟩), .pointer (some ⟨f, 2, none⟩), .pointer (some ⟨f, 3, none⟩), .pointer (some ⟨f, 4, none⟩), .pointer (some ⟨f, 5, none⟩), .pointer (some ⟨f, 6, none⟩), .pointer (some ⟨f, 7, none⟩), .pointer (some ⟨f, 8, none⟩), .pointer (some ⟨f, 9, none⟩)] := by rw [hW]; exact (Cs.new w 193 _).drew
  have hWs : W.heap.size = w.heap.size + 1 := by rw [hW]; simp
  have H := Lib.hid (be32s_walk R W rest (R.keep _ _ _ hst (fun k hk => hb.block k (hXw k hk))) f cs (hq.below hb hqw) hqX 0 10 (by omega) (by omega) w.heap.size (fun j hj => by
      rw [hc.cell j]
      rcases (by omega : j = 0 ∨ j = 1 ∨ j = 2 ∨ j = 3 ∨ j = 4 ∨ j = 5 ∨ j = 6 ∨ j = 7 ∨ j = 8 ∨ j = 9) with rfl | rfl | rfl | rfl | rfl | rfl | rfl | rfl | rfl | rfl <;> rfl) (by omega) (fun hx => by have := hXw _ hx; omega) hc.lt ns rest' hns hnb (by omega))
  have HB := Lib.hid (And.intro hb hWs)
  have HW := Lib.hid hW
  clear hst hq R hc hb hWs hr
  go_enter Try.func85, Try.ntmps85
  go_wp2_with fail
  refine wp_region_plan (fun w' => True) 33 (.quiet 0 (.quiet 1 (.quiet 2 (.quiet 3 (.quiet 4 (.quiet 5 (.quiet 6 (.quiet 7 (.quiet 8 (.quiet 9 (.quiet 10 (.quiet 11 (.quiet 12 (.quiet 13 (.quiet 14 (.quiet 15 (.quiet 16 (.quiet 17 (.quiet 18 (.quiet 19 (.quiet 20 (.quiet 21 (.quiet 22 (.quiet 23 (.quiet 24 (.quiet 25 (.quiet 26 (.quiet 27 (.quiet 28 (.quiet 29 (.quiet 30 (.eff 31 (.eff 32 (.eff 33 .done)))))))))))))))))))))))))))))))))) (by kernel_rfl) (by kernel_rfl) trivial ?_
  simp only [planO, opAt, List.getElem?_toArray, List.getElem?_cons_zero, List.getElem?_cons_succ, Option.getD_some, Nat.reduceBEq]
  iterate 31
    refine' SeqT.quiet (by rfl) ?_ ?_
    rotate_left
    · rintro w' hS1
      go_simp
      try with_reducible rfl
    try simp only [Act.put, List.setIfInBounds_toArray, List.set_cons_zero, List.set_cons_succ]
  refine SeqT.eff ?_ ?_
  · rfl
  intro K hK
  go_simp
  refine hK.out _ _ (.inr trivial) ?_
  clear hK K
  try simp only [Act.put, List.setIfInBounds_toArray, List.set_cons_zero, List.set_cons_succ]
  refine SeqT.eff ?_ ?_
  · rfl
  intro K hK
  go_simp
  rw [← HW.out]
  refine H.out.mono ?_
  rintro e w1 hp
  obtain ⟨vr, rfl⟩ := hp.ret
  have Hp := Lib.hid hp
  clear hp
  refine hK.out _ _ (.inr trivial) ?_
  clear hK K
  try simp only [Act.put, List.setIfInBounds_toArray, List.set_cons_zero, List.set_cons_succ]
  refine SeqT.last ?_ ?_
  · rfl
  intro K hK
  go_simp
  refine hK.out _ _ ?_
  clear hK K
  obtain ⟨hf, h⟩ := Hp.out
  have hF : Fr w.heap.size (fun k => k = f ∨ X k) w w1 := (Fr.of_below HB.out.1).trans (hf.mono (by have := HB.out.2; omega) (fun _ _ h => h))
  rcases h with ⟨h1, ⟨s, he⟩, h2, h3⟩ | ⟨h1, he, h2, h3⟩ <;> (injection he with he; subst he)
  · have HFIN := Lib.hid (show B32Post St X w rest f cs 0 10 ns rest' (.returned (.iface 207 (.string s))) w1 from ⟨hF, .inl ⟨h1, ⟨s, rfl⟩, h2, h3⟩⟩)
    clear hf hF h1 h2 h3 hW
    go_wp2_with fail
    go_ret
    exact HFIN.out
  · have HFIN := Lib.hid (show B32Post St X w rest f cs 0 10 ns rest' (.returned .nilIface) w1 from ⟨hF, .inr ⟨h1, rfl, h2, h3⟩⟩)
    clear hf hF h1 h2 h3 hW
    go_wp2_with fail
    go_ret
    exact HFIN.out

theorem el91b : Elem Try.prog 91 98 2 16 := by
  have info98 : (Try.prog.info? 98).map (fun i => (i.zero, i.size, i.bytes)) = some (some (.agg #[.int .u64 0, .int .u64 0]), 2, 16) := by kernel_rfl
  obtain ⟨i, hi, hz0, hz1, hz2⟩ := info_parts info98
  exact ⟨Try.underlying91, i, _, hi, hz0, hz1, hz2, rfl, by omega⟩

/-- The bytes of an entry. -/
def be16n (a z : Nat) : List UInt8 := be4 ((a / 4294967296 : Nat) : Int) ++ be4 ((a % 4294967296 : Nat) : Int) ++ be4 ((z / 4294967296 : Nat) : Int) ++ be4 ((z % 4294967296 : Nat) : Int)

def EntryPost (St : World → List UInt8 → Prop) (X : Nat → Prop) (w : World) (rest : List UInt8) (q a z : Nat) (u v : Value) (rest' : List UInt8) (e : Ending) (w' : World) : Prop :=
  Fr w.heap.size (fun k => k = q ∨ X k) w w' ∧
  ((rest.length < 16 ∧ (∃ s, e = .returned (.iface 207 (.string s))) ∧ Cs w' q #[u, v] ∧ ∃ r2, St w' r2) ∨
   (rest = be16n a z ++ rest' ∧ e = .returned .nilIface ∧ Cs w' q #[.int .u64 a, .int .u64 z] ∧ St w' rest'))

set_option maxRecDepth 20000 in
set_option maxHeartbeats 1000000 in
/-- ReserveEntry.read -/
theorem eread_walk {tid fid z : Nat} {X : Nat → Prop} {St : World → List UInt8 → Prop} (R : RdK tid fid z X St) (w : World) (rest : List UInt8) (hst : St w rest) (q : Nat) (u v : Value) (hq : Cs w q #[u, v]) (hqX : ¬ X q) (a zz : Nat) (ha : a < 18446744073709551616) (hz : zz < 18446744073709551616) (rest' : List UInt8) (hr : rest.length < 16 ∨ rest = be16n a zz ++ rest') :
    Calls Try.prog 86 #[.pointer (some ⟨q, 0, none⟩), .iface tid (.pointer (some ⟨z, 0, none⟩))] w (EntryPost St X w rest q a zz u v rest') := by
  have hqw := hq.lt
  have hXw := R.xl w rest hst
  have Hst := Lib.hid (And.intro hst (And.intro hq (And.intro R hr)))
  clear hst hq R hr
  go_enter Try.func86, Try.ntmps86
  obtain ⟨W, hW⟩ : ∃ W, W = w.alloc (.cells #[.int .u8 0, .int .u8 0, .int .u8 0, .int .u8 0, .int .u8 0, .int .u8 0, .int .u8 0, .int .u8 0, .int .u8 0, .int .u8 0, .int .u8 0, .int .u8 0, .int .u8 0, .int .u8 0, .int .u8 0, .int .u8 0] 199) := ⟨_, rfl⟩
  have hb : Below w.heap.size w W := by rw [hW]; exact (Below.refl _ _).alloc (Nat.le_refl _) _
  have hWc : Cs W w.heap.size (List.replicate 16 (Value.int .u8 0)).toArray := by rw [hW]; exact Cs.new _ _ _
  have hWs : W.heap.size = w.heap.size + 1 := by rw [hW]; simp
  obtain ⟨hst, hq, R, hr⟩ := Hst.out
  have HF := Lib.hid (full_walk R W rest w.heap.size 0 16 16 (List.replicate 16 (Value.int .u8 0)) (R.keep _ _ _ hst (fun k hk => hb.block k (hXw k hk))) hWc (fun hx => by have := hXw _ hx; omega) (by omega) (by simp) (Nat.le_refl _) (by decide))
  have HB := Lib.hid (And.intro hb hWs)
  have HW := Lib.hid hW
  clear hst hq R hr hb hWc hWs hW
  go_wp2_with fail
  rw [← HW.out]
  refine HF.out.mono ?_
  rintro e w1 ⟨l, r1, hl1, hs1, hc1, hf1, hor⟩
  have hFw : Fr w.heap.size (fun k => k = q ∨ X k) w w1 := (Fr.of_below HB.out.1).trans (hf1.mono (by have := HB.out.2; omega) (fun k hk h => h.elim (fun h => by omega) .inr))
  have hq1 : Cs w1 q #[u, v] := (Hst.out.2.1.below HB.out.1 hqw).fr2 hf1 (fun h => h.elim (fun h => by omega) hqX)
  rcases hor with ⟨hll, rfl⟩ | ⟨hll, s, rfl⟩
  case inr =>
    have HFIN := Lib.hid (show EntryPost St X w rest q a zz u v rest' (.returned (.iface 207 (.string s))) w1 from ⟨hFw, .inl ⟨hll, ⟨s, rfl⟩, hq1, r1, hs1⟩⟩)
    clear hFw hq1 hl1 hs1 hc1 hf1 hll HF
    go_wp2_with fail
    go_ret
    exact HFIN.out
  have hr2 : rest = be16n a zz ++ rest' := Hst.out.2.2.2.resolve_left (fun h => by
    have h2 := congrArg List.length hl1
    rw [List.length_append] at h2
    omega)
  have hlb : l = be16n a zz ∧ r1 = rest' := by
    have h2 : l ++ r1 = be16n a zz ++ rest' := hl1.symm.trans hr2
    exact List.append_inj h2 (by rw [hll]; rfl)
  obtain ⟨rfl, rfl⟩ := hlb
  rw [splice_all _ _ (by simp [hll])] at hc1
  have hbuf : ∀ j b, (be16n a zz)[j]? = some b → w1.drew.cell? ⟨w.heap.size, j, none⟩ = some (bv b) := fun j b hb => by
    have := hc1.drew.cell j
    rw [this]
    simp [hb]
  have hbufN : ∀ j b, (be16n a zz)[j]? = some b → ∀ n, (w1.drewN n).cell? ⟨w.heap.size, j, none⟩ = some (bv b) := fun j b hb n => by
    have := (hc1.drewN n).cell j
    rw [this]
    simp [hb]
  have b0 := hbuf 0 _ rfl
  have b1 := hbuf 1 _ rfl
  have b2 := hbuf 2 _ rfl
  have b3 := hbuf 3 _ rfl
  have b4 := hbuf 4 _ rfl
  have b5 := hbuf 5 _ rfl
  have b6 := hbuf 6 _ rfl
  have b7 := hbuf 7 _ rfl
  have b8 := hbufN 8 _ rfl
  have b9 := hbufN 9 _ rfl
  have b10 := hbufN 10 _ rfl
  have b11 := hbufN 11 _ rfl
  have b12 := hbufN 12 _ rfl
  have b13 := hbufN 13 _ rfl
  have b14 := hbufN 14 _ rfl
  have b15 := hbufN 15 _ rfl
  have haa : ((be32 (byteOf (a / 4294967296 : Nat) 24) (byteOf (a / 4294967296 : Nat) 16) (byteOf (a / 4294967296 : Nat) 8) (byteOf (a / 4294967296 : Nat) 0) * 4294967296 + be32 (byteOf (a % 4294967296 : Nat) 24) (byteOf (a % 4294967296 : Nat) 16) (byteOf (a % 4294967296 : Nat) 8) (byteOf (a % 4294967296 : Nat) 0) : Nat) : Int) = (a : Int) := by
    rw [be32_byteOf _ (by omega), be32_byteOf _ (by omega), Nat.div_add_mod']
  have hzz : ((be32 (byteOf (zz / 4294967296 : Nat) 24) (byteOf (zz / 4294967296 : Nat) 16) (byteOf (zz / 4294967296 : Nat) 8) (byteOf (zz / 4294967296 : Nat) 0) * 4294967296 + be32 (byteOf (zz % 4294967296 : Nat) 24) (byteOf (zz % 4294967296 : Nat) 16) (byteOf (zz % 4294967296 : Nat) 8) (byteOf (zz % 4294967296 : Nat) 0) : Nat) : Int) = (zz : Int) := by
    rw [be32_byteOf _ (by omega), be32_byteOf _ (by omega), Nat.div_add_mod']
  have HA := Lib.hid (And.intro hFw (And.intro hq1 (And.intro hs1 hr2)))
  have c0 := hq1.cell 0
  have c1 := hq1.cell 1
  have f0 := hq1.frozen 0
  have f1 := hq1.frozen 1
  simp at c0 c1
  clear hFw hq1 hs1 hr2 hl1 hf1 hc1 hbuf hbufN HF hll
  go_wp2_with fail
  refine wp_region_plan (fun w' => True) 11 (.quiet 0 (.quiet 1 (.quiet 2 (.quiet 4 (.eff 3 (.eff 5 (.quiet 6 (.quiet 7 (.eff 8 (.quiet 9 (.quiet 10 (.eff 11 .done)))))))))))) (by kernel_rfl) (by kernel_rfl) trivial ?_
  simp only [planO, opAt, List.getElem?_toArray, List.getElem?_cons_zero, List.getElem?_cons_succ, Option.getD_some, Nat.reduceBEq]
  iterate 4
    refine' SeqT.quiet (by rfl) ?_ ?_
    rotate_left
    · rintro w' hS1
      go_simp
      try with_reducible rfl
    try simp only [Act.put, List.setIfInBounds_toArray, List.set_cons_zero, List.set_cons_succ]
  refine SeqT.eff ?_ ?_
  · rfl
  intro K hK
  go_simp
  refine (beU64 w1.drew w.heap.size 0 8 16 (byteOf (a / 4294967296 : Nat) 24) (byteOf (a / 4294967296 : Nat) 16) (byteOf (a / 4294967296 : Nat) 8) (byteOf (a / 4294967296 : Nat) 0) (byteOf (a % 4294967296 : Nat) 24) (byteOf (a % 4294967296 : Nat) 16) (byteOf (a % 4294967296 : Nat) 8) (byteOf (a % 4294967296 : Nat) 0) (by omega) (by omega) (by omega) b0 b1 b2 b3 b4 b5 b6 b7).mono ?_
  rintro e w2 ⟨rfl, ka, rfl⟩
  rw [haa]
  refine hK.out _ _ (.inr trivial) ?_
  clear hK K
  try simp only [Act.put, List.setIfInBounds_toArray, List.set_cons_zero, List.set_cons_succ]
  refine SeqT.eff ?_ ?_
  · rfl
  intro K hK
  go_simp
  refine (beU64 _ w.heap.size 8 8 8 (byteOf (zz / 4294967296 : Nat) 24) (byteOf (zz / 4294967296 : Nat) 16) (byteOf (zz / 4294967296 : Nat) 8) (byteOf (zz / 4294967296 : Nat) 0) (byteOf (zz % 4294967296 : Nat) 24) (byteOf (zz % 4294967296 : Nat) 16) (byteOf (zz % 4294967296 : Nat) 8) (byteOf (zz % 4294967296 : Nat) 0) (by omega) (by omega) (by omega) (b8 _) (b9 _) (b10 _) (b11 _) (b12 _) (b13 _) (b14 _) (b15 _)).mono ?_
  rintro e w2 ⟨rfl, kb, rfl⟩
  rw [hzz]
  refine hK.out _ _ (.inr trivial) ?_
  clear hK K
  try simp only [Act.put, List.setIfInBounds_toArray, List.set_cons_zero, List.set_cons_succ]
  iterate 2
    refine' SeqT.quiet (by rfl) ?_ ?_
    rotate_left
    · rintro w' hS1
      go_simp
      try with_reducible rfl
    try simp only [Act.put, List.setIfInBounds_toArray, List.set_cons_zero, List.set_cons_succ]
  refine SeqT.eff ?_ ?_
  · rfl
  intro K hK
  go_simp
  refine hK.out _ _ (.inr trivial) ?_
  clear hK K
  try simp only [Act.put, List.setIfInBounds_toArray, List.set_cons_zero, List.set_cons_succ]
  iterate 2
    refine' SeqT.quiet (by rfl) ?_ ?_
    rotate_left
    · rintro w' hS1
      go_simp
      try with_reducible rfl
    try simp only [Act.put, List.setIfInBounds_toArray, List.set_cons_zero, List.set_cons_succ]
  refine SeqT.last ?_ ?_
  · rfl
  intro K hK
  go_simp
  refine hK.out _ _ ?_
  clear hK K
  have hq2 : Cs (((w1.drewN (1 + ka + kb)).setCell ⟨q, 0, none⟩ (.int .u64 (a : Int))).setCell ⟨q, 1, none⟩ (.int .u64 (zz : Int))) q #[.int .u64 (a : Int), .int .u64 (zz : Int)] := by
    have := ((HA.out.2.1.drewN (1 + ka + kb)).set_ 0 (.int .u64 (a : Int))).set_ 1 (.int .u64 (zz : Int))
    simpa using this
  have hF2 : Fr w.heap.size (fun k => k = q ∨ X k) w (((w1.drewN (1 + ka + kb)).setCell ⟨q, 0, none⟩ (.int .u64 (a : Int))).setCell ⟨q, 1, none⟩ (.int .u64 (zz : Int))) := ((HA.out.1.drewN _).setCell (p := ⟨q, 0, none⟩) (.inr (.inl rfl)) _).setCell (p := ⟨q, 1, none⟩) (.inr (.inl rfl)) _
  have hs2 : St (((w1.drewN (1 + ka + kb)).setCell ⟨q, 0, none⟩ (.int .u64 (a : Int))).setCell ⟨q, 1, none⟩ (.int .u64 (zz : Int))) r1 := Hst.out.2.2.1.keep _ _ _ HA.out.2.2.1 (fun x hx => by
    have hxq : x ≠ q := fun e => hqX (e ▸ hx)
    rw [Below.heap_setCell _ _ _ _ hxq, Below.heap_setCell _ _ _ _ hxq]
    rfl)
  have HFIN := Lib.hid (show EntryPost St X w rest q a zz u v r1 (.returned .nilIface) _ from ⟨hF2, .inr ⟨HA.out.2.2.2, rfl, hq2, hs2⟩⟩)
  clear hq2 hF2 hs2 b0 b1 b2 b3 b4 b5 b6 b7 b8 b9 b10 b11 b12 b13 b14 b15 c0 c1 f0 f1 haa hzz
  go_wp2_with fail
  go_ret
  exact HFIN.out
end Go.Proofs.Ytlbhadggfipckaa
