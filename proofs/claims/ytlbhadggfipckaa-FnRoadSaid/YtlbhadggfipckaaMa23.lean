/-
  FDT.readHeader, FDT.readMemoryReservationBlock, FDT.checkLayout.
-/
import Derived.Test.YtlbhadggfipckaaMa22
import Derived.Test.YtlbhadggfipckaaMa17
set_option linter.unusedVariables false
set_option linter.unusedSimpArgs false
namespace Go.Proofs.Ytlbhadggfipckaa
open Go.RowKit

def u32s (ns : List Nat) : List Value := ns.map fun m : Nat => .int .u32 (m : Int)

/-- An FDT's cells. -/
def fdtC (n0 n1 n2 n3 n4 n5 n6 n7 n8 n9 : Nat) (s p : Value) : Array Value :=
  #[.int .u32 n0, .int .u32 n1, .int .u32 n2, .int .u32 n3, .int .u32 n4, .int .u32 n5, .int .u32 n6, .int .u32 n7, .int .u32 n8, .int .u32 n9, s, p]

def RHdPost (w : World) (f r : Nat) (dk : Nat → Prop) (A : Option Addr) (c : Nat) (dt : List UInt8) (n0 n1 n2 n3 n4 n5 n6 n7 n8 n9 : Nat) (s p : Value) (more : List UInt8) (e : Ending) (w' : World) : Prop :=
  Fr w.heap.size (fun k => k = f ∨ k = r ∨ dk k) w w' ∧
  (((dt.length < 40 ∨ n0 ≠ 3490578157) ∧ ∃ t z, e = .returned (.iface t z)) ∨
   (n0 = 3490578157 ∧ dt = beN [n0, n1, n2, n3, n4, n5, n6, n7, n8, n9] ++ more ∧ e = .returned .nilIface ∧ Cs w' f (fdtC n0 n1 n2 n3 n4 n5 n6 n7 n8 n9 s p) ∧ ∃ i, BR w' r dk A c dt i))

set_option maxRecDepth 20000 in
set_option maxHeartbeats 1000000 in
theorem rhdr_walk (w : World) (f r : Nat) (dk : Nat → Prop) (A : Option Addr) (c : Nat) (dt : List UInt8) (i : Nat) (h : BR w r dk A c dt i) (s p : Value) (hf : Cs w f (fdtC 0 0 0 0 0 0 0 0 0 0 s p)) (hfr : f ≠ r) (hfd : ¬ dk f) (n0 n1 n2 n3 n4 n5 n6 n7 n8 n9 : Nat) (more : List UInt8)
    (hnb : ∀ m ∈ [n0, n1, n2, n3, n4, n5, n6, n7, n8, n9], m < 4294967296) (hr : dt.length < 40 ∨ dt = beN [n0, n1, n2, n3, n4, n5, n6, n7, n8, n9] ++ more) (hgood : n0 = 3490578157 → n5 = 17 ∧ n1 ≤ 1073741824) :
    Calls Try.prog 79 #[.pointer (some ⟨f, 0, none⟩), .iface 142 (.pointer (some ⟨r, 0, none⟩))] w (RHdPost w f r dk A c dt n0 n1 n2 n3 n4 n5 n6 n7 n8 n9 s p more) := by
  have hm := m142s
  have hnl := n142s
  have HS := Lib.hid (seek_walk w r dk A c dt i 0 h)
  have hfl := hf.lt
  have Hh := Lib.hid (And.intro h (And.intro hf hr))
  have Hnb := Lib.hid hnb
  clear h hf hnb hr
  go_enter Try.func79, Try.ntmps79
  go_wp2_with fail
  refine HS.out.mono ?_
  rintro e w1 ⟨rfl, hb1, hf1⟩
  have hc1 := Hh.out.2.1.fr2 hf1 hfr
  have HR := Lib.hid (hread_walk (br_rdk r dk A c dt) w1 dt ⟨0, by omega, hb1, by simp⟩ f (fdtC 0 0 0 0 0 0 0 0 0 0 s p).toList hc1 (fun h => h.elim hfr hfd) (by simp [fdtC]) [n0, n1, n2, n3, n4, n5, n6, n7, n8, n9] more rfl Hnb.out Hh.out.2.2)
  have HF1 := Lib.hid hf1
  clear hb1 hf1 hc1
  go_wp2_with fail
  refine HR.out.mono ?_
  rintro e w2 ⟨hf2, hor⟩
  have hF2 : Fr w.heap.size (fun k => k = f ∨ k = r ∨ dk k) w w2 := (HF1.out.mono (Nat.le_refl _) (fun _ _ h => .inr (.inl h))).trans (hf2.mono HF1.out.size (fun _ _ h => h))
  rcases hor with ⟨hl, ⟨s1, rfl⟩, -⟩ | ⟨hdt, rfl, hcs, i2, -, hbr, -⟩
  · have HFIN := Lib.hid (show RHdPost w f r dk A c dt n0 n1 n2 n3 n4 n5 n6 n7 n8 n9 s p more (.returned (.iface 207 (.string s1))) w2 from ⟨hF2, .inl ⟨.inl hl, _, _, rfl⟩⟩)
    clear hF2 hf2 hl HR
    go_wp2_with fail
    go_ret
    exact HFIN.out
  have hcs' : Cs w2 f (fdtC n0 n1 n2 n3 n4 n5 n6 n7 n8 n9 s p) := hcs
  have q0 : w2.cell? ⟨f, 0, none⟩ = some (.int .u32 n0) := (hcs'.cell 0).trans rfl
  have q1 : w2.cell? ⟨f, 1, none⟩ = some (.int .u32 n1) := (hcs'.cell 1).trans rfl
  have q5 : w2.cell? ⟨f, 5, none⟩ = some (.int .u32 n5) := (hcs'.cell 5).trans rfl
  have HA := Lib.hid (And.intro hF2 (And.intro hdt (And.intro hcs' hbr)))
  clear hF2 hf2 hdt hcs hcs' hbr HR
  by_cases h0 : n0 = 3490578157
  · obtain ⟨g5, g1⟩ := hgood h0
    have d0 : ((n0 : Int) != 3490578157) = false := by simp; omega
    have d5 : ((n5 : Int) == 16) = false := by simp; omega
    have d6 : ((n5 : Int) == 17) = true := by simp; omega
    have d1 : decide ((1073741824 : Int) < (n1 : Int)) = false := decide_eq_false (by omega)
    have HFIN := Lib.hid (show RHdPost w f r dk A c dt n0 n1 n2 n3 n4 n5 n6 n7 n8 n9 s p more (.returned .nilIface) w2 from ⟨HA.out.1, .inr ⟨h0, HA.out.2.1, rfl, HA.out.2.2.1, i2, HA.out.2.2.2⟩⟩)
    clear h0 g5 g1 hgood
    go_wp2_with fail
    go_ret
    exact HFIN.out
  · have d0 : ((n0 : Int) != 3490578157) = true := by simp; omega
    have HF := Lib.hid HA.out.1
    have H0 := Lib.hid h0
    clear h0 hgood
    go_wp2_with fail
    refine (errNew_walk _ _).mono ?_
    rintro e w3 ⟨⟨z, rfl⟩, hb3⟩
    have HFIN := Lib.hid (show RHdPost w f r dk A c dt n0 n1 n2 n3 n4 n5 n6 n7 n8 n9 s p more (.returned (.iface 145 z)) w3 from ⟨HF.out.trans (Fr.of_below (hb3.mono HF.out.size)), .inl ⟨.inr H0.out, _, _, rfl⟩⟩)
    clear hb3
    go_wp2_with fail
    go_ret
    exact HFIN.out

/-- The bytes of the rooms. -/
def bytesR (rs : List (Nat × Nat)) : List UInt8 := rs.flatMap fun r => be16n r.1 r.2

theorem be16n_len (a z : Nat) : (be16n a z).length = 16 := rfl
theorem bytesR_len (rs : List (Nat × Nat)) : (bytesR rs).length = 16 * rs.length := by
  induction rs with
  | nil => rfl
  | cons r rs ih =>
    have : bytesR (r :: rs) = be16n r.1 r.2 ++ bytesR rs := rfl
    rw [this, List.length_append, ih, be16n_len]
    simp; omega

theorem bytesR_drop : ∀ (rs : List (Nat × Nat)) (j : Nat) (more : List UInt8) (r : Nat × Nat), rs[j]? = some r → (bytesR rs ++ more).drop (16 * j) = be16n r.1 r.2 ++ (bytesR rs ++ more).drop (16 * (j + 1))
  | [], j, more, r, h => by simp at h
  | x :: rs, 0, more, r, h => by
    simp at h
    subst h
    have : bytesR (x :: rs) = be16n x.1 x.2 ++ bytesR rs := rfl
    rw [this]
    rfl
  | x :: rs, j + 1, more, r, h => by
    have ih := bytesR_drop rs j more r (by simpa using h)
    have : bytesR (x :: rs) ++ more = be16n x.1 x.2 ++ (bytesR rs ++ more) := by show (be16n x.1 x.2 ++ bytesR rs) ++ more = _; rw [List.append_assoc]
    have hd : ∀ k, (be16n x.1 x.2 ++ (bytesR rs ++ more)).drop (16 * (k + 1)) = (bytesR rs ++ more).drop (16 * k) := fun k => by
      rw [show 16 * (k + 1) = (be16n x.1 x.2).length + 16 * k by rw [be16n_len]; omega, List.drop_append]
      simp [List.drop_eq_nil_of_le]
    rw [this, hd j, hd (j + 1)]
    exact ih

def castR (r : Nat × Nat) : Int × Int := ((r.1 : Int), (r.2 : Int))

def ResPost (w : World) (f r : Nat) (dk : Nat → Prop) (A : Option Addr) (c : Nat) (dt : List UInt8) (n0 n1 n2 n3 ro n5 n6 n7 n8 n9 : Nat) (p : Value) (rs : List (Nat × Nat)) (e : Ending) (w' : World) : Prop :=
  Fr w.heap.size (fun k => k = f ∨ k = r ∨ dk k) w w' ∧
  ((dt.length < ro + 16 * (rs.length + 1) ∧ ∃ t z, e = .returned (.iface t z)) ∨
   (ro + 16 * (rs.length + 1) ≤ dt.length ∧ e = .returned .nilIface ∧ ∃ Ar cr i, Cs w' f (fdtC n0 n1 n2 n3 ro n5 n6 n7 n8 n9 (.slice Ar rs.length cr) p) ∧ w'.ownsRow w.heap.size 98 2 (.slice Ar rs.length cr) rs.length ((rs.map fun x => roomC (castR x)).flatMap duo) ∧ BR w' r dk A c dt i))

set_option maxRecDepth 20000 in
set_option maxHeartbeats 2000000 in
theorem reserve_walk (w : World) (f r : Nat) (dk : Nat → Prop) (A : Option Addr) (c : Nat) (dt : List UInt8) (i : Nat) (h : BR w r dk A c dt i) (n0 n1 n2 n3 ro n5 n6 n7 n8 n9 : Nat) (s p : Value) (hf : Cs w f (fdtC n0 n1 n2 n3 ro n5 n6 n7 n8 n9 s p)) (hfr : f ≠ r) (hfd : ¬ dk f)
    (hro : 40 ≤ ro ∧ ro % 8 = 0 ∧ ro ≤ dt.length) (rs : List (Nat × Nat)) (more tail : List UInt8) (hdt : dt.drop ro ++ tail = bytesR (rs ++ [(0, 0)]) ++ more) (hrs : ∀ x ∈ rs, x.1 < 18446744073709551616 ∧ x.2 < 18446744073709551616 ∧ x.2 ≠ 0) (hrl : rs.length ≤ 100) :
    Calls Try.prog 80 #[.pointer (some ⟨f, 0, none⟩), .iface 142 (.pointer (some ⟨r, 0, none⟩))] w (ResPost w f r dk A c dt n0 n1 n2 n3 ro n5 n6 n7 n8 n9 p rs) := by
  have hm := m142s
  have hnl := n142s
  have hmf : ∀ (fn : Fn) (first cap : Array Value) (w : World), (Instr.makeFunc fn first cap).run Try.prog w = .ok (.func fn first cap) w := fun _ _ _ _ => rfl
  have hsm := h.sm
  have hfl := hf.lt
  have c4 : w.cell? ⟨f, 4, none⟩ = some (.int .u32 (ro : Nat)) := (hf.cell 4).trans rfl
  have d4 : decide ((ro : Int) < 40) = false := decide_eq_false (by omega)
  have d8 : ((ro : Int)).tmod 8 = 0 := by rw [Int.tmod_eq_emod_of_nonneg (by omega)]; omega
  have hwro : IntKind.i64.wrap (ro : Int) = (ro : Int) := by simp only [IntKind.wrap, IntKind.bits, IntKind.signed]; simp; omega
  have Hh := Lib.hid (And.intro h (And.intro hf (And.intro hdt hrs)))
  clear h hf hdt hrs
  go_enter Try.func80, Try.ntmps80
  go_wp2_with fail
  refine wp_region_plan (fun w' => w'.cell? ⟨f, 4, none⟩ = some (.int .u32 (ro : Nat))) 15 (.quiet 0 (.quiet 1 (.quiet 2 (.quiet 3 (.quiet 4 (.quiet 5 (.quiet 6 (.quiet 7 (.quiet 8 (.quiet 9 (.eff 10 (.quiet 11 (.quiet 12 (.quiet 13 (.quiet 14 (.eff 15 .done)))))))))))))))) (by kernel_rfl) (by kernel_rfl) c4 ?_
  simp only [planO, opAt, List.getElem?_toArray, List.getElem?_cons_zero, List.getElem?_cons_succ, Option.getD_some, Nat.reduceBEq]
  iterate 10
    refine' SeqT.quiet (by rfl) ?_ ?_
    rotate_left
    · rintro w' hS1
      go_simp
      try with_reducible rfl
    try simp only [Act.put, List.setIfInBounds_toArray, List.set_cons_zero, List.set_cons_succ]
  refine SeqT.eff ?_ ?_
  · rfl
  intro K hK
  go_simp
  refine (seek_walk w.drew r dk A c dt i ro (Hh.out.1.keep rfl (fun k hk => rfl))).mono ?_
  rintro e w1 ⟨rfl, hb1, hf1⟩
  have x4 : w1.cell? ⟨f, 4, none⟩ = some (.int .u32 (ro : Nat)) := (hf1.cell (by exact hfl) hfr).trans c4
  refine hK.out _ _ (.inr x4) ?_
  clear hK K
  try simp only [Act.put, List.setIfInBounds_toArray, List.set_cons_zero, List.set_cons_succ]
  iterate 4
    refine' SeqT.quiet (by rfl) ?_ ?_
    rotate_left
    · rintro w' hS1
      go_simp
      try with_reducible rfl
    try simp only [Act.put, List.setIfInBounds_toArray, List.set_cons_zero, List.set_cons_succ]
  refine SeqT.last ?_ ?_
  · rfl
  intro K hK
  go_simp
  refine hK.out _ _ ?_
  clear hK K
  have hF1 : Fr w.heap.size (fun k => k = f ∨ k = r ∨ dk k) w w1 := ((Fr.refl w.heap.size (fun k => k = f ∨ k = r ∨ dk k) w).drew).trans (hf1.mono (Nat.le_refl _) (fun _ _ h => .inr (.inl h)))
  have hq1 := Hh.out.2.1.drew.fr2 hf1 hfr
  have fz1 := hq1.frozen 10
  have k1 : w1.cell? ⟨f, 10, none⟩ = some s := (hq1.cell 10).trans rfl
  have HA1 := Lib.hid (And.intro hF1 (And.intro hq1 hb1))
  have hs1 : w.heap.size ≤ w1.heap.size := hf1.size
  have hfl1 := hq1.lt
  have HFC : ∃ W2, W2 = (w1.setCell ⟨f, 10, none⟩ (.slice (some ⟨w1.heap.size, 0, none⟩) 0 0)).alloc (.cells #[] 98) := ⟨_, rfl⟩
  obtain ⟨W2, hW2⟩ := HFC
  have hz : (w1.setCell ⟨f, 10, none⟩ (.slice (some ⟨w1.heap.size, 0, none⟩) 0 0)).heap.size = w1.heap.size := by simp [World.setCell]
  have hq2 : Cs W2 f (fdtC n0 n1 n2 n3 ro n5 n6 n7 n8 n9 (.slice (some ⟨w1.heap.size, 0, none⟩) 0 0) p) := by
    rw [hW2]
    have := (hq1.set_ 10 (.slice (some ⟨w1.heap.size, 0, none⟩) 0 0)).alloc (.cells #[] 98)
    simpa [fdtC] using this
  have hF2 : Fr w.heap.size (fun k => k = f ∨ k = r ∨ dk k) w W2 := by
    rw [hW2]
    exact (hF1.setCell (p := ⟨f, 10, none⟩) (.inr (.inl rfl)) _).alloc (by rw [hz]; exact hs1) _
  have hb2 : BR W2 r dk A c dt ro := by
    rw [hW2]
    exact hb1.keep (by rw [Below.heap_alloc _ _ _ (by rw [hz]; exact hb1.cs.lt), Below.heap_setCell _ _ _ _ (Ne.symm hfr)]) (fun k hk => by rw [Below.heap_alloc _ _ _ (by rw [hz]; exact hb1.dl k hk), Below.heap_setCell _ _ _ _ (fun e => hfd (by simp at e; rw [← e]; exact hk))])
  have ho2 : W2.ownsRow w.heap.size 98 2 (.slice (some ⟨w1.heap.size, 0, none⟩) 0 0) 0 [] := by
    rw [hW2]
    have := World.ownsRow_made (base := w.heap.size) (e := 98) (size := 2) (w1.setCell ⟨f, 10, none⟩ (.slice (some ⟨w1.heap.size, 0, none⟩) 0 0)) #[] 0 (by rw [hz]; exact hs1) (by simp [maxLen]) (by simp)
    rw [hz] at this
    exact this
  have H2 := Lib.hid (And.intro hq2 (And.intro hF2 (And.intro hb2 ho2)))
  have HW2 := Lib.hid hW2
  have hs2 : w.heap.size ≤ W2.heap.size := hF2.size
  clear hF1 hq1 hb1 hf1 x4 c4 hq2 hF2 hb2 ho2 hW2 hz HA1
  go_wp2_with fail
  rw [← HW2.out]
  clear HW2 fz1 k1 hfl1
  go_loopw [7] (fun x wr => ∃ j : Nat, j ≤ rs.length ∧ ∃ Ar cr, Cs wr f (fdtC n0 n1 n2 n3 ro n5 n6 n7 n8 n9 (.slice Ar j cr) p) ∧ wr.ownsRow w.heap.size 98 2 (.slice Ar j cr) j (((rs.take j).map fun x => roomC (castR x)).flatMap duo) ∧ BSt r dk A c dt wr (dt.drop (ro + 16 * j)) ∧ ro + 16 * j ≤ dt.length ∧ Fr w.heap.size (fun k => k = f ∨ k = r ∨ dk k) w wr) (fun _ wr => rs.length - slen ((wr.cell? ⟨f, 10, none⟩).getD undef))
  case atStart => exact ⟨0, by omega, _, _, H2.out.1, by simpa using H2.out.2.2.2, ⟨ro, by omega, H2.out.2.2.1, rfl⟩, by omega, H2.out.2.1⟩
  case round =>
    obtain ⟨j, hj, Ar, cr, hq, hown, hbr, hpos, hF⟩ := hrel
    obtain ⟨wo, rfl⟩ : ∃ wo : World, wo = wr := ⟨_, rfl⟩
    have hso := hF.size
    have hmeas : slen ((wo.cell? ⟨f, 10, none⟩).getD undef) = j := by rw [hq.cell 10]; rfl
    have hjl : j < (rs ++ [((0 : Nat), (0 : Nat))]).length := by simp; omega
    have hL := bytesR_drop (rs ++ [(0, 0)]) j more _ (List.getElem?_eq_getElem hjl)
    have hLb : (rs ++ [((0 : Nat), (0 : Nat))])[j].1 < 18446744073709551616 ∧ (rs ++ [((0 : Nat), (0 : Nat))])[j].2 < 18446744073709551616 := by
      rcases List.mem_append.1 (List.getElem_mem hjl) with h | h
      · have := Hh.out.2.2.2 _ h; exact ⟨this.1, this.2.1⟩
      · rw [List.mem_singleton.1 h]; decide
    have hLj : (j < rs.length → (rs ++ [((0 : Nat), (0 : Nat))])[j].2 ≠ 0 ∧ rs.take (j + 1) = rs.take j ++ [(rs ++ [((0 : Nat), (0 : Nat))])[j]]) ∧ (j = rs.length → (rs ++ [((0 : Nat), (0 : Nat))])[j] = (0, 0)) := by
      refine ⟨fun h => ?_, fun h => ?_⟩
      · rw [List.getElem_append_left h]
        exact ⟨(Hh.out.2.2.2 _ (List.getElem_mem h)).2.2, by rw [List.take_succ_eq_append_getElem h]⟩
      · subst h; simp
    generalize (rs ++ [((0 : Nat), (0 : Nat))])[j] = rk at *
    obtain ⟨ra, rz⟩ := rk
    simp only at hLb hLj hL
    have hrest : (dt.drop (ro + 16 * j)).length < 16 ∨ dt.drop (ro + 16 * j) = be16n ra rz ++ dt.drop (ro + 16 * (j + 1)) := by
      by_cases hsh : (dt.drop (ro + 16 * j)).length < 16
      · exact .inl hsh
      · right
        have e1 : (dt.drop ro ++ tail).drop (16 * j) = dt.drop (ro + 16 * j) ++ tail := by
          rw [List.drop_append_of_le_length (by simp; omega), List.drop_drop]
        rw [Hh.out.2.2.1, hL] at e1
        have e2 := congrArg (List.take 16) e1
        rw [List.take_append_of_le_length (Nat.le_of_eq (be16n_len _ _).symm), List.take_of_length_le (Nat.le_of_eq (be16n_len _ _)), List.take_append_of_le_length (by omega)] at e2
        conv => lhs; rw [← List.take_append_drop 16 (dt.drop (ro + 16 * j)), ← e2, List.drop_drop]
        rw [show ro + 16 * j + 16 = ro + 16 * (j + 1) by omega]
    generalize hV : wo.alloc (.cells #[.int .u64 0, .int .u64 0] 98) = V
    have hVb : Below wo.heap.size wo V := by rw [← hV]; exact (Below.refl _ _).alloc (Nat.le_refl _) _
    have hVc : Cs V wo.heap.size #[.int .u64 0, .int .u64 0] := by rw [← hV]; exact Cs.new _ _ _
    have hXo := (br_rdk r dk A c dt).xl _ _ hbr
    have hVbr : BSt r dk A c dt V (dt.drop (ro + 16 * j)) := (br_rdk r dk A c dt).keep _ _ _ hbr (fun k hk => hVb.block k (hXo k hk))
    obtain ⟨q7, hq7⟩ : ∃ q, q = wo.heap.size := ⟨_, rfl⟩
    have hq7r : q7 ≠ r := by have := hXo r (.inl rfl); omega
    have hq7d : ¬ dk q7 := fun h => by have := hXo q7 (.inr h); omega
    have hq7f : f < q7 := by omega
    rw [← hq7] at hVc
    have HE := Lib.hid (eread_walk (br_rdk r dk A c dt) V (dt.drop (ro + 16 * j)) hVbr q7 _ _ hVc (fun h => h.elim hq7r hq7d) ra rz hLb.1 hLb.2 (dt.drop (ro + 16 * (j + 1))) hrest)
    have HO := Lib.hid (And.intro hq (And.intro hown (And.intro hF hVb)))
    have HV := Lib.hid hV
    have Hq7 := Lib.hid hq7
    have hqs := hVc.lt
    have HLj := Lib.hid hLj
    clear hq hown hbr hF hVb hVc hVbr hrest hL hV hq7 hLj hXo
    go_wp2_with fail
    rw [HV.out, ← Hq7.out]
    refine HE.out.mono ?_
    rintro e w5 ⟨hf5, hor⟩
    have hF5 : Fr w.heap.size (fun k => k = f ∨ k = r ∨ dk k) w w5 := (HO.out.2.2.1.trans (Fr.of_below (HO.out.2.2.2.mono hso))).trans (hf5.mono (by have := HO.out.2.2.2.size; omega) (fun k hk h => h.elim (fun h => by have := Hq7.out; omega) .inr))
    have hq5 : Cs w5 f (fdtC n0 n1 n2 n3 ro n5 n6 n7 n8 n9 (.slice Ar j cr) p) := (HO.out.1.below HO.out.2.2.2 HO.out.1.lt).fr2 hf5 (fun h => h.elim (fun h => by omega) (fun h => h.elim hfr hfd))
    have hs5 : V.heap.size ≤ w5.heap.size := hf5.size
    rcases hor with ⟨hsh, ⟨s1, rfl⟩, -⟩ | ⟨hre, rfl, hc7, hst5⟩
    · have hshl : dt.length < ro + 16 * (rs.length + 1) := by simp at hsh; omega
      have HFIN := Lib.hid (show ResPost w f r dk A c dt n0 n1 n2 n3 ro n5 n6 n7 n8 n9 p rs (.returned (.iface 207 (.string s1))) w5 from ⟨hF5, .inl ⟨hshl, _, _, rfl⟩⟩)
      clear hF5 hq5 hf5 hsh hshl HE HV
      go_wp2_with fail
      go_ret
      exact HFIN.out
    have hpos2 : ro + 16 * (j + 1) ≤ dt.length := by
      have := congrArg List.length hre
      rw [List.length_append, be16n_len] at this
      simp at this
      omega
    have y0 : w5.cell? ⟨q7, 0, none⟩ = some (.int .u64 (ra : Nat)) := (hc7.cell 0).trans rfl
    have y1 : w5.cell? ⟨q7, 1, none⟩ = some (.int .u64 (rz : Nat)) := (hc7.cell 1).trans rfl
    have hql : q7 < w5.heap.size := hc7.lt
    have hown5 : w5.ownsRow w.heap.size 98 2 (.slice Ar j cr) j (((rs.take j).map fun x => roomC (castR x)).flatMap duo) := own_keep HO.out.2.1 (fun g hg => by
      have hgl := HO.out.2.1.lt g hg
      have hqe := Hq7.out
      rw [hf5.block g (by have := HO.out.2.2.2.size; omega) (fun h => h.elim (fun h => by omega) (fun h => h.elim (fun e => by have := Hh.out.1.cs.lt; omega) (fun e => by have := Hh.out.1.dl g e; omega))), HO.out.2.2.2.block g hgl.2])
    have Hown2 := Lib.hid hown5
    have Hcf := Lib.hid hq5
    have HF5 := Lib.hid (And.intro hF5 hst5)
    have hfl2 : f < w5.heap.size := hq5.lt
    have hsw5 : w.heap.size ≤ w5.heap.size := hF5.size
    have hfrow : some f ≠ (Value.slice Ar j cr).ownBlock := fun e => by have := (hown5.lt f e.symm).1; omega
    have hqrow : some q7 ≠ (Value.slice Ar j cr).ownBlock := fun e => by have := (HO.out.2.1.lt q7 e.symm).2; have := Hq7.out; omega
    have x0 : w5.cell? ⟨f, 10, none⟩ = some (.slice Ar j cr) := (hq5.cell 10).trans rfl
    clear hF5 hq5 hf5 hre hc7 hst5 hown5 HE HV
    obtain ⟨L1, L2⟩ := HLj.out
    by_cases hlt : j < rs.length
    · obtain ⟨hz0, htk⟩ := L1 hlt
      have Htk := Lib.hid htk
      have dz : ((rz : Int) == 0) = false := by simp; omega
      clear htk L1 L2 hz0
      have key : ∀ b, ((ra : Int) == 0) = b → True := fun _ _ => trivial
      clear key
      by_cases ha0 : ra = 0
      · have da : ((ra : Int) == 0) = true := by simp; omega
        have Ha0 := Lib.hid ha0
        clear ha0
        go_wp2_with fail
        refine wp_region_plan (fun w' => w'.cell? ⟨f, 10, none⟩ = some (.slice Ar j cr) ∧ w'.cell? ⟨q7, 0, none⟩ = some (.int .u64 (ra : Nat)) ∧ w'.cell? ⟨q7, 1, none⟩ = some (.int .u64 (rz : Nat))) 10 (.quiet 0 (.quiet 1 (.quiet 2 (.quiet 3 (.quiet 4 (.quiet 5 (.eff 6 (.eff 7 (.quiet 8 (.quiet 9 (.eff 10 .done))))))))))) (by kernel_rfl) (by kernel_rfl) ⟨x0, y0, y1⟩ ?_
        simp only [planO, opAt, List.getElem?_toArray, List.getElem?_cons_zero, List.getElem?_cons_succ, Option.getD_some, Nat.reduceBEq]
        iterate 6
          refine' SeqT.quiet (by rfl) ?_ ?_
          rotate_left
          · rintro w' ⟨hS1, hS2, hS3⟩
            go_simp
            try with_reducible rfl
          try simp only [Act.put, List.setIfInBounds_toArray, List.set_cons_zero, List.set_cons_succ]
        refine SeqT.eff ?_ ?_
        · rfl
        intro K hK
        go_simp
        refine hK.out _ _ (.inr ⟨(World.cell?_alloc_lt _ _ _ hfl2).trans x0, (World.cell?_alloc_lt _ _ _ hql).trans y0, (World.cell?_alloc_lt _ _ _ hql).trans y1⟩) ?_
        clear hK K
        try simp only [Act.put, List.setIfInBounds_toArray, List.set_cons_zero, List.set_cons_succ]
        refine SeqT.eff ?_ ?_
        · rfl
        intro K hK
        refine wp_append_el el91b (.tmp 63) (.tmp 65) rfl w.heap.size (.slice Ar j cr) j (((rs.take j).map fun x => roomC (castR x)).flatMap duo) rfl (Hown2.out.drew.alloc _) (some ⟨w5.heap.size, 0, none⟩) 1 1 [.int .u64 (ra : Nat), .int .u64 (rz : Nat)] rfl (by simp) ((Cs.new w5.drew 98 #[.int .u64 (ra : Nat), .int .u64 (rz : Nat)]).rd rfl) (by simp [Value.oneCell']) (by omega) (by omega) (by simp; omega) ?_
        intro v' w6 hown6 hgrow6 hnil6 hat6
        clear hnil6
        obtain ⟨A6, c6, rfl⟩ := own_slice hown6
        have g6 := grown_below (((Below.refl w5.heap.size w5).drew).alloc (by simp) (.cells #[.int .u64 (ra : Nat), .int .u64 (rz : Nat)] 98)) hgrow6
        have qf6 := Hcf.out.grown g6 hfrow
        have k10 : w6.cell? ⟨f, 10, none⟩ = some (.slice Ar j cr) := (qf6.cell 10).trans rfl
        have fz10 := qf6.frozen 10
        refine hK.out _ _ (.inr ⟨k10, (World.cell?_of_block (a := ⟨q7, 0, none⟩) (g6.block _ hql hqrow)).trans y0, (World.cell?_of_block (a := ⟨q7, 1, none⟩) (g6.block _ hql hqrow)).trans y1⟩) ?_
        clear hK K
        try simp only [Act.put, List.setIfInBounds_toArray, List.set_cons_zero, List.set_cons_succ]
        iterate 2
          refine' SeqT.quiet (by rfl) ?_ ?_
          rotate_left
          · rintro w' ⟨hS1, hS2, hS3⟩
            go_simp
            try with_reducible rfl
          try simp only [Act.put, List.setIfInBounds_toArray, List.set_cons_zero, List.set_cons_succ]
        refine SeqT.last ?_ ?_
        · rfl
        intro K hK
        go_simp
        refine hK.out _ _ ?_
        clear hK K
        generalize hW7 : w6.setCell ⟨f, 10, none⟩ (.slice A6 (j + 1) c6) = W7
        have hq7' : Cs W7 f (fdtC n0 n1 n2 n3 ro n5 n6 n7 n8 n9 (.slice A6 (j + 1 : Nat) c6) p) := by
          rw [← hW7]
          have := qf6.set_ 10 (.slice A6 (j + 1) c6)
          simpa [fdtC] using this
        have hF7 : Fr w.heap.size (fun k => k = f ∨ k = r ∨ dk k) w W7 := by
          rw [← hW7]
          exact (HF5.out.1.trans ⟨g6.os, g6.tape, g6.output, g6.size, fun k hk _ => g6.block k (by omega) (fun e => by have := (Hown2.out.lt k e.symm).1; omega)⟩).setCell (p := ⟨f, 10, none⟩) (.inr (.inl rfl)) _
        have hst7 : BSt r dk A c dt W7 (dt.drop (ro + 16 * (j + 1))) := by
          rw [← hW7]
          refine (br_rdk r dk A c dt).keep _ _ _ HF5.out.2 (fun k hk => ?_)
          have hkw : k < w.heap.size := hk.elim (fun e => by have := Hh.out.1.cs.lt; omega) (fun e => Hh.out.1.dl k e)
          rw [Below.heap_setCell _ _ _ _ (fun e => hk.elim (fun e2 => hfr (by simp at e; omega)) (fun e2 => hfd (by simp at e; rw [← e]; exact e2))), g6.block k (by omega) (fun e => by have := (Hown2.out.lt k e.symm).1; omega)]
        have ho7 : W7.ownsRow w.heap.size 98 2 (.slice A6 (j + 1 : Nat) c6) (j + 1) (((rs.take (j + 1)).map fun x => roomC (castR x)).flatMap duo) := by
          rw [← hW7, Htk.out, List.map_append, List.flatMap_append]
          exact ownsRow_setCell_below hown6 (by simpa using hfl) _
        have hm7 : slen ((W7.cell? ⟨f, 10, none⟩).getD undef) = j + 1 := by rw [hq7'.cell 10]; rfl
        have HR := Lib.hid (And.intro hq7' (And.intro ho7 (And.intro hst7 hF7)))
        have Hm7 := Lib.hid hm7
        clear hq7' hF7 hst7 ho7 hm7 hW7 qf6 k10 fz10 g6 hgrow6 hown6 hat6 x0 y0 y1
        go_wp2_with fail
        refine ⟨⟨j + 1, by omega, A6, c6, HR.out.1, HR.out.2.1, HR.out.2.2.1, hpos2, HR.out.2.2.2⟩, ?_⟩
        rw [Hm7.out, hmeas]
        omega
      · have da : ((ra : Int) == 0) = false := by simp; omega
        have Ha0 := Lib.hid ha0
        clear ha0
        go_wp2_with fail
        refine wp_region_plan (fun w' => w'.cell? ⟨f, 10, none⟩ = some (.slice Ar j cr) ∧ w'.cell? ⟨q7, 0, none⟩ = some (.int .u64 (ra : Nat)) ∧ w'.cell? ⟨q7, 1, none⟩ = some (.int .u64 (rz : Nat))) 10 (.quiet 0 (.quiet 1 (.quiet 2 (.quiet 3 (.quiet 4 (.quiet 5 (.eff 6 (.eff 7 (.quiet 8 (.quiet 9 (.eff 10 .done))))))))))) (by kernel_rfl) (by kernel_rfl) ⟨x0, y0, y1⟩ ?_
        simp only [planO, opAt, List.getElem?_toArray, List.getElem?_cons_zero, List.getElem?_cons_succ, Option.getD_some, Nat.reduceBEq]
        iterate 6
          refine' SeqT.quiet (by rfl) ?_ ?_
          rotate_left
          · rintro w' ⟨hS1, hS2, hS3⟩
            go_simp
            try with_reducible rfl
          try simp only [Act.put, List.setIfInBounds_toArray, List.set_cons_zero, List.set_cons_succ]
        refine SeqT.eff ?_ ?_
        · rfl
        intro K hK
        go_simp
        refine hK.out _ _ (.inr ⟨(World.cell?_alloc_lt _ _ _ hfl2).trans x0, (World.cell?_alloc_lt _ _ _ hql).trans y0, (World.cell?_alloc_lt _ _ _ hql).trans y1⟩) ?_
        clear hK K
        try simp only [Act.put, List.setIfInBounds_toArray, List.set_cons_zero, List.set_cons_succ]
        refine SeqT.eff ?_ ?_
        · rfl
        intro K hK
        refine wp_append_el el91b (.tmp 63) (.tmp 65) rfl w.heap.size (.slice Ar j cr) j (((rs.take j).map fun x => roomC (castR x)).flatMap duo) rfl (Hown2.out.drew.alloc _) (some ⟨w5.heap.size, 0, none⟩) 1 1 [.int .u64 (ra : Nat), .int .u64 (rz : Nat)] rfl (by simp) ((Cs.new w5.drew 98 #[.int .u64 (ra : Nat), .int .u64 (rz : Nat)]).rd rfl) (by simp [Value.oneCell']) (by omega) (by omega) (by simp; omega) ?_
        intro v' w6 hown6 hgrow6 hnil6 hat6
        clear hnil6
        obtain ⟨A6, c6, rfl⟩ := own_slice hown6
        have g6 := grown_below (((Below.refl w5.heap.size w5).drew).alloc (by simp) (.cells #[.int .u64 (ra : Nat), .int .u64 (rz : Nat)] 98)) hgrow6
        have qf6 := Hcf.out.grown g6 hfrow
        have k10 : w6.cell? ⟨f, 10, none⟩ = some (.slice Ar j cr) := (qf6.cell 10).trans rfl
        have fz10 := qf6.frozen 10
        refine hK.out _ _ (.inr ⟨k10, (World.cell?_of_block (a := ⟨q7, 0, none⟩) (g6.block _ hql hqrow)).trans y0, (World.cell?_of_block (a := ⟨q7, 1, none⟩) (g6.block _ hql hqrow)).trans y1⟩) ?_
        clear hK K
        try simp only [Act.put, List.setIfInBounds_toArray, List.set_cons_zero, List.set_cons_succ]
        iterate 2
          refine' SeqT.quiet (by rfl) ?_ ?_
          rotate_left
          · rintro w' ⟨hS1, hS2, hS3⟩
            go_simp
            try with_reducible rfl
          try simp only [Act.put, List.setIfInBounds_toArray, List.set_cons_zero, List.set_cons_succ]
        refine SeqT.last ?_ ?_
        · rfl
        intro K hK
        go_simp
        refine hK.out _ _ ?_
        clear hK K
        generalize hW7 : w6.setCell ⟨f, 10, none⟩ (.slice A6 (j + 1) c6) = W7
        have hq7' : Cs W7 f (fdtC n0 n1 n2 n3 ro n5 n6 n7 n8 n9 (.slice A6 (j + 1 : Nat) c6) p) := by
          rw [← hW7]
          have := qf6.set_ 10 (.slice A6 (j + 1) c6)
          simpa [fdtC] using this
        have hF7 : Fr w.heap.size (fun k => k = f ∨ k = r ∨ dk k) w W7 := by
          rw [← hW7]
          exact (HF5.out.1.trans ⟨g6.os, g6.tape, g6.output, g6.size, fun k hk _ => g6.block k (by omega) (fun e => by have := (Hown2.out.lt k e.symm).1; omega)⟩).setCell (p := ⟨f, 10, none⟩) (.inr (.inl rfl)) _
        have hst7 : BSt r dk A c dt W7 (dt.drop (ro + 16 * (j + 1))) := by
          rw [← hW7]
          refine (br_rdk r dk A c dt).keep _ _ _ HF5.out.2 (fun k hk => ?_)
          have hkw : k < w.heap.size := hk.elim (fun e => by have := Hh.out.1.cs.lt; omega) (fun e => Hh.out.1.dl k e)
          rw [Below.heap_setCell _ _ _ _ (fun e => hk.elim (fun e2 => hfr (by simp at e; omega)) (fun e2 => hfd (by simp at e; rw [← e]; exact e2))), g6.block k (by omega) (fun e => by have := (Hown2.out.lt k e.symm).1; omega)]
        have ho7 : W7.ownsRow w.heap.size 98 2 (.slice A6 (j + 1 : Nat) c6) (j + 1) (((rs.take (j + 1)).map fun x => roomC (castR x)).flatMap duo) := by
          rw [← hW7, Htk.out, List.map_append, List.flatMap_append]
          exact ownsRow_setCell_below hown6 (by simpa using hfl) _
        have hm7 : slen ((W7.cell? ⟨f, 10, none⟩).getD undef) = j + 1 := by rw [hq7'.cell 10]; rfl
        have HR := Lib.hid (And.intro hq7' (And.intro ho7 (And.intro hst7 hF7)))
        have Hm7 := Lib.hid hm7
        clear hq7' hF7 hst7 ho7 hm7 hW7 qf6 k10 fz10 g6 hgrow6 hown6 hat6 x0 y0 y1
        go_wp2_with fail
        refine ⟨⟨j + 1, by omega, A6, c6, HR.out.1, HR.out.2.1, HR.out.2.2.1, hpos2, HR.out.2.2.2⟩, ?_⟩
        rw [Hm7.out, hmeas]
        omega
    · obtain rfl : j = rs.length := by omega
      have hz := L2 rfl
      simp only [Prod.mk.injEq] at hz
      obtain ⟨rfl, rfl⟩ := hz
      have ho : w5.ownsRow w.heap.size 98 2 (.slice Ar rs.length cr) rs.length ((rs.map fun x => roomC (castR x)).flatMap duo) := by
        have := Hown2.out
        rw [List.take_length] at this
        exact this
      obtain ⟨i5, -, hb5, -⟩ := HF5.out.2
      have HFIN := Lib.hid (show ResPost w f r dk A c dt n0 n1 n2 n3 ro n5 n6 n7 n8 n9 p rs (.returned .nilIface) w5 from ⟨HF5.out.1, .inr ⟨hpos2, rfl, Ar, cr, i5, Hcf.out, ho, hb5⟩⟩)
      clear ho hb5 x0
      go_wp2_with fail
      go_ret
      exact HFIN.out

/-- checkLayout -/
theorem layout_walk (w : World) (f : Nat) (n0 n1 n2 n3 ro n5 n6 n7 n8 n9 : Nat) (Ar : Option Addr) (k cr : Nat) (p : Value) (hf : Cs w f (fdtC n0 n1 n2 n3 ro n5 n6 n7 n8 n9 (.slice Ar k cr) p)) (hk : k ≤ 100) (hro : ro ≤ 1000) (hn2 : ro + 16 * (k + 1) ≤ n2) :
    Calls Try.prog 81 #[.pointer (some ⟨f, 0, none⟩)] w fun e w' => e = .returned .nilIface ∧ ∃ m, w' = w.drewN m := by
  have c2 : w.cell? ⟨f, 2, none⟩ = some (.int .u32 (n2 : Nat)) := (hf.cell 2).trans rfl
  have c4 : w.cell? ⟨f, 4, none⟩ = some (.int .u32 (ro : Nat)) := (hf.cell 4).trans rfl
  have c10 : w.cell? ⟨f, 10, none⟩ = some (.slice Ar k cr) := (hf.cell 10).trans rfl
  have w1 : IntKind.i64.wrap ((k : Int) + 1) = (k : Int) + 1 := by simp only [IntKind.wrap, IntKind.bits, IntKind.signed]; simp; omega
  have w2 : IntKind.u32.wrap ((k : Int) + 1) = (k : Int) + 1 := by simp only [IntKind.wrap, IntKind.bits, IntKind.signed]; simp; omega
  have w3 : IntKind.u32.wrap (((k : Int) + 1) * 16) = ((k : Int) + 1) * 16 := by simp only [IntKind.wrap, IntKind.bits, IntKind.signed]; simp; omega
  have w4 : IntKind.u32.wrap ((ro : Int) + ((k : Int) + 1) * 16) = (ro : Int) + ((k : Int) + 1) * 16 := by simp only [IntKind.wrap, IntKind.bits, IntKind.signed]; simp; omega
  have hd : decide ((n2 : Int) < (ro : Int) + ((k : Int) + 1) * 16) = false := decide_eq_false (by omega)
  clear hf
  go_enter Try.func81, Try.ntmps81
  go_wp2_with fail
  go_quiet (fail)
  go_wp2_with fail
  go_ret
  exact ⟨rfl, _, rfl⟩
end Go.Proofs.Ytlbhadggfipckaa
