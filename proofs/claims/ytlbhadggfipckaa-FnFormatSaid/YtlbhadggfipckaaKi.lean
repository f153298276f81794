/-
  spec.Read.
-/
import Derived.Test.YtlbhadggfipckaaKh
import Derived.Test.YtlbhadggfipckaaKs
set_option linter.unusedVariables false
set_option linter.unusedSimpArgs false
namespace Go.Proofs.Ytlbhadggfipckaa
open Go.RowKit

def ReadPost (w : World) (b : Nat) (t : Tr) (e : Ending) (w' : World) : Prop :=
  ∃ cs, e = .returned (.tuple #[.agg cs, .bool true]) ∧ TreeC w' (OkB b w w') t cs ∧ Below w.heap.size w w'

section
variable {P : Program} {ops : Array Oper} {Q : Exit → Act → World → Prop} {S : World → Prop}
theorem Seq.effG {b : Bool} {o : Oper} {r : List (Bool × Bool × Oper)} {a : Act} {w : World} (hw : Region.wanted o (yielded ops a.tmps) = true)
    (h : ∀ K : Act → World → Prop, Shut (∀ a' w', (b = true ∨ S w') → seqO P ops Q S r a' w' → K a' w') → o.wp P a w K Q) : seqO P ops Q S ((false, b, o) :: r) a w := fun K hK => by
  rw [if_pos hw]
  exact h K hK
end

theorem set7 {w6 : World} {rb : Nat} {a0 a1 a2 a3 a4 a5 a6 : Value} (h : Cs w6 rb #[a0, a1, a2, a3, a4, a5, a6]) (v0 v1 v2 v3 v4 v5 v6 : Value) : ∃ Y, Y = (((((((w6.setCell ⟨rb, 0, none⟩ (v0)).setCell ⟨rb, 1, none⟩ (v1)).setCell ⟨rb, 2, none⟩ (v2)).setCell ⟨rb, 3, none⟩ (v3)).setCell ⟨rb, 4, none⟩ (v4)).setCell ⟨rb, 5, none⟩ (v5)).setCell ⟨rb, 6, none⟩ (v6)) ∧ Cs Y rb #[v0, v1, v2, v3, v4, v5, v6] ∧ Fr w6.heap.size (· = rb) w6 Y := by
  have f0 := (Fr.refl w6.heap.size (· = rb) w6).setCell (p := ⟨rb, 0, none⟩) (.inr rfl) v0
  have f1 := f0.setCell (p := ⟨rb, 1, none⟩) (.inr rfl) v1
  have f2 := f1.setCell (p := ⟨rb, 2, none⟩) (.inr rfl) v2
  have f3 := f2.setCell (p := ⟨rb, 3, none⟩) (.inr rfl) v3
  have f4 := f3.setCell (p := ⟨rb, 4, none⟩) (.inr rfl) v4
  have f5 := f4.setCell (p := ⟨rb, 5, none⟩) (.inr rfl) v5
  have f6 := f5.setCell (p := ⟨rb, 6, none⟩) (.inr rfl) v6
  have q0 := h.set_ 0 v0
  simp only [List.setIfInBounds_toArray, List.set_cons_zero, List.set_cons_succ] at q0
  have q1 := q0.set_ 1 v1
  simp only [List.setIfInBounds_toArray, List.set_cons_zero, List.set_cons_succ] at q1
  have q2 := q1.set_ 2 v2
  simp only [List.setIfInBounds_toArray, List.set_cons_zero, List.set_cons_succ] at q2
  have q3 := q2.set_ 3 v3
  simp only [List.setIfInBounds_toArray, List.set_cons_zero, List.set_cons_succ] at q3
  have q4 := q3.set_ 4 v4
  simp only [List.setIfInBounds_toArray, List.set_cons_zero, List.set_cons_succ] at q4
  have q5 := q4.set_ 5 v5
  simp only [List.setIfInBounds_toArray, List.set_cons_zero, List.set_cons_succ] at q5
  have q6 := q5.set_ 6 v6
  simp only [List.setIfInBounds_toArray, List.set_cons_zero, List.set_cons_succ] at q6
  exact ⟨_, rfl, q6, f6⟩

theorem RS.set_ {w : World} {r b o c : Nat} {st : List UInt8} {o2 : Nat} {c2 : Nat} {ss : List UInt8} {at_ : Nat} (h : RS w r b o c st (some ⟨b, o2, none⟩) c2 ss at_) {p : Addr} (hr : p.block ≠ r) (hb : p.block ≠ b) (u : Value) : RS (w.setCell p u) r b o c st (some ⟨b, o2, none⟩) c2 ss at_ := by
  obtain ⟨h1, h2, h3, h4⟩ := h
  have hh : (w.setCell p u).heap[b]? = w.heap[b]? := Below.heap_setCell _ _ _ _ (Ne.symm hb)
  exact ⟨h1.far (Ne.symm hr) u, fun j v hv => (World.cell?_of_block (a := ⟨b, o + j, none⟩) hh).trans (h2 j v hv), h3.mono (fun a ha => by cases ha; exact hh), h4⟩

theorem room_cut {out : List UInt8} {NS : List Nat} {rs : List (Int × Int)} {st strs : List UInt8} (hNl : NS.length = 10) (hout : out = NS.flatMap (fun (n : Nat) => be4 (n : Int)) ++ (zeros 8 ++ (rs.flatMap be16 ++ (zeros 16 ++ (st ++ (be4 9 ++ strs))))))
    (hrb : ∀ r ∈ rs, 0 ≤ r.1 ∧ r.1 ≤ 18446744073709551615 ∧ 0 ≤ r.2 ∧ r.2 ≤ 18446744073709551615) (k : Nat) (hk : k ≤ rs.length) :
    ∃ N1 N2 : Nat, ∃ pre rest, out = pre ++ (be16 ((N1 : Int), (N2 : Int)) ++ rest) ∧ pre.length = 48 + 16 * k ∧ N1 < 18446744073709551616 ∧ N2 < 18446744073709551616 ∧ (∀ h : k < rs.length, rs[k] = ((N1 : Int), (N2 : Int))) ∧ (k = rs.length → N1 = 0 ∧ N2 = 0) := by
  have h1 := nums_len NS
  have h2 := be16_len (rs.take k)
  rw [List.length_take, Nat.min_eq_left hk] at h2
  rw [hNl] at h1
  rcases Nat.lt_or_ge k rs.length with hlt | hge
  · have hb := hrb rs[k] (List.getElem_mem hlt)
    refine ⟨rs[k].1.toNat, rs[k].2.toNat, NS.flatMap (fun (n : Nat) => be4 (n : Int)) ++ zeros 8 ++ (rs.take k).flatMap be16, (rs.drop (k + 1)).flatMap be16 ++ (zeros 16 ++ (st ++ (be4 9 ++ strs))), ?_, by simp only [List.length_append, h1, h2, zeros_len], by omega, by omega, fun _ => ?_, fun e => by omega⟩
    · rw [Int.toNat_of_nonneg hb.1, Int.toNat_of_nonneg hb.2.2.1, hout]
      have e : rs.flatMap be16 = (rs.take k).flatMap be16 ++ (be16 rs[k] ++ (rs.drop (k + 1)).flatMap be16) := by
        conv => lhs; rw [show rs = rs.take k ++ rs[k] :: rs.drop (k + 1) by simp]
        rw [List.flatMap_append, List.flatMap_cons]
      rw [e]
      simp only [List.append_assoc]
    · rw [Int.toNat_of_nonneg hb.1, Int.toNat_of_nonneg hb.2.2.1]
  · obtain rfl : k = rs.length := by omega
    rw [List.take_length] at h2
    refine ⟨0, 0, NS.flatMap (fun (n : Nat) => be4 (n : Int)) ++ zeros 8 ++ rs.flatMap be16, st ++ (be4 9 ++ strs), ?_, by simp only [List.length_append, h1, h2, zeros_len], by omega, by omega, fun h => by omega, fun _ => ⟨rfl, rfl⟩⟩
    rw [hout, show be16 (((0 : Nat) : Int), ((0 : Nat) : Int)) = zeros 16 from by decide]
    simp only [List.append_assoc]

set_option maxRecDepth 20000 in
set_option maxHeartbeats 8000000 in
theorem read_walk (w : World) (b o c : Nat) (out : List UInt8) (hr : ∀ j u, (out.map bv)[j]? = some u → w.cell? ⟨b, o + j, none⟩ = some u) (hc : out.length ≤ c) (hcm : c ≤ maxLen) (bt : Nat) (hbt : bt < 2147483648) (rs : List (Int × Int)) (root : Nd)
    (tot o2 o3 sl ss : Nat) (st strs : List UInt8) (henc : EncN strs 0 root st) (hss : ss = st.length + 4) (hsl : sl = strs.length) (ho2 : o2 = 64 + 16 * rs.length) (ho3 : o3 = o2 + ss) (htot : tot = o3 + sl)
    (hout : out = [3490578157, tot, o2, o3, 48, 17, 16, bt, sl, ss].flatMap (fun (n : Nat) => be4 (n : Int)) ++ (zeros 8 ++ (rs.flatMap be16 ++ (zeros 16 ++ (st ++ (be4 9 ++ strs)))))) (hol : out.length ≤ 2000000)
    (hrl : rs.length ≤ 5) (hrb : ∀ r ∈ rs, 0 ≤ r.1 ∧ r.1 ≤ 18446744073709551615 ∧ 0 ≤ r.2 ∧ r.2 ≤ 18446744073709551615) (hrz : ∀ r ∈ rs, r.2 ≠ 0) (hzf : root.zf) (hdep : root.depth ≤ 20) (hhas : root.has) :
    Calls Try.prog 21 #[.slice (some ⟨b, o, none⟩) out.length c] w (ReadPost w b ⟨17, 16, bt, rs, root⟩) := by
  have hpos := henc.strs_pos hhas
  have hrbl := be16_len rs
  have hL : out.length = tot := by
    rw [hout]
    simp only [List.length_append, nums_len, zeros_len, hrbl]
    simp [be4]
    omega
  have hbl : b < w.heap.size := by
    have hop : 0 < out.length := by omega
    exact World.block_lt_of_cell? w _ (hr 0 (bv (out[0]'hop)) (by rw [List.getElem?_map, List.getElem?_eq_getElem hop]; rfl))
  simp only [maxLen] at hcm
  obtain ⟨NS, hNS⟩ : ∃ NS : List Nat, NS = [3490578157, tot, o2, o3, 48, 17, 16, bt, sl, ss] := ⟨_, rfl⟩
  have hNl : NS.length = 10 := by rw [hNS]; rfl
  have hNb : ∀ n ∈ NS, n < 4294967296 := fun n hn => by
    rw [hNS] at hn
    simp only [List.mem_cons, List.not_mem_nil, or_false] at hn
    omega
  rw [← hNS] at hout
  have Hout := Lib.hid hout
  have Hr := Lib.hid hr
  have Hst := Lib.hid (And.intro henc (And.intro hzf (And.intro hdep hrz)))
  have Hrb := Lib.hid hrb
  have Hsz := Lib.hid (And.intro hss (And.intro hsl (And.intro ho2 (And.intro ho3 htot))))
  have HNS := Lib.hid hNS
  have HNb := Lib.hid hNb
  have HNl := Lib.hid hNl
  have hge : decide ((out.length : Int) < 40) = false := decide_eq_false (by omega)
  have HL := Lib.hid hL
  clear hr henc hzf hdep hrb hrz hss hsl ho2 ho3 htot hout hrbl hhas hNS hNb hNl hL
  go_enter Try.func21, Try.ntmps21
  go_wp2_with fail
  generalize hV : (w.alloc (.cells #[.int .i64 0, .int .i64 0, .int .i64 0, .slice none 0 0, .string ⟨#[]⟩, .slice none 0 0, .slice none 0 0] 48)).alloc (.cells #[.int .i64 0, .int .i64 0, .int .i64 0, .int .i64 0, .int .i64 0, .int .i64 0, .int .i64 0, .int .i64 0, .int .i64 0, .int .i64 0] 101) = W
  have hWs : W.heap.size = w.heap.size + 2 := by rw [← hV]; simp
  have hWb : Below w.heap.size w W := by rw [← hV]; exact ((Below.refl _ _).alloc (Nat.le_refl _) _).alloc (by simp) _
  have hW0 : Cs W w.heap.size #[.int .i64 0, .int .i64 0, .int .i64 0, .slice none 0 0, .string ⟨#[]⟩, .slice none 0 0, .slice none 0 0] := by rw [← hV]; exact (Cs.new _ _ _).alloc _
  have hW1 : Cs W (w.heap.size + 1) (arrN NS 0) := by rw [← hV]; exact Cs.new' _ _ _ _ (by simp)
  clear hV
  have HWb := Lib.hid hWb
  have HW0 := Lib.hid hW0
  have HW1 := Lib.hid hW1
  clear hWb hW0 hW1
  go_loopw [14] (fun i wr => ∃ k : Nat, k ≤ 10 ∧ i = .int .i64 k ∧ Cs wr (w.heap.size + 1) (arrN NS k) ∧ Below (w.heap.size + 1) W wr) (fun i _ => 10 - (intOf i).toNat)
  case atStart => exact ⟨0, by omega, by go_num, HW1.out, Below.refl _ _⟩
  case round =>
    obtain ⟨k, hk, rfl, hc1, hF⟩ := hrel
    have l1 := hc1.lt
    by_cases hlt : k < 10
    · have hkN : k < NS.length := by rw [HNl.out]; exact hlt
      have hcut : out = (NS.take k).flatMap (fun (n : Nat) => be4 (n : Int)) ++ (be4 ((NS[k] : Nat) : Int) ++ ((NS.drop (k + 1)).flatMap (fun (n : Nat) => be4 (n : Int)) ++ (zeros 8 ++ (rs.flatMap be16 ++ (zeros 16 ++ (st ++ (be4 9 ++ strs))))))) := by
        conv => lhs; rw [Hout.out, nums_cut hkN]
        simp only [List.append_assoc]
      have hpl : ((NS.take k).flatMap (fun (n : Nat) => be4 (n : Int))).length = 4 * k := by rw [nums_len, List.length_take, Nat.min_eq_left (by omega)]
      have hsub := sub_at hcut
      have hln := len_at hcut
      rw [hpl] at hsub hln
      have hb4 : (be4 ((NS[k] : Nat) : Int)).length = 4 := rfl
      rw [hb4] at hsub hln
      have hnk := HNb.out NS[k] (List.getElem_mem hkN)
      have hrw : ∀ j u, (out.map bv)[j]? = some u → wr.cell? ⟨b, o + j, none⟩ = some u := fun j u hu => (hF.cell (p := ⟨b, o + j, none⟩) (by simp; omega)).trans ((HWb.out.cell (p := ⟨b, o + j, none⟩) hbl).trans (Hr.out j u hu))
      have hrd := rd_sub hrw (4 * k) 4
      rw [hsub] at hrd
      obtain ⟨j, hj⟩ : ∃ j, j = 4 * k := ⟨_, rfl⟩
      rw [← hj] at hrd hln
      have HN := Lib.hid (number_walk wr (some ⟨b, o + j, none⟩) (c - j) (be4 ((NS[k] : Nat) : Int)) hrd (by rw [hb4]; omega))
      rw [hb4, numOf_be4 _ hnk] at HN
      have hst := arrN_step HNl.out hlt
      have hg := arrN_get HNl.out hlt
      have a0 : wr.cell? ⟨w.heap.size + 1, k, none⟩ = some (.int .i64 0) := (hc1.cell k).trans hg
      have f0 := hc1.frozen k
      generalize NS[k] = nk at *
      have hset := hc1.set_ k (.int .i64 (nk : Int))
      rw [hst] at hset
      have hj4 : 4 * (k : Int) = (j : Int) := by omega
      have i0 : (0 : Int) ≤ (j : Int) := by omega
      have i1 : (j : Int) ≤ (j : Int) + 4 := by omega
      have i2 : (j : Int) + 4 ≤ (c : Int) := by omega
      have i3 : ¬ c = j := by omega
      have i4 : (0 : Int) ≤ (k : Int) := by omega
      have i5 : (k : Int) < 10 := by omega
      have hw4 : IntKind.i64.wrap (j : Int) = (j : Int) := by simp only [IntKind.wrap, IntKind.bits, IntKind.signed]; simp; omega
      have hw5 : IntKind.i64.wrap ((j : Int) + 4) = (j : Int) + 4 := by simp only [IntKind.wrap, IntKind.bits, IntKind.signed]; simp; omega
      have HF := Lib.hid (And.intro hset (hF.setCell (p := ⟨w.heap.size + 1, k, none⟩) (by simp) (.int .i64 (nk : Int))))
      clear hcut hpl hsub hrd hrw hc1 hF hset hst hg hj hln hb4
      go_wp2_with fail
      refine HN.out.mono ?_
      rintro e w1 ⟨rfl, rfl⟩
      go_wp2_with fail
      exact ⟨⟨k + 1, by omega, by go_num, HF.out⟩, by simp [intOf]; omega⟩
    · obtain rfl : k = 10 := by omega
      have harr : arrN NS 10 = #[.int .i64 3490578157, .int .i64 (tot : Int), .int .i64 (o2 : Int), .int .i64 (o3 : Int), .int .i64 48, .int .i64 17, .int .i64 16, .int .i64 (bt : Int), .int .i64 (sl : Int), .int .i64 (ss : Int)] := by rw [HNS.out]; rfl
      rw [harr] at hc1
      have g0 : wr.cell? ⟨w.heap.size + 1, 0, none⟩ = some (.int .i64 3490578157) := (hc1.cell 0).trans rfl
      have g1 : wr.cell? ⟨w.heap.size + 1, 1, none⟩ = some (.int .i64 (tot : Int)) := (hc1.cell 1).trans rfl
      have g2 : wr.cell? ⟨w.heap.size + 1, 2, none⟩ = some (.int .i64 (o2 : Int)) := (hc1.cell 2).trans rfl
      have g3 : wr.cell? ⟨w.heap.size + 1, 3, none⟩ = some (.int .i64 (o3 : Int)) := (hc1.cell 3).trans rfl
      have g4 : wr.cell? ⟨w.heap.size + 1, 4, none⟩ = some (.int .i64 48) := (hc1.cell 4).trans rfl
      have g5 : wr.cell? ⟨w.heap.size + 1, 5, none⟩ = some (.int .i64 17) := (hc1.cell 5).trans rfl
      have g6 : wr.cell? ⟨w.heap.size + 1, 6, none⟩ = some (.int .i64 16) := (hc1.cell 6).trans rfl
      have g7 : wr.cell? ⟨w.heap.size + 1, 7, none⟩ = some (.int .i64 (bt : Int)) := (hc1.cell 7).trans rfl
      have g8 : wr.cell? ⟨w.heap.size + 1, 8, none⟩ = some (.int .i64 (sl : Int)) := (hc1.cell 8).trans rfl
      have g9 : wr.cell? ⟨w.heap.size + 1, 9, none⟩ = some (.int .i64 (ss : Int)) := (hc1.cell 9).trans rfl
      obtain ⟨z1, z2, z3, z4, z5⟩ := Hsz.out
      have hL := HL.out
      have d1 : decide ((out.length : Int) < (tot : Int)) = false := decide_eq_false (by omega)
      have w1 : IntKind.i64.wrap ((o2 : Int) + (ss : Int)) = (o2 : Int) + (ss : Int) := by simp only [IntKind.wrap, IntKind.bits, IntKind.signed]; simp; omega
      have d2 : decide ((out.length : Int) < (o2 : Int) + (ss : Int)) = false := decide_eq_false (by omega)
      have w2 : IntKind.i64.wrap ((o3 : Int) + (sl : Int)) = (o3 : Int) + (sl : Int) := by simp only [IntKind.wrap, IntKind.bits, IntKind.signed]; simp; omega
      have d3 : decide ((out.length : Int) < (o3 : Int) + (sl : Int)) = false := decide_eq_false (by omega)
      have d4 : decide ((out.length : Int) < 48) = false := decide_eq_false (by omega)
      have d1n : decide (out.length < tot) = false := decide_eq_false (by omega)
      have d2n : decide (out.length < o2 + ss) = false := decide_eq_false (by omega)
      have d3n : decide (out.length < o3 + sl) = false := decide_eq_false (by omega)
      have d4n : decide (out.length < 48) = false := decide_eq_false (by omega)
      have hm0 : (o2 : Int) % 4 = 0 := by omega
      have hol2 : o2 ≤ 2000000 ∧ o3 ≤ 2000000 ∧ ss ≤ 2000000 ∧ sl ≤ 2000000 ∧ o2 + ss ≤ 2000000 ∧ o3 + sl ≤ out.length ∧ out.length ≤ o3 + sl ∧ 1 ≤ sl := by omega
      have Hc1 := Lib.hid hc1
      have HF1 := Lib.hid hF
      clear hc1 hF z1 z2 z3 z4 z5 hL harr
      go_wp2_with fail
      generalize hV : wr.alloc (.cells #[.int .i64 17, .int .i64 16, .int .i64 (bt : Int), .slice none 0 0, .string ⟨#[]⟩, .slice none 0 0, .slice none 0 0] 48) = W2
      have hVs : W2.heap.size = wr.heap.size + 1 := by rw [← hV]; simp
      have hVb : Below wr.heap.size wr W2 := by rw [← hV]; exact (Below.refl _ _).alloc (Nat.le_refl _) _
      have hVo : Cs W2 wr.heap.size #[.int .i64 17, .int .i64 16, .int .i64 (bt : Int), .slice none 0 0, .string ⟨#[]⟩, .slice none 0 0, .slice none 0 0] := by rw [← hV]; exact Cs.new _ _ _
      clear hV g0 g1 g4 g5 g6 g7 d1 d2 d3 d4 hm0 d1n d2n d3n d4n
      obtain ⟨ob, hob⟩ : ∃ ob, wr.heap.size = ob := ⟨_, rfl⟩
      rw [hob] at hVs hVo ⊢
      have hwo : w.heap.size + 2 ≤ ob := by have := HF1.out.size; omega
      have HB2 := Lib.hid (HWb.out.trans ((HF1.out.mono (by omega)).trans (hVb.mono (by omega))))
      have Hnb := Lib.hid (Hc1.out.below hVb (by omega))
      have Hrb0 := Lib.hid ((HW0.out.below HF1.out (by omega)).below hVb (by omega))
      have Hob := Lib.hid hVo
      have HrW := Lib.hid (fun j u hu => (HB2.out.cell (p := ⟨b, o + j, none⟩) hbl).trans (Hr.out j u hu) : ∀ j u, (out.map bv)[j]? = some u → W2.cell? ⟨b, o + j, none⟩ = some u)
      clear hVb hVo g2 g3 g8 g9
      go_loopw [7] (fun x wr => ∃ k j : Nat, k ≤ rs.length ∧ j = 48 + 16 * k ∧ x = .int .i64 j ∧ ∃ A c', Cs wr ob #[.int .i64 17, .int .i64 16, .int .i64 (bt : Int), .slice A k c', .string ⟨#[]⟩, .slice none 0 0, .slice none 0 0] ∧ wr.ownsRow (ob + 1) 81 2 (.slice A k c') k (((rs.take k).map roomC).flatMap duo) ∧ Fr (ob + 1) (· = ob) W2 wr) (fun x _ => 48 + 16 * rs.length + 16 - (intOf x).toNat)
      case atStart => exact ⟨0, 48, by omega, by omega, rfl, none, 0, Hob.out, World.ownsRow_nil _ _ _ _, Fr.refl _ _ _⟩
      case round =>
        obtain ⟨k, j, hk, hj, rfl, A, c', hob1, hown, hF⟩ := hrel
        obtain ⟨N1, N2, pre, rest, hcut, hpl, hN1, hN2, hin, hend⟩ := room_cut HNl.out Hout.out Hrb.out k hk
        rw [← hj] at hpl
        have hb16 := be16_nat N1 N2
        have hlen := len_at hcut
        have hl16 : (be16 ((N1 : Int), (N2 : Int))).length = 16 := rfl
        rw [hl16, hpl] at hlen
        have hrw : ∀ i u, (out.map bv)[i]? = some u → wr.cell? ⟨b, o + i, none⟩ = some u := fun i u hu => (hF.cell (by omega) (by omega)).trans (HrW.out i u hu)
        have hc1 : out = pre ++ (be4 ((N1 / 4294967296 : Nat) : Int) ++ (be4 ((N1 % 4294967296 : Nat) : Int) ++ (be4 ((N2 / 4294967296 : Nat) : Int) ++ (be4 ((N2 % 4294967296 : Nat) : Int) ++ rest)))) := by rw [hcut, hb16]; simp only [List.append_assoc]
        have hc2 : out = (pre ++ be4 ((N1 / 4294967296 : Nat) : Int)) ++ (be4 ((N1 % 4294967296 : Nat) : Int) ++ (be4 ((N2 / 4294967296 : Nat) : Int) ++ (be4 ((N2 % 4294967296 : Nat) : Int) ++ rest))) := by rw [hc1]; simp only [List.append_assoc]
        have hc3 : out = (pre ++ be4 ((N1 / 4294967296 : Nat) : Int) ++ be4 ((N1 % 4294967296 : Nat) : Int)) ++ (be4 ((N2 / 4294967296 : Nat) : Int) ++ (be4 ((N2 % 4294967296 : Nat) : Int) ++ rest)) := by rw [hc1]; simp only [List.append_assoc]
        have hc4 : out = (pre ++ be4 ((N1 / 4294967296 : Nat) : Int) ++ be4 ((N1 % 4294967296 : Nat) : Int) ++ be4 ((N2 / 4294967296 : Nat) : Int)) ++ (be4 ((N2 % 4294967296 : Nat) : Int) ++ rest) := by rw [hc1]; simp only [List.append_assoc]
        have hbl4 : ∀ n : Int, (be4 n).length = 4 := fun _ => rfl
        have e1 := sub_at hc1
        have e2 := sub_at hc2
        have e3 := sub_at hc3
        have e4 := sub_at hc4
        simp only [List.length_append, hbl4, hpl, Nat.add_assoc, Nat.reduceAdd] at e1 e2 e3 e4
        have hj1 := be64_bits (N1 / 4294967296) (N1 % 4294967296) (by omega) (by omega)
        have hj2 := be64_bits (N2 / 4294967296) (N2 % 4294967296) (by omega) (by omega)
        rw [show N1 / 4294967296 * 4294967296 + N1 % 4294967296 = N1 by omega] at hj1
        rw [show N2 / 4294967296 * 4294967296 + N2 % 4294967296 = N2 by omega] at hj2
        have ha1 : N1 / 4294967296 < 4294967296 := by omega
        have ha2 : N1 % 4294967296 < 4294967296 := by omega
        have ha3 : N2 / 4294967296 < 4294967296 := by omega
        have ha4 : N2 % 4294967296 < 4294967296 := by omega
        generalize N1 / 4294967296 = a1 at *
        generalize N1 % 4294967296 = a2 at *
        generalize N2 / 4294967296 = a3 at *
        generalize N2 % 4294967296 = a4 at *
        have Ea1 := Lib.hid e1
        have Ea2 := Lib.hid e2
        have Ea3 := Lib.hid e3
        have Ea4 := Lib.hid e4
        have Ha1 := Lib.hid ha1
        have Ha2 := Lib.hid ha2
        have Ha3 := Lib.hid ha3
        have Ha4 := Lib.hid ha4
        have Hbl4 := Lib.hid hbl4
        have Hrw := Lib.hid hrw
        have u1 : IntKind.u64.wrap (a1 : Int) = (a1 : Int) := by simp only [IntKind.wrap, IntKind.bits, IntKind.signed]; simp; omega
        have u2 : IntKind.u64.wrap (a2 : Int) = (a2 : Int) := by simp only [IntKind.wrap, IntKind.bits, IntKind.signed]; simp; omega
        have u3 : IntKind.u64.wrap (a3 : Int) = (a3 : Int) := by simp only [IntKind.wrap, IntKind.bits, IntKind.signed]; simp; omega
        have u4 : IntKind.u64.wrap (a4 : Int) = (a4 : Int) := by simp only [IntKind.wrap, IntKind.bits, IntKind.signed]; simp; omega
        have v1 : IntKind.u64.wrap ((a1 : Int) * 4294967296) = (a1 : Int) * 4294967296 := by simp only [IntKind.wrap, IntKind.bits, IntKind.signed]; simp; omega
        have v3 : IntKind.u64.wrap ((a3 : Int) * 4294967296) = (a3 : Int) * 4294967296 := by simp only [IntKind.wrap, IntKind.bits, IntKind.signed]; simp; omega
        have i0 : (0 : Int) ≤ (j : Int) := by omega
        have x4 : IntKind.i64.wrap ((j : Int) + 4) = (j : Int) + 4 := by simp only [IntKind.wrap, IntKind.bits, IntKind.signed]; simp; omega
        have y4 : (0 : Int) ≤ (j : Int) + 4 := by omega
        have t4 : (j : Int) + 4 ≤ (c : Int) := by omega
        have s4 : (j : Int) ≤ (j : Int) + 4 := by omega
        have x8 : IntKind.i64.wrap ((j : Int) + 8) = (j : Int) + 8 := by simp only [IntKind.wrap, IntKind.bits, IntKind.signed]; simp; omega
        have y8 : (0 : Int) ≤ (j : Int) + 8 := by omega
        have t8 : (j : Int) + 8 ≤ (c : Int) := by omega
        have s8 : (j : Int) + 4 ≤ (j : Int) + 8 := by omega
        have x12 : IntKind.i64.wrap ((j : Int) + 12) = (j : Int) + 12 := by simp only [IntKind.wrap, IntKind.bits, IntKind.signed]; simp; omega
        have y12 : (0 : Int) ≤ (j : Int) + 12 := by omega
        have t12 : (j : Int) + 12 ≤ (c : Int) := by omega
        have s12 : (j : Int) + 8 ≤ (j : Int) + 12 := by omega
        have x16 : IntKind.i64.wrap ((j : Int) + 16) = (j : Int) + 16 := by simp only [IntKind.wrap, IntKind.bits, IntKind.signed]; simp; omega
        have y16 : (0 : Int) ≤ (j : Int) + 16 := by omega
        have t16 : (j : Int) + 16 ≤ (c : Int) := by omega
        have s16 : (j : Int) + 12 ≤ (j : Int) + 16 := by omega
        have tn4 : ((j : Int) + 4).toNat = j + 4 := by omega
        have tn8 : ((j : Int) + 8).toNat = j + 8 := by omega
        have tn12 : ((j : Int) + 12).toNat = j + 12 := by omega
        have tn16 : ((j : Int) + 16).toNat = j + 16 := by omega
        have q0 : ¬ c = j := by omega
        have q4 : ¬ c = j + 4 := by omega
        have q8 : ¬ c = j + 8 := by omega
        have q12 : ¬ c = j + 12 := by omega
        have hgt : decide ((out.length : Int) < (j : Int) + 16) = false := decide_eq_false (by omega)
        have HX := Lib.hid (And.intro hob1 (And.intro hown (And.intro hF (And.intro hin (And.intro hend hj)))))
        have hN1' : N1 < 18446744073709551616 := hN1
        clear hob1 hown hF hin hend hj hcut hb16 hrw hc1 hc2 hc3 hc4 e1 e2 e3 e4 hbl4 hl16 hpl
        go_wp2_with fail
        refine wp_region_seqS (fun w' => (∀ i u, (out.map bv)[i]? = some u → w'.cell? ⟨b, o + i, none⟩ = some u)) 37
          [(0, true), (1, true), (2, true), (3, true), (4, true), (5, true), (6, true), (7, true), (8, true), (9, true), (10, true), (11, true), (12, true), (13, true), (14, true), (15, true), (16, true), (17, true), (18, true), (19, true), (20, true), (21, true), (22, true), (23, true), (24, true), (25, true), (26, true), (27, true), (28, true), (29, true), (30, true), (31, true), (32, true), (33, true), (34, true), (35, true), (36, false), (37, false)] (by kernel_rfl) (by kernel_rfl) Hrw.out ?_
        simp only [opsIn, List.map_cons, List.map_nil, List.getElem?_toArray, List.getElem?_cons_zero, List.getElem?_cons_succ, Option.getD_some, Nat.reduceBEq]
        iterate 5
          refine' SeqS.quiet (by rfl) ?_ ?_
          rotate_left
          · rintro w' hS1
            go_simp
            try with_reducible rfl
          try simp only [Act.put, List.setIfInBounds_toArray, List.set_cons_zero, List.set_cons_succ]
        refine' SeqS.call (by rfl) ?_ ?_
        rotate_left
        · rintro w' hS1
          unfold Oper.quietAt
          go_simp
          have hrd := rd_sub hS1 j 4
          rw [Ea1.out] at hrd
          have hnw := number_walk w' (some ⟨b, o + j, none⟩) (c - j) _ hrd (by rw [Hbl4.out]; omega)
          rw [Hbl4.out, numOf_be4 _ Ha1.out] at hnw
          exact hnw.mono fun e w'' ⟨h1, h2⟩ => ⟨h1, h2.symm⟩
        try simp only [Act.put, List.setIfInBounds_toArray, List.set_cons_zero, List.set_cons_succ]
        iterate 8
          refine' SeqS.quiet (by rfl) ?_ ?_
          rotate_left
          · rintro w' hS1
            go_simp
            try with_reducible rfl
          try simp only [Act.put, List.setIfInBounds_toArray, List.set_cons_zero, List.set_cons_succ]
        refine' SeqS.call (by rfl) ?_ ?_
        rotate_left
        · rintro w' hS1
          unfold Oper.quietAt
          go_simp
          have hrd := rd_sub hS1 (j + 4) 4
          rw [Ea2.out] at hrd
          have hnw := number_walk w' (some ⟨b, o + (j + 4), none⟩) (c - (j + 4)) _ hrd (by rw [Hbl4.out]; omega)
          rw [Hbl4.out, numOf_be4 _ Ha2.out] at hnw
          exact hnw.mono fun e w'' ⟨h1, h2⟩ => ⟨h1, h2.symm⟩
        try simp only [Act.put, List.setIfInBounds_toArray, List.set_cons_zero, List.set_cons_succ]
        iterate 8
          refine' SeqS.quiet (by rfl) ?_ ?_
          rotate_left
          · rintro w' hS1
            go_simp
            try with_reducible rfl
          try simp only [Act.put, List.setIfInBounds_toArray, List.set_cons_zero, List.set_cons_succ]
        refine' SeqS.call (by rfl) ?_ ?_
        rotate_left
        · rintro w' hS1
          unfold Oper.quietAt
          go_simp
          have hrd := rd_sub hS1 (j + 8) 4
          rw [Ea3.out] at hrd
          have hnw := number_walk w' (some ⟨b, o + (j + 8), none⟩) (c - (j + 8)) _ hrd (by rw [Hbl4.out]; omega)
          rw [Hbl4.out, numOf_be4 _ Ha3.out] at hnw
          exact hnw.mono fun e w'' ⟨h1, h2⟩ => ⟨h1, h2.symm⟩
        try simp only [Act.put, List.setIfInBounds_toArray, List.set_cons_zero, List.set_cons_succ]
        iterate 8
          refine' SeqS.quiet (by rfl) ?_ ?_
          rotate_left
          · rintro w' hS1
            go_simp
            try with_reducible rfl
          try simp only [Act.put, List.setIfInBounds_toArray, List.set_cons_zero, List.set_cons_succ]
        refine' SeqS.call (by rfl) ?_ ?_
        rotate_left
        · rintro w' hS1
          unfold Oper.quietAt
          go_simp
          have hrd := rd_sub hS1 (j + 12) 4
          rw [Ea4.out] at hrd
          have hnw := number_walk w' (some ⟨b, o + (j + 12), none⟩) (c - (j + 12)) _ hrd (by rw [Hbl4.out]; omega)
          rw [Hbl4.out, numOf_be4 _ Ha4.out] at hnw
          exact hnw.mono fun e w'' ⟨h1, h2⟩ => ⟨h1, h2.symm⟩
        try simp only [Act.put, List.setIfInBounds_toArray, List.set_cons_zero, List.set_cons_succ]
        iterate 3
          refine' SeqS.quiet (by rfl) ?_ ?_
          rotate_left
          · rintro w' hS1
            go_simp
            try with_reducible rfl
          try simp only [Act.put, List.setIfInBounds_toArray, List.set_cons_zero, List.set_cons_succ]
        refine SeqS.eff ?_ ?_
        · rfl
        intro K hK
        go_simp
        refine hK.out _ _ (.inr (fun i u hu => (World.cell?_alloc_lt _ _ _ (World.block_lt_of_cell? _ _ (Hrw.out i u hu))).trans (Hrw.out i u hu))) ?_
        clear hK K
        try simp only [Act.put, List.setIfInBounds_toArray, List.set_cons_zero, List.set_cons_succ]
        refine SeqS.last ?_ ?_
        · rfl
        intro K hK
        go_simp
        refine hK.out _ _ ?_
        clear hK K
        have hVb : Below wr.heap.size wr (wr.alloc (.cells #[.int .u64 (N1 : Int), .int .u64 (N2 : Int)] 81)).drew := ((Below.refl _ _).alloc (Nat.le_refl _) _).drew
        have hVs : (wr.alloc (.cells #[.int .u64 (N1 : Int), .int .u64 (N2 : Int)] 81)).drew.heap.size = wr.heap.size + 1 := by
          show (wr.alloc (.cells #[.int .u64 (N1 : Int), .int .u64 (N2 : Int)] 81)).heap.size = _
          simp
        have hVc : Cs (wr.alloc (.cells #[.int .u64 (N1 : Int), .int .u64 (N2 : Int)] 81)).drew wr.heap.size #[.int .u64 (N1 : Int), .int .u64 (N2 : Int)] := (Cs.new _ _ _).drew
        generalize (wr.alloc (.cells #[.int .u64 (N1 : Int), .int .u64 (N2 : Int)] 81)).drew = V at hVb hVs hVc ⊢
        have l0 : V.cell? ⟨wr.heap.size, 0, none⟩ = some (.int .u64 (N1 : Int)) := (hVc.cell 0).trans rfl
        have l1 : V.cell? ⟨wr.heap.size, 1, none⟩ = some (.int .u64 (N2 : Int)) := (hVc.cell 1).trans rfl
        clear u1 u2 u3 u4 v1 v3 y4 t4 s4 x8 y8 t8 s8 x12 y12 t12 s12 y16 t16 s16 tn4 tn8 tn12 tn16 q0 q4 q8 q12 hgt hj1 hj2 ha1 ha2 ha3 ha4 Ea1 Ea2 Ea3 Ea4 Ha1 Ha2 Ha3 Ha4 Hbl4 Hrw x4
        obtain ⟨m1, m2, m3, m4, m5, m6⟩ := HX.out
        by_cases hlt : k < rs.length
        · have hz2 : N2 ≠ 0 := fun e => by
            have h1 := Hst.out.2.2.2 rs[k] (List.getElem_mem hlt)
            rw [m4 hlt, e] at h1
            exact h1 rfl
          have hz : ((N2 : Int) == 0) = false := by simp; exact hz2
          have hoV : Cs V ob #[.int .i64 17, .int .i64 16, .int .i64 (bt : Int), .slice A k c', .string ⟨#[]⟩, .slice none 0 0, .slice none 0 0] := m1.below hVb m1.lt
          have hwV : V.ownsRow (ob + 1) 81 2 (.slice A k c') k (((rs.take k).map roomC).flatMap duo) := own_keep m2 fun g hg => hVb.block g (m2.lt g hg).2
          have o3c : V.cell? ⟨ob, 3, none⟩ = some (.slice A k c') := (hoV.cell 3).trans rfl
          have hol1 := m1.lt
          have hm3 := m3.size
          have HV := Lib.hid (And.intro hVb (And.intro hoV hwV))
          have hsn : ((rs.take (k + 1)).map roomC).flatMap duo = ((rs.take k).map roomC).flatMap duo ++ [.int .u64 (N1 : Int), .int .u64 (N2 : Int)] := by
            rw [List.take_succ_eq_append_getElem hlt, List.map_append, List.flatMap_append, m4 hlt]
            simp [roomC, duo]
          have Hsn := Lib.hid hsn
          have hj48 : j ≤ 48 + 16 * 5 := by omega
          clear hVb hVc hoV hwV m1 m2 m3 m4 m5 hsn
          have hbb : ∀ bb, ((N1 : Int) == 0) = bb → (bb = true ∨ bb = false) := fun bb _ => by cases bb <;> simp
          rcases hbb _ rfl with h1z | h1z
          · go_wp2_with (at_builtin; go_must (refine wpList_append_el el42 rfl (.tmp 135) (.tmp 137) rfl (ob + 1) (.slice A k c') k (((rs.take k).map roomC).flatMap duo) rfl (World.ownsRow.alloc HV.out.2.2 _) (some ⟨wr.heap.size + 1, 0, none⟩) 1 1 [.int .u64 (N1 : Int), .int .u64 (N2 : Int)] rfl (by simp) ((Cs.new' _ _ _ _ (by simp [hVs])).rd rfl) (by simp [Value.oneCell']) (by omega) (by omega) (by simp; omega) ?_); intro v' w7 hown1 hgrow hnil hat; obtain ⟨A7, c7, rfl⟩ := own_slice hown1; clear hnil; have hq7 := ((HV.out.2.1.alloc _).grown hgrow (own_ne HV.out.2.2 (by omega))); have q7 := hq7.cell 3; have f7 := hq7.frozen 3; simp at q7)
            have hq8 := hq7.set_ 3 (.slice A7 (k + 1) c7)
            simp only [List.setIfInBounds_toArray, List.set_cons_zero, List.set_cons_succ] at hq8
            have hF8 := (((HX.out.2.2.1.trans (Fr.of_below (HV.out.1.mono (by omega)))).alloc (by omega) (.cells #[.int .u64 (N1 : Int), .int .u64 (N2 : Int)] 81)).grown hgrow (by simp; omega) (fun x hx => .inl (HV.out.2.2.lt x hx).1)).setCell (p := ⟨ob, 3, none⟩) (.inr rfl) (.slice A7 (k + 1) c7)
            have hw8 : (w7.setCell ⟨ob, 3, none⟩ (.slice A7 (k + 1) c7)).ownsRow (ob + 1) 81 2 (.slice A7 (k + 1) c7) (k + 1) (((rs.take (k + 1)).map roomC).flatMap duo) := (by rw [Hsn.out]; exact ownsRow_setCell_below (a := ⟨ob, 3, none⟩) hown1 (by simp) _)
            have HFIN := Lib.hid (And.intro hq8 (And.intro hw8 hF8))
            clear hq8 hw8 hF8 hown1 hgrow hat hq7
            go_roundw
            case rel =>
              (repeat apply Exists.intro)
              refine ⟨?_, rfl⟩
              exact ⟨k + 1, 48 + 16 * (k + 1), hlt, rfl, by congr 1, A7, c7, HFIN.out.1, HFIN.out.2.1, HFIN.out.2.2⟩
            case measure => simp [intOf]; omega
          · go_wp2_with (at_builtin; go_must (refine wpList_append_el el42 rfl (.tmp 135) (.tmp 137) rfl (ob + 1) (.slice A k c') k (((rs.take k).map roomC).flatMap duo) rfl (World.ownsRow.alloc HV.out.2.2 _) (some ⟨wr.heap.size + 1, 0, none⟩) 1 1 [.int .u64 (N1 : Int), .int .u64 (N2 : Int)] rfl (by simp) ((Cs.new' _ _ _ _ (by simp [hVs])).rd rfl) (by simp [Value.oneCell']) (by omega) (by omega) (by simp; omega) ?_); intro v' w7 hown1 hgrow hnil hat; obtain ⟨A7, c7, rfl⟩ := own_slice hown1; clear hnil; have hq7 := ((HV.out.2.1.alloc _).grown hgrow (own_ne HV.out.2.2 (by omega))); have q7 := hq7.cell 3; have f7 := hq7.frozen 3; simp at q7)
            have hq8 := hq7.set_ 3 (.slice A7 (k + 1) c7)
            simp only [List.setIfInBounds_toArray, List.set_cons_zero, List.set_cons_succ] at hq8
            have hF8 := (((HX.out.2.2.1.trans (Fr.of_below (HV.out.1.mono (by omega)))).alloc (by omega) (.cells #[.int .u64 (N1 : Int), .int .u64 (N2 : Int)] 81)).grown hgrow (by simp; omega) (fun x hx => .inl (HV.out.2.2.lt x hx).1)).setCell (p := ⟨ob, 3, none⟩) (.inr rfl) (.slice A7 (k + 1) c7)
            have hw8 : (w7.setCell ⟨ob, 3, none⟩ (.slice A7 (k + 1) c7)).ownsRow (ob + 1) 81 2 (.slice A7 (k + 1) c7) (k + 1) (((rs.take (k + 1)).map roomC).flatMap duo) := (by rw [Hsn.out]; exact ownsRow_setCell_below (a := ⟨ob, 3, none⟩) hown1 (by simp) _)
            have HFIN := Lib.hid (And.intro hq8 (And.intro hw8 hF8))
            clear hq8 hw8 hF8 hown1 hgrow hat hq7
            go_roundw
            case rel =>
              (repeat apply Exists.intro)
              refine ⟨?_, rfl⟩
              exact ⟨k + 1, 48 + 16 * (k + 1), hlt, rfl, by congr 1, A7, c7, HFIN.out.1, HFIN.out.2.1, HFIN.out.2.2⟩
            case measure => simp [intOf]; omega
        · obtain rfl : k = rs.length := by omega
          obtain ⟨rfl, rfl⟩ := m5 rfl
          have hob1 := m1.below hVb m1.lt
          have hown1 : V.ownsRow (ob + 1) 81 2 (.slice A rs.length c') rs.length (((rs.take rs.length).map roomC).flatMap duo) := own_keep m2 fun g hg => hVb.block g (m2.lt g hg).2
          rw [List.take_length] at hown1
          have hFV : Fr (ob + 1) (· = ob) W2 V := m3.trans (Fr.of_below (hVb.mono (by have := m3.size; omega)))
          have hnb := Hnb.out.fr hFV (by omega) (by omega)
          have g2 : V.cell? ⟨w.heap.size + 1, 2, none⟩ = some (.int .i64 (o2 : Int)) := (hnb.cell 2).trans rfl
          have g3 : V.cell? ⟨w.heap.size + 1, 3, none⟩ = some (.int .i64 (o3 : Int)) := (hnb.cell 3).trans rfl
          have g8 : V.cell? ⟨w.heap.size + 1, 8, none⟩ = some (.int .i64 (sl : Int)) := (hnb.cell 8).trans rfl
          have g9 : V.cell? ⟨w.heap.size + 1, 9, none⟩ = some (.int .i64 (ss : Int)) := (hnb.cell 9).trans rfl
          have HZ := Lib.hid (And.intro hob1 (And.intro hown1 hFV))
          have hm3 := m3.size
          clear hob1 hown1 hFV hnb m1 m2 m3 m4 m5 m6 hVb hVc HX hN1 hN2 hN1' x16
          go_wp2_with fail
          have i1 : (0 : Int) ≤ (o2 : Int) := by omega
          have i2 : (o2 : Int) ≤ (o2 : Int) + (ss : Int) := by omega
          have i3 : (o2 : Int) + (ss : Int) ≤ (c : Int) := by have := Hsz.out.2.2.2.1; omega
          have i4 : ¬ c = o2 := by have := Hsz.out.2.2.2.1; have := Hsz.out.1; omega
          have i5 : ((o2 : Int) + (ss : Int)).toNat = o2 + ss := by omega
          have k1 : (0 : Int) ≤ (o3 : Int) := by omega
          have k2 : (o3 : Int) ≤ (o3 : Int) + (sl : Int) := by omega
          have k3 : (o3 : Int) + (sl : Int) ≤ (c : Int) := by omega
          have k4 : ¬ c = o3 := by omega
          have k5 : ((o3 : Int) + (sl : Int)).toNat = o3 + sl := by omega
          have lg : w.heap.size + 1 < V.heap.size := World.block_lt_of_cell? V _ g2
          refine wp_region_seq (fun w' => w'.cell? ⟨w.heap.size + 1, 2, none⟩ = some (.int .i64 (o2 : Int)) ∧ w'.cell? ⟨w.heap.size + 1, 3, none⟩ = some (.int .i64 (o3 : Int)) ∧ w'.cell? ⟨w.heap.size + 1, 8, none⟩ = some (.int .i64 (sl : Int)) ∧ w'.cell? ⟨w.heap.size + 1, 9, none⟩ = some (.int .i64 (ss : Int))) 20
            [(0, true), (1, true), (2, true), (3, true), (4, true), (5, true), (6, true), (7, true), (8, true), (9, true), (10, true), (11, true), (12, true), (13, true), (14, true), (15, true), (16, true), (17, true), (18, true), (19, false), (20, false)] (by kernel_rfl) (by kernel_rfl) ⟨g2, g3, g8, g9⟩ ?_
          simp only [opsIn, List.map_cons, List.map_nil, List.getElem?_toArray, List.getElem?_cons_zero, List.getElem?_cons_succ, Option.getD_some, Nat.reduceBEq]
          iterate 19
            refine' Seq.quiet (by rfl) ?_ ?_
            rotate_left
            · rintro w' ⟨hS1, hS2, hS3, hS4⟩
              go_simp
              try with_reducible rfl
            try simp only [Act.put, List.setIfInBounds_toArray, List.set_cons_zero, List.set_cons_succ]
          refine Seq.eff ?_ ?_
          · rfl
          intro K hK
          go_simp
          refine hK.out _ _ (.inr ⟨(World.cell?_alloc_lt _ _ _ lg).trans g2, (World.cell?_alloc_lt _ _ _ lg).trans g3, (World.cell?_alloc_lt _ _ _ lg).trans g8, (World.cell?_alloc_lt _ _ _ lg).trans g9⟩) ?_
          clear hK K
          try simp only [Act.put, List.setIfInBounds_toArray, List.set_cons_zero, List.set_cons_succ]
          refine Seq.last ?_ ?_
          · rfl
          intro K hK
          go_simp
          refine hK.out _ _ ?_
          clear hK K
          have hXb : Below V.heap.size V (V.alloc (.cells #[.slice (some ⟨b, o + o2, none⟩) ss (c - o2), .slice (some ⟨b, o + o3, none⟩) sl (c - o3), .int .i64 0, .bool false] 106)).drew := ((Below.refl _ _).alloc (Nat.le_refl _) _).drew
          have hXr : Cs (V.alloc (.cells #[.slice (some ⟨b, o + o2, none⟩) ss (c - o2), .slice (some ⟨b, o + o3, none⟩) sl (c - o3), .int .i64 0, .bool false] 106)).drew (wr.heap.size + 1) #[.slice (some ⟨b, o + o2, none⟩) ss (c - o2), .slice (some ⟨b, o + o3, none⟩) sl (c - o3), .int .i64 0, .bool false] := (Cs.new' _ _ _ _ hVs).drew
          generalize (V.alloc (.cells #[.slice (some ⟨b, o + o2, none⟩) ss (c - o2), .slice (some ⟨b, o + o3, none⟩) sl (c - o3), .int .i64 0, .bool false] 106)).drew = X at hXb hXr ⊢
          obtain ⟨z1, z2, z3, z4, z5⟩ := Hsz.out
          have hstl : (st ++ be4 9).length = ss := by rw [z1]; simp [be4]
          have hpre2 : (NS.flatMap (fun (n : Nat) => be4 (n : Int)) ++ zeros 8 ++ rs.flatMap be16 ++ zeros 16).length = o2 := by
            simp only [List.length_append, nums_len, HNl.out, zeros_len, be16_len rs, z3]
            omega
          have hcutS : out = (NS.flatMap (fun (n : Nat) => be4 (n : Int)) ++ zeros 8 ++ rs.flatMap be16 ++ zeros 16) ++ ((st ++ be4 9) ++ strs) := by
            conv => lhs; rw [Hout.out]
            simp only [List.append_assoc]
          have hcutT : out = (NS.flatMap (fun (n : Nat) => be4 (n : Int)) ++ zeros 8 ++ rs.flatMap be16 ++ zeros 16 ++ (st ++ be4 9)) ++ (strs ++ []) := by
            conv => lhs; rw [hcutS]
            simp only [List.append_assoc, List.append_nil]
          have hXsz := hXb.size
          have hrXl : wr.heap.size + 1 < X.heap.size := hXr.lt
          have hrX : ∀ i u, (out.map bv)[i]? = some u → X.cell? ⟨b, o + i, none⟩ = some u := fun i u hu => (hXb.cell (p := ⟨b, o + i, none⟩) (by simp; omega)).trans ((HZ.out.2.2.cell (by omega) (by omega)).trans (HrW.out i u hu))
          have hsS := sub_at hcutS
          have hsT := sub_at hcutT
          have hlT : (NS.flatMap (fun (n : Nat) => be4 (n : Int)) ++ zeros 8 ++ rs.flatMap be16 ++ zeros 16 ++ (st ++ be4 9)).length = o3 := by rw [List.length_append, hpre2, hstl, z4]
          rw [hpre2, hstl] at hsS
          rw [hlT] at hsT
          have hRS : RS X (wr.heap.size + 1) b (o + o2) (c - o2) (st ++ be4 9) (some ⟨b, o + o3, none⟩) (c - o3) strs 0 := by
            refine ⟨by rw [hstl, ← z2]; exact hXr, fun i u hu => ?_, ?_, by rw [hstl]; omega, by simp only [maxLen]; omega, by rw [← z2]; omega, by simp only [maxLen]; omega, by omega, fun a ha => .inl (by cases ha; show b ≠ wr.heap.size + 1; omega), by rw [hstl]; omega, by rw [← z2]; omega⟩
            · have hil := (List.getElem?_eq_some_iff.1 hu).1
              rw [List.length_map, hstl] at hil
              have h := hrX (o2 + i) u (by
                rw [List.getElem?_map] at hu ⊢
                rw [← hsS, List.getElem?_take_of_lt hil, List.getElem?_drop] at hu
                exact hu)
              rw [Nat.add_assoc]
              exact h
            · have h := rd_sub hrX o3 strs.length
              rw [hsT] at h
              exact h
          obtain ⟨tl, htl⟩ := Hst.out.1.head
          have hst1 : st ++ be4 9 = [] ++ (be4 1 ++ (tl ++ be4 9)) := by rw [htl]; simp only [List.append_assoc, List.nil_append]
          have HT := Lib.hid (token_walk X (wr.heap.size + 1) b (o + o2) (c - o2) (st ++ be4 9) (some ⟨b, o + o3, none⟩) (c - o3) strs ([] : List UInt8).length (be4 1) hRS (len_at hst1) (sub_at hst1) (by rw [num1]; omega))
          rw [num1] at HT
          have HND := Lib.hid (fun (w3 : World) (h3 : RS w3 (wr.heap.size + 1) b (o + o2) (c - o2) (st ++ be4 9) (some ⟨b, o + o3, none⟩) (c - o3) strs (([] : List UInt8).length + 4)) (hb3 : b < w3.heap.size) => rnode_walk root w3 (wr.heap.size + 1) b (o + o2) (c - o2) (st ++ be4 9) (some ⟨b, o + o3, none⟩) (c - o3) strs st [] (be4 9) 20 Hst.out.1 (by simp) h3 hb3 Hst.out.2.1 (by have := Hst.out.2.2.1; omega) (by omega) st.length (by simp))
          have hst9 : st ++ be4 9 = st ++ (be4 9 ++ []) := by simp
          have hn9 : numOf (be4 9) = 9 := by decide
          have HT9 := Lib.hid (fun (w4 : World) (h4 : RS w4 (wr.heap.size + 1) b (o + o2) (c - o2) (st ++ be4 9) (some ⟨b, o + o3, none⟩) (c - o3) strs st.length) => (hn9 ▸ token_walk w4 (wr.heap.size + 1) b (o + o2) (c - o2) (st ++ be4 9) (some ⟨b, o + o3, none⟩) (c - o3) strs st.length (be4 9) h4 (len_at hst9) (sub_at hst9) (by rw [hn9]; omega) : Calls Try.prog 44 #[.pointer (some ⟨wr.heap.size + 1, 0, none⟩)] w4 (TokPost w4 (wr.heap.size + 1) b (o + o2) (c - o2) (st ++ be4 9) (some ⟨b, o + o3, none⟩) (c - o3) strs st.length 9)))
          have HXb := Lib.hid hXb
          clear z1 z2 z3 z4 z5 hstl hpre2 hcutS hcutT hrX hsS hsT hlT hRS hst1 hst9 hn9 hXr hXb g2 g3 g8 g9 i1 i2 i3 i4 i5 k1 k2 k3 k4 k5 htl
          go_wp2_with fail
          refine HT.out.mono ?_
          rintro e w3 ⟨rfl, hrs3, hfr3⟩
          have hs3 := hfr3.size
          have HN := Lib.hid (HND.out w3 hrs3 (by omega))
          have Hfr3 := Lib.hid hfr3
          clear hrs3 hfr3
          go_wp2_with fail
          refine HN.out.mono ?_
          rintro e w4 ⟨t3, rfl, hn4, hrs4, hfr4⟩
          obtain ⟨s1, A5, n5, c5, A6, n6, c6, rfl⟩ := id hn4.form
          have hs4 := hfr4.size
          have hobV : ob < V.heap.size := HZ.out.1.lt
          have hob4 : Cs w4 ob #[.int .i64 17, .int .i64 16, .int .i64 (bt : Int), .slice A rs.length c', .string ⟨#[]⟩, .slice none 0 0, .slice none 0 0] := (((HZ.out.1.below HXb.out hobV).fr Hfr3.out (by omega) (by omega)).fr hfr4 (by omega) (by omega))
          have p4 : w4.cell? ⟨ob, 4, none⟩ = some (.string ⟨#[]⟩) := (hob4.cell 4).trans rfl
          have p5 : w4.cell? ⟨ob, 5, none⟩ = some (.slice none 0 0) := (hob4.cell 5).trans rfl
          have p6 : w4.cell? ⟨ob, 6, none⟩ = some (.slice none 0 0) := (hob4.cell 6).trans rfl
          have f4 := hob4.frozen 4
          have f5 := hob4.frozen 5
          have f6 := hob4.frozen 6
          have Hn4 := Lib.hid hn4
          have Hrs4 := Lib.hid hrs4
          have Hfr4 := Lib.hid hfr4
          have Hob4 := Lib.hid hob4
          clear hn4 hrs4 hfr4 hob4
          go_wp2_with fail
          have q5 := ((Hob4.out.set_ 4 (.string s1)).set_ 5 (.slice A5 n5 c5)).set_ 6 (.slice A6 n6 c6)
          simp only [List.setIfInBounds_toArray, List.set_cons_zero, List.set_cons_succ] at q5
          have hbob : b ≠ ob := by omega
          have hrob : ob ≠ wr.heap.size + 1 := by omega
          have hrs5 := ((Hrs4.out.set_ (p := ⟨ob, 4, none⟩) hrob (Ne.symm hbob) (.string s1)).set_ (p := ⟨ob, 5, none⟩) hrob (Ne.symm hbob) (.slice A5 n5 c5)).set_ (p := ⟨ob, 6, none⟩) hrob (Ne.symm hbob) (.slice A6 n6 c6)
          have hrbV := Hrb0.out.fr HZ.out.2.2 (by omega) (by omega)
          have hrb4 := (((hrbV.below HXb.out hrbV.lt).fr Hfr3.out (by have := hrbV.lt; have := HXb.out.size; omega) (by omega)).fr Hfr4.out (by have := hrbV.lt; have := HXb.out.size; omega) (by omega))
          have hrb5 := ((hrb4.far (p := ⟨ob, 4, none⟩) (by simp; omega) (.string s1)).far (p := ⟨ob, 5, none⟩) (by simp; omega) (.slice A5 n5 c5)).far (p := ⟨ob, 6, none⟩) (by simp; omega) (.slice A6 n6 c6)
          have hfr5 : ∀ k, k ≠ ob → ((((w4.setCell ⟨ob, 4, none⟩ (.string s1)).setCell ⟨ob, 5, none⟩ (.slice A5 n5 c5)).setCell ⟨ob, 6, none⟩ (.slice A6 n6 c6))).heap[k]? = w4.heap[k]? := fun k hk => by
            rw [Below.heap_setCell _ _ _ _ hk, Below.heap_setCell _ _ _ _ hk, Below.heap_setCell _ _ _ _ hk]
          have hsz5 : ((((w4.setCell ⟨ob, 4, none⟩ (.string s1)).setCell ⟨ob, 5, none⟩ (.slice A5 n5 c5)).setCell ⟨ob, 6, none⟩ (.slice A6 n6 c6))).heap.size = w4.heap.size := by simp [World.setCell]
          have hst5 : ((((w4.setCell ⟨ob, 4, none⟩ (.string s1)).setCell ⟨ob, 5, none⟩ (.slice A5 n5 c5)).setCell ⟨ob, 6, none⟩ (.slice A6 n6 c6))).os = w4.os ∧ ((((w4.setCell ⟨ob, 4, none⟩ (.string s1)).setCell ⟨ob, 5, none⟩ (.slice A5 n5 c5)).setCell ⟨ob, 6, none⟩ (.slice A6 n6 c6))).tape = w4.tape ∧ ((((w4.setCell ⟨ob, 4, none⟩ (.string s1)).setCell ⟨ob, 5, none⟩ (.slice A5 n5 c5)).setCell ⟨ob, 6, none⟩ (.slice A6 n6 c6))).output = w4.output := ⟨rfl, rfl, rfl⟩
          generalize ((w4.setCell ⟨ob, 4, none⟩ (.string s1)).setCell ⟨ob, 5, none⟩ (.slice A5 n5 c5)).setCell ⟨ob, 6, none⟩ (.slice A6 n6 c6) = w5 at q5 hrs5 hrb5 hfr5 hsz5 hst5 ⊢
          have y0 : w5.cell? ⟨ob, 0, none⟩ = some (.int .i64 17) := (q5.cell 0).trans rfl
          have y1 : w5.cell? ⟨ob, 1, none⟩ = some (.int .i64 16) := (q5.cell 1).trans rfl
          have y2 : w5.cell? ⟨ob, 2, none⟩ = some (.int .i64 (bt : Int)) := (q5.cell 2).trans rfl
          have y3 : w5.cell? ⟨ob, 3, none⟩ = some (.slice A rs.length c') := (q5.cell 3).trans rfl
          have y4 : w5.cell? ⟨ob, 4, none⟩ = some (.string s1) := (q5.cell 4).trans rfl
          have y5 : w5.cell? ⟨ob, 5, none⟩ = some (.slice A5 n5 c5) := (q5.cell 5).trans rfl
          have y6 : w5.cell? ⟨ob, 6, none⟩ = some (.slice A6 n6 c6) := (q5.cell 6).trans rfl
          have yr : w5.cell? ⟨wr.heap.size + 1, 3, none⟩ = some (.bool false) := (hrs5.1.cell 3).trans rfl
          have Hrs5 := Lib.hid (hrs5.keep (Below.refl _ _).drew)
          have Hrb5 := Lib.hid hrb5
          have Hq5 := Lib.hid q5
          have H5 := Lib.hid (And.intro hfr5 (And.intro hsz5 hst5))
          have hob5 : ob < w5.heap.size := q5.lt
          clear q5 hrs5 hrbV hrb4 hrb5 hfr5 hsz5 hst5 p4 p5 p6 f4 f5 f6
          refine wp_region_seq (fun w' => w'.cell? ⟨ob, 0, none⟩ = some (.int .i64 17) ∧ w'.cell? ⟨ob, 1, none⟩ = some (.int .i64 16) ∧ w'.cell? ⟨ob, 2, none⟩ = some (.int .i64 (bt : Int)) ∧ w'.cell? ⟨ob, 3, none⟩ = some (.slice A rs.length c') ∧ w'.cell? ⟨ob, 4, none⟩ = some (.string s1) ∧ w'.cell? ⟨ob, 5, none⟩ = some (.slice A5 n5 c5) ∧ w'.cell? ⟨ob, 6, none⟩ = some (.slice A6 n6 c6) ∧ w'.cell? ⟨wr.heap.size + 1, 3, none⟩ = some (.bool false)) 19
            [(0, true), (1, true), (2, true), (3, true), (4, true), (5, true), (6, true), (7, true), (8, false), (9, true), (10, true), (11, true), (12, true), (13, true), (14, true), (15, true), (16, true), (17, true), (18, false), (19, false)] (by kernel_rfl) (by kernel_rfl) ⟨y0, y1, y2, y3, y4, y5, y6, yr⟩ ?_
          simp only [opsIn, List.map_cons, List.map_nil, List.getElem?_toArray, List.getElem?_cons_zero, List.getElem?_cons_succ, Option.getD_some, Nat.reduceBEq]
          iterate 7
            refine' Seq.quiet (by rfl) ?_ ?_
            rotate_left
            · rintro w' ⟨hS1, hS2, hS3, hS4, hS5, hS6, hS7, hS8⟩
              go_simp
              try with_reducible rfl
            try simp only [Act.put, List.setIfInBounds_toArray, List.set_cons_zero, List.set_cons_succ]
          refine' Seq.quietG (by rfl) ?_ ?_
          rotate_left
          · rintro w' ⟨hS1, hS2, hS3, hS4, hS5, hS6, hS7, hS8⟩
            go_simp
            try with_reducible rfl
          try simp only [Act.put, List.setIfInBounds_toArray, List.set_cons_zero, List.set_cons_succ]
          refine Seq.effG (by rfl) ?_
          intro K hK
          go_simp
          refine (HT9.out w5.drew Hrs5.out).mono ?_
          rintro e w6 ⟨rfl, hrs6, hfr6⟩
          have q6 : Cs w6 ob _ := Hq5.out.drew.fr hfr6 hob5 hrob
          have rb6 := Hrb5.out.drew.fr hfr6 Hrb5.out.lt (by omega)
          have e0 : w6.cell? ⟨w.heap.size, 0, none⟩ = some (.int .i64 0) := (rb6.cell 0).trans rfl
          have e1 : w6.cell? ⟨w.heap.size, 1, none⟩ = some (.int .i64 0) := (rb6.cell 1).trans rfl
          have e2 : w6.cell? ⟨w.heap.size, 2, none⟩ = some (.int .i64 0) := (rb6.cell 2).trans rfl
          have e3 : w6.cell? ⟨w.heap.size, 3, none⟩ = some (.slice none 0 0) := (rb6.cell 3).trans rfl
          have e4 : w6.cell? ⟨w.heap.size, 4, none⟩ = some (.string ⟨#[]⟩) := (rb6.cell 4).trans rfl
          have e5 : w6.cell? ⟨w.heap.size, 5, none⟩ = some (.slice none 0 0) := (rb6.cell 5).trans rfl
          have e6 : w6.cell? ⟨w.heap.size, 6, none⟩ = some (.slice none 0 0) := (rb6.cell 6).trans rfl
          have z0 := rb6.frozen 0
          have z1 := rb6.frozen 1
          have z2 := rb6.frozen 2
          have z3 := rb6.frozen 3
          have z4 := rb6.frozen 4
          have z5 := rb6.frozen 5
          have z6 := rb6.frozen 6
          have hw6o : w.heap.size ≠ ob := by omega
          have hw6r : w.heap.size ≠ wr.heap.size + 1 := by omega
          have Hrb6 := Lib.hid rb6
          refine hK.out _ _ (.inr ⟨(q6.cell 0).trans rfl, (q6.cell 1).trans rfl, (q6.cell 2).trans rfl, (q6.cell 3).trans rfl, (q6.cell 4).trans rfl, (q6.cell 5).trans rfl, (q6.cell 6).trans rfl, (hrs6.1.cell 3).trans rfl⟩) ?_
          clear hK K
          try simp only [Act.put, List.setIfInBounds_toArray, List.set_cons_zero, List.set_cons_succ]
          refine' Seq.quietG (by rfl) ?_ ?_
          rotate_left
          · rintro w' ⟨hS1, hS2, hS3, hS4, hS5, hS6, hS7, hS8⟩
            go_simp
            try with_reducible rfl
          try simp only [Act.put, List.setIfInBounds_toArray, List.set_cons_zero, List.set_cons_succ]
          iterate 2
            refine' Seq.quiet (by rfl) ?_ ?_
            rotate_left
            · rintro w' ⟨hS1, hS2, hS3, hS4, hS5, hS6, hS7, hS8⟩
              go_simp
              try with_reducible rfl
            try simp only [Act.put, List.setIfInBounds_toArray, List.set_cons_zero, List.set_cons_succ]
          refine' Seq.quietG (by rfl) ?_ ?_
          rotate_left
          · rintro w' ⟨hS1, hS2, hS3, hS4, hS5, hS6, hS7, hS8⟩
            go_simp
            try with_reducible rfl
          try simp only [Act.put, List.setIfInBounds_toArray, List.set_cons_zero, List.set_cons_succ]
          refine' Seq.quietG (by rfl) ?_ ?_
          rotate_left
          · rintro w' ⟨hS1, hS2, hS3, hS4, hS5, hS6, hS7, hS8⟩
            go_simp
            try with_reducible rfl
          try simp only [Act.put, List.setIfInBounds_toArray, List.set_cons_zero, List.set_cons_succ]
          refine' Seq.quietG (by rfl) ?_ ?_
          rotate_left
          · rintro w' ⟨hS1, hS2, hS3, hS4, hS5, hS6, hS7, hS8⟩
            go_simp
            try with_reducible rfl
          try simp only [Act.put, List.setIfInBounds_toArray, List.set_cons_zero, List.set_cons_succ]
          refine' Seq.quietG (by rfl) ?_ ?_
          rotate_left
          · rintro w' ⟨hS1, hS2, hS3, hS4, hS5, hS6, hS7, hS8⟩
            go_simp
            try with_reducible rfl
          try simp only [Act.put, List.setIfInBounds_toArray, List.set_cons_zero, List.set_cons_succ]
          refine' Seq.quietG (by rfl) ?_ ?_
          rotate_left
          · rintro w' ⟨hS1, hS2, hS3, hS4, hS5, hS6, hS7, hS8⟩
            go_simp
            try with_reducible rfl
          try simp only [Act.put, List.setIfInBounds_toArray, List.set_cons_zero, List.set_cons_succ]
          refine' Seq.quiet (by rfl) ?_ ?_
          rotate_left
          · rintro w' ⟨hS1, hS2, hS3, hS4, hS5, hS6, hS7, hS8⟩
            go_simp
            try with_reducible rfl
          try simp only [Act.put, List.setIfInBounds_toArray, List.set_cons_zero, List.set_cons_succ]
          refine Seq.eff ?_ ?_
          · rfl
          intro K hK
          go_simp
          have q7 := (((((((q6.far (p := ⟨w.heap.size, 0, none⟩) (Ne.symm hw6o) (.int .i64 17)).far (p := ⟨w.heap.size, 1, none⟩) (Ne.symm hw6o) (.int .i64 16)).far (p := ⟨w.heap.size, 2, none⟩) (Ne.symm hw6o) (.int .i64 (bt : Int))).far (p := ⟨w.heap.size, 3, none⟩) (Ne.symm hw6o) (.slice A rs.length c')).far (p := ⟨w.heap.size, 4, none⟩) (Ne.symm hw6o) (.string s1)).far (p := ⟨w.heap.size, 5, none⟩) (Ne.symm hw6o) (.slice A5 n5 c5)).far (p := ⟨w.heap.size, 6, none⟩) (Ne.symm hw6o) (.slice A6 n6 c6))
          have r7 := (((((((hrs6.1.far (p := ⟨w.heap.size, 0, none⟩) (Ne.symm hw6r) (.int .i64 17)).far (p := ⟨w.heap.size, 1, none⟩) (Ne.symm hw6r) (.int .i64 16)).far (p := ⟨w.heap.size, 2, none⟩) (Ne.symm hw6r) (.int .i64 (bt : Int))).far (p := ⟨w.heap.size, 3, none⟩) (Ne.symm hw6r) (.slice A rs.length c')).far (p := ⟨w.heap.size, 4, none⟩) (Ne.symm hw6r) (.string s1)).far (p := ⟨w.heap.size, 5, none⟩) (Ne.symm hw6r) (.slice A5 n5 c5)).far (p := ⟨w.heap.size, 6, none⟩) (Ne.symm hw6r) (.slice A6 n6 c6))
          refine hK.out _ _ (.inr ⟨(q7.cell 0).trans rfl, (q7.cell 1).trans rfl, (q7.cell 2).trans rfl, (q7.cell 3).trans rfl, (q7.cell 4).trans rfl, (q7.cell 5).trans rfl, (q7.cell 6).trans rfl, (r7.cell 3).trans rfl⟩) ?_
          clear hK K
          try simp only [Act.put, List.setIfInBounds_toArray, List.set_cons_zero, List.set_cons_succ]
          refine Seq.last ?_ ?_
          · rfl
          intro K hK
          go_simp
          refine hK.out _ _ ?_
          clear hK K
          obtain ⟨Y, hYe, qY, hfY⟩ := set7 Hrb6.out (.int .i64 17) (.int .i64 16) (.int .i64 (bt : Int)) (.slice A rs.length c') (.string s1) (.slice A5 n5 c5) (.slice A6 n6 c6)
          rw [← hYe]
          clear hYe
          obtain ⟨g1, g2, g3, g4, g5⟩ := H5.out
          have hVX := HXb.out.size
          have hX3 := Hfr3.out.size
          have h34 := Hfr4.out.size
          have h56 : w5.heap.size ≤ w6.heap.size := hfr6.size
          have h6Y := hfY.size
          have hY : ∀ k, k < w6.heap.size → k ≠ w.heap.size → Y.heap[k]? = w6.heap[k]? := fun k h1 h2 => hfY.block k h1 h2
          have key : ∀ k, k < V.heap.size → k ≠ ob → k ≠ w.heap.size → Y.heap[k]? = V.heap[k]? := fun k k1 k2 k3 => by
            rw [hY k (by omega) k3, hfr6.block k (by show k < w5.heap.size; omega) (by omega)]
            show w5.heap[k]? = _
            rw [g1 k k2, Hfr4.out.block k (by omega) (by omega), Hfr3.out.block k (by omega) (by omega), HXb.out.block k k1]
          have hbV : Below w.heap.size w V := HB2.out.trans (HZ.out.2.2.below (by omega) (by omega))
          have hVo := HZ.out.1.lt
          have hbY : Below w.heap.size w Y := by
            refine ⟨?_, ?_, ?_, by have := hbV.size; omega, fun k hk => (key k (by omega) (by omega) (by omega)).trans (hbV.block k hk)⟩
            · exact hfY.os.trans (hfr6.os.trans (g3.trans (Hfr4.out.os.trans (Hfr3.out.os.trans (HXb.out.os.trans hbV.os)))))
            · exact hfY.tape.trans (hfr6.tape.trans (g4.trans (Hfr4.out.tape.trans (Hfr3.out.tape.trans (HXb.out.tape.trans hbV.tape)))))
            · exact hfY.output.trans (hfr6.output.trans (g5.trans (Hfr4.out.output.trans (Hfr3.out.output.trans (HXb.out.output.trans hbV.output)))))
          have hnY : NodeC Y (OkB b w Y) root (.string s1, .slice A5 n5 c5, .slice A6 n6 c6) := by
            refine NodeC.mono (fun k hk => ?_) (fun k hk => ?_) Hn4.out
            · have hk1 : k < w4.heap.size ∧ k ≠ ob ∧ k ≠ w.heap.size ∧ k ≠ wr.heap.size + 1 := by
                rcases hk with rfl | ⟨h1, h2⟩
                · exact ⟨by omega, by omega, by omega, by omega⟩
                · exact ⟨h2, by omega, by omega, by omega⟩
              have hk6 : k < w6.heap.size := by have := hk1.1; omega
              rw [hY k hk6 hk1.2.2.1, hfr6.block k (by show k < w5.heap.size; omega) hk1.2.2.2]
              exact g1 k hk1.2.1
            · rcases hk with rfl | ⟨h1, h2⟩
              · exact .inl rfl
              · exact .inr ⟨by omega, by omega⟩
          have hrY := own_keep (w' := Y) HZ.out.2.1 fun g hg => key g (HZ.out.2.1.lt g hg).2 (by have := (HZ.out.2.1.lt g hg).1; omega) (by have := (HZ.out.2.1.lt g hg).1; omega)
          obtain ⟨o1, o2', o3'⟩ := own_form hrY
          have hcs : TreeC Y (OkB b w Y) ⟨17, 16, bt, rs, root⟩ #[.int .i64 17, .int .i64 16, .int .i64 (bt : Int), .slice A rs.length c', .string s1, .slice A5 n5 c5, .slice A6 n6 c6] := by
            refine ⟨.slice A rs.length c', (.string s1, .slice A5 n5 c5, .slice A6 n6 c6), rfl, ⟨A, c', rfl, by show rs.length * 16 ≤ 140737488351232; omega, o1, o2', Hrb.out, ?_⟩, hnY, by simp, by simp, by constructor <;> simp <;> omega⟩
            rcases o3' with h | ⟨g, rfl⟩
            · exact .inl (List.length_eq_zero_iff.1 h)
            · exact .inr ⟨g, 0, rfl, .inr ⟨by have := (hrY.lt g rfl).1; omega, (hrY.lt g rfl).2⟩, own_duo hrY⟩
          have HFIN := Lib.hid (show ReadPost w b ⟨17, 16, bt, rs, root⟩ (.returned (.tuple #[.agg #[.int .i64 17, .int .i64 16, .int .i64 (bt : Int), .slice A rs.length c', .string s1, .slice A5 n5 c5, .slice A6 n6 c6], .bool true])) Y from ⟨_, rfl, hcs, hbY⟩)
          obtain ⟨r0, r1, r2, r3, r4, r5, r6⟩ := cells7 qY
          clear qY hY hfY g1 g2 g3 g4 g5 key hbV hbY hnY hrY hcs hfr6 hrs6 q6 rb6 e0 e1 e2 e3 e4 e5 e6 z0 z1 z2 z3 z4 z5 z6
          go_wp2_with fail
          refine bodyPost_ret (v := .tuple #[.agg #[.int .i64 17, .int .i64 16, .int .i64 (bt : Int), .slice A rs.length c', .string s1, .slice A5 n5 c5, .slice A6 n6 c6], .bool true]) (by simp [results, Try.results21, go_sem, r0, r1, r2, r3, r4, r5, r6]) rfl ?_
          exact HFIN.out
end Go.Proofs.Ytlbhadggfipckaa
