/-
  ReadFDT, ZZRead, impl.Parse on bytes that are no tree.
  laws.FnBroken, walked.
-/
import Derived.Test.YtlbhadggfipckaaMa23
import Derived.Test.YtlbhadggfipckaaMa00
import Derived.Test.YtlbhadggfipckaaMa09
import Derived.Test.YtlbhadggfipckaaMa20
import Derived.Deep.DeepCutAuto
set_option linter.unusedVariables false
set_option linter.unusedSimpArgs false
namespace Go.Proofs.Ytlbhadggfipckaa
open Go.RowKit

/-- Bytes that are no tree: too short a header, another first number, or rooms that end too early. -/
def NoTree (dt : List UInt8) : Prop :=
  dt.length < 40 ∨ ∃ n0 n1 n2 n3 ro n5 n6 n7 n8 n9 more, (∀ m ∈ [n0, n1, n2, n3, ro, n5, n6, n7, n8, n9], m < 4294967296) ∧ dt = beN [n0, n1, n2, n3, ro, n5, n6, n7, n8, n9] ++ more ∧
    (n0 ≠ 3490578157 ∨ (n5 = 17 ∧ n1 ≤ 1073741824 ∧ 40 ≤ ro ∧ ro % 8 = 0 ∧ ro ≤ dt.length ∧ ∃ (rs : List (Nat × Nat)) (tail m2 : List UInt8), dt.drop ro ++ tail = bytesR (rs ++ [(0, 0)]) ++ m2 ∧ (∀ x ∈ rs, x.1 < 18446744073709551616 ∧ x.2 < 18446744073709551616 ∧ x.2 ≠ 0) ∧ rs.length ≤ 100 ∧ dt.length < ro + 16 * (rs.length + 1)))

def BadPost (w : World) (X : Nat → Prop) (e : Ending) (w' : World) : Prop := (∃ t z, e = .returned (.tuple #[.pointer none, .iface t z])) ∧ Fr w.heap.size X w w'

set_option maxRecDepth 20000 in
set_option maxHeartbeats 1000000 in
theorem readFDT_bad (w : World) (r : Nat) (dk : Nat → Prop) (A : Option Addr) (c : Nat) (dt : List UInt8) (i : Nat) (h : BR w r dk A c dt i) (hbad : NoTree dt) :
    Calls Try.prog 66 #[.iface 142 (.pointer (some ⟨r, 0, none⟩))] w (BadPost w (fun k => k = r ∨ dk k)) := by
  have hrl := h.cs.lt
  have hdl := h.dl
  obtain ⟨W, hW⟩ : ∃ W, W = w.alloc (.cells #[.int .u32 0, .int .u32 0, .int .u32 0, .int .u32 0, .int .u32 0, .int .u32 0, .int .u32 0, .int .u32 0, .int .u32 0, .int .u32 0, .slice none 0 0, .pointer none] 93) := ⟨_, rfl⟩
  have hWb : Below w.heap.size w W := by rw [hW]; exact (Below.refl _ _).alloc (Nat.le_refl _) _
  have hWc : Cs W w.heap.size (fdtC 0 0 0 0 0 0 0 0 0 0 (.slice none 0 0) (.pointer none)) := by rw [hW]; exact Cs.new _ _ _
  have hWr : BR W r dk A c dt i := h.keep (hWb.block _ hrl) (fun k hk => hWb.block k (hdl k hk))
  have hWs : W.heap.size = w.heap.size + 1 := by rw [hW]; simp
  obtain ⟨f, hf⟩ : ∃ f, f = w.heap.size := ⟨_, rfl⟩
  have hfr : f ≠ r := by omega
  have hfd : ¬ dk f := fun e => by have := hdl f e; omega
  rw [← hf] at hWc
  have HB := Lib.hid (And.intro hWb (And.intro hWs hf))
  have HW := Lib.hid hW
  have Hf := Lib.hid hf
  have main : ∀ (n0 n1 n2 n3 ro n5 n6 n7 n8 n9 : Nat) (more : List UInt8), Calls Try.prog 79 #[.pointer (some ⟨f, 0, none⟩), .iface 142 (.pointer (some ⟨r, 0, none⟩))] W (RHdPost W f r dk A c dt n0 n1 n2 n3 ro n5 n6 n7 n8 n9 (.slice none 0 0) (.pointer none) more) →
      (dt.length < 40 ∨ n0 ≠ 3490578157 ∨ (40 ≤ ro ∧ ro % 8 = 0 ∧ ro ≤ dt.length ∧ ∃ (rs : List (Nat × Nat)) (tail m2 : List UInt8), dt.drop ro ++ tail = bytesR (rs ++ [(0, 0)]) ++ m2 ∧ (∀ x ∈ rs, x.1 < 18446744073709551616 ∧ x.2 < 18446744073709551616 ∧ x.2 ≠ 0) ∧ rs.length ≤ 100 ∧ dt.length < ro + 16 * (rs.length + 1))) →
      Calls Try.prog 66 #[.iface 142 (.pointer (some ⟨r, 0, none⟩))] w (BadPost w (fun k => k = r ∨ dk k)) := by
    intro n0 n1 n2 n3 ro n5 n6 n7 n8 n9 more hH hcase
    have HH := Lib.hid hH
    have HC := Lib.hid hcase
    clear hH hcase hbad hWr hWc hWb hWs hW hf h
    go_enter Try.func66, Try.ntmps66
    go_wp2_with fail
    rw [← HW.out, ← Hf.out]
    refine HH.out.mono ?_
    rintro e w1 ⟨hf1, hor⟩
    have hF1 : Fr w.heap.size (fun k => k = r ∨ dk k) w w1 := (Fr.of_below HB.out.1).trans (hf1.mono (by have := HB.out.2.1; omega) (fun k hk h => h.resolve_left (fun e => by have := Hf.out; omega)))
    rcases hor with ⟨hno, t, z, rfl⟩ | ⟨h0, hdt, rfl, hc1, i1, hb1⟩
    · have HFIN := Lib.hid (show BadPost w (fun k => k = r ∨ dk k) (.returned (.tuple #[.pointer none, .iface t z])) w1 from ⟨⟨t, z, rfl⟩, hF1⟩)
      clear hF1 hf1 hno
      go_wp2_with fail
      go_ret2
      exact HFIN.out
    obtain ⟨g1, g2, g3, rs, tail, m2, g4, g5, g6, g7⟩ : 40 ≤ ro ∧ ro % 8 = 0 ∧ ro ≤ dt.length ∧ ∃ (rs : List (Nat × Nat)) (tail m2 : List UInt8), dt.drop ro ++ tail = bytesR (rs ++ [(0, 0)]) ++ m2 ∧ (∀ x ∈ rs, x.1 < 18446744073709551616 ∧ x.2 < 18446744073709551616 ∧ x.2 ≠ 0) ∧ rs.length ≤ 100 ∧ dt.length < ro + 16 * (rs.length + 1) := by
      rcases HC.out with h | h | h
      · exfalso
        have := congrArg List.length hdt
        rw [List.length_append, beN_len] at this
        simp at this
        omega
      · exact absurd h0 h
      · exact h
    have HR := Lib.hid (reserve_walk w1 f r dk A c dt i1 hb1 n0 n1 n2 n3 ro n5 n6 n7 n8 n9 _ _ hc1 hfr hfd ⟨g1, g2, g3⟩ rs m2 tail g4 g5 g6)
    have HF1 := Lib.hid hF1
    have H7 := Lib.hid g7
    clear hf1 hF1 h0 hdt hc1 hb1 g1 g2 g3 g4 g5 g6 g7 HC
    go_wp2_with fail
    refine HR.out.mono ?_
    rintro e w2 ⟨hf2, hor⟩
    rcases hor with ⟨hno, t, z, rfl⟩ | ⟨hno, -⟩
    case inr => exact absurd H7.out (by omega)
    have HFIN := Lib.hid (show BadPost w (fun k => k = r ∨ dk k) (.returned (.tuple #[.pointer none, .iface t z])) w2 from ⟨⟨t, z, rfl⟩, HF1.out.trans (hf2.mono HF1.out.size (fun k hk h => h.resolve_left (fun e => by have := Hf.out; omega)))⟩)
    clear hf2 hno
    go_wp2_with fail
    go_ret2
    exact HFIN.out
  rcases hbad with hs | ⟨n0, n1, n2, n3, ro, n5, n6, n7, n8, n9, more, hnb, hdt, hc⟩
  · exact main 0 0 0 0 0 0 0 0 0 0 [] (rhdr_walk W f r dk A c dt i hWr _ _ hWc hfr hfd 0 0 0 0 0 0 0 0 0 0 [] (by simp) (.inl hs) (by simp)) (.inl hs)
  · rcases hc with hc | ⟨h5, h1, hc⟩
    · exact main n0 n1 n2 n3 ro n5 n6 n7 n8 n9 more (rhdr_walk W f r dk A c dt i hWr _ _ hWc hfr hfd n0 n1 n2 n3 ro n5 n6 n7 n8 n9 more hnb (.inr hdt) (fun h => absurd h hc)) (.inr (.inl hc))
    · exact main n0 n1 n2 n3 ro n5 n6 n7 n8 n9 more (rhdr_walk W f r dk A c dt i hWr _ _ hWc hfr hfd n0 n1 n2 n3 ro n5 n6 n7 n8 n9 more hnb (.inr hdt) (fun _ => ⟨h5, h1⟩)) (.inr (.inr hc))

/-- The reader of bytes that the call has made. -/
theorem zread_bad (w : World) (A : Option Addr) (c : Nat) (dt : List UInt8) (base : Nat) (hown : w.ownsRow base 5 1 (.slice A dt.length c) dt.length (dt.map bv)) (hl : dt.length ≤ 100000000) (hbad : NoTree dt) :
    Calls Try.prog 51 #[.slice A dt.length c] w (BadPost w (fun k => base ≤ k)) := by
  obtain ⟨o1, o2, o3⟩ := own_form hown
  obtain ⟨W, hW⟩ : ∃ W, W = w.alloc (.cells #[.slice A dt.length c, .int .i64 0] 144) := ⟨_, rfl⟩
  have hWb : Below w.heap.size w W := by rw [hW]; exact (Below.refl _ _).alloc (Nat.le_refl _) _
  have hWc : Cs W w.heap.size #[.slice A dt.length c, .int .i64 0] := by rw [hW]; exact Cs.new _ _ _
  have hWs : W.heap.size = w.heap.size + 1 := by rw [hW]; simp
  have hBR : BR W w.heap.size (fun k => (Value.slice A dt.length c).ownBlock = some k) A c dt 0 := by
    refine ⟨hWc, ?_, o1, o2, fun e => by have := (hown.lt _ e).2; omega, fun k hk => by have := (hown.lt _ hk).2; omega, hl⟩
    rcases own_rd hown with h | ⟨b, o, rfl, h⟩
    · exact .inl h
    · refine .inr ⟨b, o, rfl, rfl, fun j u hu => ?_⟩
      rw [World.cell?_of_block (a := ⟨b, o + j, none⟩) (hWb.block b (hown.lt b rfl).2)]
      exact h j u hu
  have H := Lib.hid (readFDT_bad W w.heap.size _ A c dt 0 hBR hbad)
  have HW := Lib.hid hW
  have HB := Lib.hid (And.intro hWb (And.intro hWs hown))
  clear hW hWb hWc hWs hBR hown hbad
  go_enter Try.func51, Try.ntmps51
  go_wp2_with fail
  rw [← HW.out]
  refine H.out.mono ?_
  rintro e w1 ⟨⟨t, z, rfl⟩, hf⟩
  have HFIN := Lib.hid (show BadPost w (fun k => base ≤ k) (.returned (.tuple #[.pointer none, .iface t z])) w1 from ⟨⟨t, z, rfl⟩, (Fr.of_below HB.out.1).trans (hf.mono (by have := HB.out.2.1; omega) (fun k hk h => h.elim (fun e => by omega) (fun e => (HB.out.2.2.lt k e).1)))⟩)
  clear hf
  go_wp2_with fail
  go_ret2
  exact HFIN.out

/-- impl.Parse$1 -/
theorem parse1_bad (w : World) (p0 p1 : Nat) (v : Value) (dt : List UInt8) (h0 : Cs w p0 #[v]) (hv : SlB w v dt) (hl : dt.length ≤ 100000000) (hbad : NoTree dt) :
    Calls Try.prog 50 #[.pointer (some ⟨p0, 0, none⟩), .pointer (some ⟨p1, 0, none⟩)] w fun e w' => e = .returned (.bool false) ∧ Below w.heap.size w w' := by
  have c0 := h0.cell 0
  simp at c0
  obtain ⟨A0, c0', rfl, q1, q2, q3⟩ := id hv
  have HC := Lib.hid (clone_any w _ dt hv (by omega))
  have Hb := Lib.hid hbad
  clear h0 hv hbad q3
  go_enter Try.func50, Try.ntmps50
  go_wp2_with fail
  refine HC.out.mono ?_
  rintro e w1 ⟨v1, rfl, hown, hb1⟩
  obtain ⟨A1, c1, rfl⟩ := own_slice hown
  have HZ := Lib.hid (zread_bad w1 A1 c1 dt w.heap.size hown hl Hb.out)
  have HB := Lib.hid hb1
  clear hown hb1
  go_wp2_with fail
  refine HZ.out.mono ?_
  rintro e w2 ⟨⟨t, z, rfl⟩, hf⟩
  have HFIN := Lib.hid (HB.out.trans (hf.below HB.out.size (fun k hk h => by omega)))
  clear hf
  go_wp2_with fail
  go_ret
  exact ⟨rfl, HFIN.out⟩

def zTree : Value := .agg #[.int .i64 0, .int .i64 0, .int .i64 0, .slice none 0 0, .string ⟨#[]⟩, .slice none 0 0, .slice none 0 0]

set_option maxHeartbeats 1000000 in
theorem parse_bad (w : World) (v : Value) (dt : List UInt8) (hv : SlB w v dt) (hl : dt.length ≤ 100000000) (hbad : NoTree dt) :
    Calls Try.prog 24 #[v] w fun e w' => e = .returned (.tuple #[zTree, .bool false]) ∧ Below w.heap.size w w' := by
  have hmf : ∀ (fn : Fn) (first cap : Array Value) (w : World), (Instr.makeFunc fn first cap).run Try.prog w = .ok (.func fn first cap) w := fun _ _ _ _ => rfl
  obtain ⟨A0, c0', rfl, q1, q2, q3⟩ := id hv
  have Hv := Lib.hid hv
  have Hb := Lib.hid hbad
  clear hv hbad q3
  go_enter Try.func24, Try.ntmps24
  go_wp2_with fail
  generalize hW : (w.alloc (.cells #[.slice A0 dt.length c0'] 24)).alloc (.cells #[.int .i64 0, .int .i64 0, .int .i64 0, .slice none 0 0, .string ⟨#[]⟩, .slice none 0 0, .slice none 0 0] 40) = W
  have hWs : W.heap.size = w.heap.size + 2 := by rw [← hW]; simp
  have hWb : Below w.heap.size w W := by rw [← hW]; exact ((Below.refl _ _).alloc (Nat.le_refl _) _).alloc (by simp) _
  have hW0 : Cs W w.heap.size #[.slice A0 dt.length c0'] := by rw [← hW]; exact (Cs.new _ _ _).alloc _
  have hW1 : Cs W (w.heap.size + 1) #[.int .i64 0, .int .i64 0, .int .i64 0, .slice none 0 0, .string ⟨#[]⟩, .slice none 0 0, .slice none 0 0] := by rw [← hW]; exact Cs.new' _ _ _ _ (by simp)
  have hWt : Below w.heap.size w (W.alloc (.cells #[.bool false] 4)) := hWb.alloc (by omega) _
  clear hW
  refine (try_ok (R := fun b w1 => b = false ∧ Below (W.heap.size + 1) (W.alloc (.cells #[.bool false] 4)) w1) (fun _ => by kernel_rfl) ?_).mono ?_
  · refine (parse1_bad (W.alloc (.cells #[.bool false] 4)) w.heap.size (w.heap.size + 1) _ dt (hW0.alloc _) (Hv.out.below (hWt.mono (Nat.le_refl _))) hl Hb.out).mono ?_
    rintro e w1 ⟨rfl, hf⟩
    have hsz : (W.alloc (.cells #[.bool false] 4)).heap.size = W.heap.size + 1 := by simp
    rw [hsz] at hf
    exact ⟨_, rfl, (hf.cell (p := ⟨W.heap.size, 0, none⟩) (by simp)).trans (by simp [go_sem]), ((Cs.new W 4 #[.bool false]).below hf (by omega)).frozen 0, rfl, hf⟩
  · rintro e w2 ⟨b, w1, rfl, ⟨rfl, hf⟩, rfl⟩
    have q := ((hW1.alloc (.cells #[.bool false] 4)).below hf (by omega)).far (p := ⟨W.heap.size, 0, none⟩) (by simp; omega) (.bool false)
    have hBw : Below w.heap.size w (w1.setCell ⟨W.heap.size, 0, none⟩ (.bool false)) := (hWt.trans (hf.mono (by omega))).setCell (by simp; omega) _
    generalize w1.setCell ⟨W.heap.size, 0, none⟩ (.bool false) = w3 at *
    obtain ⟨c0, c1, c2, c3, c4, c5, c6⟩ := cells7 q
    have f0 := q.frozen 0
    have f1 := q.frozen 1
    have f2 := q.frozen 2
    have f3 := q.frozen 3
    have f4 := q.frozen 4
    have f5 := q.frozen 5
    have f6 := q.frozen 6
    have HB := Lib.hid hBw
    have Hq := Lib.hid q
    clear hf hWt hWb hW0 hW1 q hBw
    go_wp2_with fail
    have q7 := ((((((Hq.out.set_ 0 (.int .i64 0)).set_ 1 (.int .i64 0)).set_ 2 (.int .i64 0)).set_ 3 (.slice none 0 0)).set_ 4 (.string ⟨#[]⟩)).set_ 5 (.slice none 0 0)).set_ 6 (.slice none 0 0)
    simp only [List.setIfInBounds_toArray, List.set_cons_zero, List.set_cons_succ] at q7
    have hB7 := (((((((HB.out.setCell (p := ⟨w.heap.size + 1, 0, none⟩) (by simp) (.int .i64 0)).setCell (p := ⟨w.heap.size + 1, 1, none⟩) (by simp) (.int .i64 0)).setCell (p := ⟨w.heap.size + 1, 2, none⟩) (by simp) (.int .i64 0)).setCell (p := ⟨w.heap.size + 1, 3, none⟩) (by simp) (.slice none 0 0)).setCell (p := ⟨w.heap.size + 1, 4, none⟩) (by simp) (.string ⟨#[]⟩)).setCell (p := ⟨w.heap.size + 1, 5, none⟩) (by simp) (.slice none 0 0)).setCell (p := ⟨w.heap.size + 1, 6, none⟩) (by simp) (.slice none 0 0))
    revert q7 hB7
    generalize (((((((w3.setCell ⟨w.heap.size + 1, 0, none⟩ (.int .i64 0)).setCell ⟨w.heap.size + 1, 1, none⟩ (.int .i64 0)).setCell ⟨w.heap.size + 1, 2, none⟩ (.int .i64 0)).setCell ⟨w.heap.size + 1, 3, none⟩ (.slice none 0 0)).setCell ⟨w.heap.size + 1, 4, none⟩ (.string ⟨#[]⟩)).setCell ⟨w.heap.size + 1, 5, none⟩ (.slice none 0 0)).setCell ⟨w.heap.size + 1, 6, none⟩ (.slice none 0 0)) = W7
    intro q7 hB7
    obtain ⟨k0, k1, k2, k3, k4, k5, k6⟩ := cells7 q7
    refine bodyPost_ret (v := .tuple #[zTree, .bool false]) (by simp [results, Try.results24, go_sem, k0, k1, k2, k3, k4, k5, k6, zTree]) rfl ?_
    exact ⟨rfl, hB7⟩
end Go.Proofs.Ytlbhadggfipckaa

set_option linter.unusedVariables false
set_option linter.unusedSimpArgs false
namespace Go.Proofs.Ytlbhadggfipckaa
open Go.RowKit

theorem beN_cons (n : Nat) (ns : List Nat) : beN (n :: ns) = be4 (n : Int) ++ beN ns := rfl

theorem be16_castR (x : Nat × Nat) : be16 (castR x) = be16n x.1 x.2 := by
  simp [be16, castR, be16n, List.append_assoc]

theorem rooms_nat (rs : List (Int × Int)) (h : ∀ r ∈ rs, 0 ≤ r.1 ∧ r.1 ≤ 18446744073709551615 ∧ 0 ≤ r.2 ∧ r.2 ≤ 18446744073709551615) (h2 : ∀ r ∈ rs, r.2 ≠ 0) :
    ∃ rsN : List (Nat × Nat), rs = rsN.map castR ∧ ∀ x ∈ rsN, x.1 < 18446744073709551616 ∧ x.2 < 18446744073709551616 ∧ x.2 ≠ 0 := by
  refine ⟨rs.map fun r => (r.1.toNat, r.2.toNat), ?_, fun x hx => ?_⟩
  · rw [List.map_map]
    conv => lhs; rw [← List.map_id rs]
    refine List.map_congr_left fun r hr => ?_
    have := h r hr
    obtain ⟨a, z⟩ := r
    simp only [id, Function.comp, castR]
    refine Prod.ext ?_ ?_ <;> simp <;> simp only at this <;> omega
  · obtain ⟨r, hr, rfl⟩ := List.mem_map.1 hx
    have h3 := h r hr
    have h4 := h2 r hr
    exact ⟨by simp only; omega, by simp only; omega, by simp only; omega⟩

theorem flat_castR (rs : List (Nat × Nat)) : (rs.map castR).flatMap be16 ++ zeros 16 = bytesR (rs ++ [(0, 0)]) := by
  unfold bytesR
  rw [List.flatMap_append, List.flatMap_map]
  congr 1

/-- The bytes of a tree, over plain numbers. -/
theorem lay_nat (gap bt : Nat) (rs : List (Nat × Nat)) (body strs : List UInt8) :
    Lay gap 17 16 (bt : Int) (rs.map castR) body strs = beN [3490578157, 40 + gap + 16 * (rs.length + 1) + body.length + strs.length, 40 + gap + 16 * (rs.length + 1), 40 + gap + 16 * (rs.length + 1) + body.length, 40 + gap, 17, 16, bt, strs.length, body.length] ++ (zeros gap ++ (bytesR (rs ++ [(0, 0)]) ++ (body ++ strs))) := by
  unfold Lay
  rw [← flat_castR]
  simp only [List.length_map, List.append_assoc]
  rfl

theorem no_take (n bt : Nat) (rs : List (Nat × Nat)) (body strs : List UInt8) (hrs : ∀ x ∈ rs, x.1 < 18446744073709551616 ∧ x.2 < 18446744073709551616 ∧ x.2 ≠ 0) (hl : rs.length ≤ 5) (hb : bt < 4294967296) (hs1 : body.length ≤ 2000000) (hs2 : strs.length ≤ 1000000) (hn : n < 40 + 16 * (rs.length + 1)) :
    NoTree ((Lay 0 17 16 (bt : Int) (rs.map castR) body strs).take n) := by
  rw [lay_nat]
  by_cases h : n < 40
  · exact .inl (by rw [List.length_take]; omega)
  · have hz : zeros 0 = [] := rfl
    have hbl : (beN [3490578157, 40 + 0 + 16 * (rs.length + 1) + body.length + strs.length, 40 + 0 + 16 * (rs.length + 1), 40 + 0 + 16 * (rs.length + 1) + body.length, 40 + 0, 17, 16, bt, strs.length, body.length]).length = 40 := by rw [beN_len]; rfl
    have hrl := bytesR_len (rs ++ [(0, 0)])
    have hR : ((bytesR (rs ++ [(0, 0)]) ++ (body ++ strs)).take (n - 40)).length = n - 40 := by
      rw [List.length_take, List.length_append, hrl]
      simp
      omega
    rw [hz, List.nil_append, List.take_append, hbl, List.take_of_length_le (by omega)]
    refine .inr ⟨_, _, _, _, _, _, _, _, _, _, _, ?_, rfl, .inr ⟨rfl, by omega, by omega, by omega, ?_, rs, (bytesR (rs ++ [(0, 0)]) ++ (body ++ strs)).drop (n - 40), body ++ strs, ?_, hrs, by omega, ?_⟩⟩
    · simp
      omega
    · rw [List.length_append, hbl]; omega
    · rw [List.drop_append_of_le_length (by omega), List.drop_of_length_le (by omega), List.nil_append, List.take_append_drop]
    · rw [List.length_append, hbl, hR]; omega

theorem no_first (f : UInt8) (hf : f ≠ 208) (bt : Nat) (rs : List (Nat × Nat)) (body strs : List UInt8) (hl : rs.length ≤ 5) (hb : bt < 4294967296) (hs1 : body.length ≤ 2000000) (hs2 : strs.length ≤ 1000000) :
    NoTree ((Lay 0 17 16 (bt : Int) (rs.map castR) body strs).set 0 f) := by
  rw [lay_nat]
  have hfl := f.toNat_lt
  have h1 : be4 (((f.toNat * 16777216 + 917229 : Nat)) : Int) = [f, 13, 254, 237] := by
    have e : ∀ k (b : UInt8), (f.toNat * 16777216 + 917229) / 2 ^ k % 256 = b.toNat → byteOf ((f.toNat * 16777216 + 917229 : Nat) : Int) k = b := fun k b h => UInt8.toNat.inj (by rw [byteOf_nat2, h])
    unfold be4
    rw [e 24 f (by omega), e 16 13 (by show _ = 13; omega), e 8 254 (by show _ = 254; omega), e 0 237 (by show _ = 237; omega)]
  have h2 : be4 ((3490578157 : Nat) : Int) = [208, 13, 254, 237] := by decide +kernel
  refine .inr ⟨f.toNat * 16777216 + 917229, 40 + 0 + 16 * (rs.length + 1) + body.length + strs.length, 40 + 0 + 16 * (rs.length + 1), 40 + 0 + 16 * (rs.length + 1) + body.length, 40 + 0, 17, 16, bt, strs.length, body.length, zeros 0 ++ (bytesR (rs ++ [(0, 0)]) ++ (body ++ strs)), ?_, ?_, .inl ?_⟩
  · simp
    omega
  · rw [beN_cons 3490578157, h2, beN_cons (f.toNat * 16777216 + 917229), h1]
    rfl
  · have : f.toNat ≠ 208 := fun e => hf (UInt8.toNat.inj e)
    omega

set_option maxRecDepth 20000 in
set_option maxHeartbeats 4000000 in
theorem fnBroken_walk (t : Tr) (cs : Array Value) (n : Int) (fb : UInt8) (w : World) (ok : Nat → Prop) (hok : ∀ k, ok k → k < w.heap.size) (ht : TreeC w ok t cs) (hnb : -9223372036854775808 ≤ n ∧ n ≤ 9223372036854775807) :
    Calls Try.prog 7 #[.agg cs, .int .i64 n, bv fb] w (TruePost w) := by
  obtain ⟨A, c, s1, A3, n3, c3, A4, n4, c4, rfl⟩ := ht.form
  have hb0 : Below w.heap.size w (w.alloc (.cells #[.int .i64 t.ver, .int .i64 t.lc, .int .i64 t.boot, .slice A t.rooms.length c, .string s1, .slice A3 n3 c3, .slice A4 n4 c4] 40)) := (Below.refl _ _).alloc (Nat.le_refl _) _
  have H15 := Lib.hid (fits1_walk _ ok t _ (ht.mono (Same.of_below hb0 hok) (fun _ h => h)))
  have HT := Lib.hid ht
  have HB0 := Lib.hid hb0
  have q0 := Cs.new w 40 #[.int .i64 t.ver, .int .i64 t.lc, .int .i64 t.boot, .slice A t.rooms.length c, .string s1, .slice A3 n3 c3, .slice A4 n4 c4]
  have Hq0 := Lib.hid q0
  have hfbl := fb.toNat_lt
  have Hnb := Lib.hid hnb
  clear ht hb0 q0 hnb
  unfold bv
  go_enter Try.func7, Try.ntmps7
  go_wp2_with fail
  refine H15.out.mono ?_
  rintro e w1 ⟨rfl, hb⟩
  have HB1 := Lib.hid (HB0.out.trans (hb.mono (by simp)))
  have q1 := Hq0.out.below hb (by simp)
  obtain ⟨c0, c1, c2, c3', c4', c5, c6⟩ := cells7 q1
  have Hq1 := Lib.hid q1
  have l1 := q1.lt
  clear hb q1
  by_cases hr : (t.rooms.length : Int) ≤ 2147483647
  case neg =>
    have hd : decide ((t.rooms.length : Int) ≤ 2147483647) = false := decide_eq_false hr
    rw [hd]
    go_wp2_with fail
    go_ret
    exact ⟨rfl, HB1.out⟩
  have hd : decide ((t.rooms.length : Int) ≤ 2147483647) = true := decide_eq_true hr
  rw [hd]
  go_wp2_with fail
  have hok1 : ∀ k, ok k → k < w1.heap.size := fun k hk => Nat.lt_of_lt_of_le (hok k hk) HB1.out.size
  refine (tree_walk w1 ok t _ hok1 (HT.out.mono (Same.of_below HB1.out hok) (fun _ h => h))).mono ?_
  rintro e w2 ⟨x, cx, rfl, hx, hb2, e1, e2, e3, e4, r', hcut⟩
  obtain ⟨B, d, s2, B3, m3, d3, B4, m4, d4, rfl⟩ := hx.form
  have HB2 := Lib.hid (HB1.out.trans (hb2.mono HB1.out.size))
  have Hq2 := Lib.hid (Hq1.out.below hb2 l1)
  have Hsz2 : w.heap.size + 1 ≤ w2.heap.size := by have := hb2.size; omega
  have Hx := Lib.hid hx
  have He := Lib.hid (And.intro e1 (And.intro e2 (And.intro e3 (And.intro e4 hcut))))
  have HX3 := Lib.hid (hx.mono (w' := w2.alloc (.cells #[.int .i64 x.ver, .int .i64 x.lc, .int .i64 x.boot, .slice B x.rooms.length d, .string s2, .slice B3 m3 d3, .slice B4 m4 d4] 48)) (Same.of_below ((Below.refl _ _).alloc (Nat.le_refl _) _) (fun k hk => hk.elim (fun h => by have := hok k h; omega) (fun h => h.2))) (fun _ h => h))
  have hokx : ∀ k, Blo ok w1 w2 k → k < w2.heap.size := fun k hk => hk.elim (fun h => by have := hok k h; omega) (fun h => h.2)
  have q5 := Cs.new w2 48 #[.int .i64 x.ver, .int .i64 x.lc, .int .i64 x.boot, .slice B x.rooms.length d, .string s2, .slice B3 m3 d3, .slice B4 m4 d4]
  have Hq5 := Lib.hid q5
  clear hb2 e1 e2 e3 e4 hcut hx c0 c1 c2 c3' c4' c5 c6 hd q5
  go_wp2_with fail
  refine (fits_walk _ (Blo ok w1 w2) x _ (fun k hk => by have := hokx k hk; simp; omega) HX3.out).mono ?_
  rintro e w3 ⟨hb3, hor⟩
  have s3z := hb3.size
  simp at s3z
  have Hb23 := Lib.hid (((Below.refl w2.heap.size w2).alloc (Nat.le_refl _) _).trans (hb3.mono (by simp)))
  have HB3 := Lib.hid (HB2.out.trans (Hb23.out.mono HB2.out.size))
  have Hq3 := Lib.hid (Hq2.out.below Hb23.out Hsz2)
  have Hq6 := Lib.hid (Hq5.out.below hb3 (by simp))
  clear hb3
  rcases hor with rfl | ⟨rfl, hfit⟩
  · go_wp2_with fail
    refine (works_true w3).mono ?_
    rintro e w4 ⟨rfl, hb4⟩
    go_wp2_with fail
    go_ret
    exact ⟨rfl, HB3.out.trans (hb4.mono HB3.out.size)⟩
  have hxt : x = t := fits_same hfit He.out.1 He.out.2.1 He.out.2.2.1 He.out.2.2.2.1 He.out.2.2.2.2
  subst hxt
  obtain ⟨z0, z1, z2, z3, z4, z5, z6⟩ := cells7 Hq6.out
  have hrb : ∀ r ∈ x.rooms, 0 ≤ r.1 ∧ r.1 ≤ 18446744073709551615 ∧ 0 ≤ r.2 ∧ r.2 ≤ 18446744073709551615 := by
    obtain ⟨vr, k, -, ⟨-, -, -, -, -, -, h, -⟩, -⟩ := HT.out
    exact h
  have hok3 : ∀ k, Blo ok w1 w2 k → k < w3.heap.size := fun k hk => by have := hokx k hk; omega
  have H23 := Lib.hid (bytes_walk x _ w3 (Blo ok w1 w2) 0 hok3 (HX3.out.mono (w' := w3) (fun k hk => by
    have := hokx k hk
    rw [Below.heap_alloc _ _ _ this]
    exact Hb23.out.block k this) (fun _ h => h)) hfit (by omega))
  have Hfit := Lib.hid (And.intro hfit hrb)
  have l3 := Hq6.out.lt
  clear hfit hrb He H15 HX3
  go_wp2_with fail
  refine H23.out.mono ?_
  rintro e w4 ⟨A5, c5, out, rfl, hown, hb4, st, strs, henc, hsl, hstl, hout⟩
  obtain ⟨rsN, hrs, hrsb⟩ := rooms_nat x.rooms Hfit.out.2 Hfit.out.1.1
  have hrl5 : rsN.length ≤ 5 := by
    have h1 := Hfit.out.1.2.2.2.2.2.2.1
    have h2 := congrArg List.length hrs
    rw [List.length_map] at h2
    omega
  have hxl : x.rooms.length = rsN.length := by rw [hrs, List.length_map]
  have htl : (tok 0 9).length = 4 := tok_len 0 9
  obtain ⟨hv17, hlc16, hbt0, hbt1⟩ : x.ver = 17 ∧ x.lc = 16 ∧ 0 ≤ x.boot ∧ x.boot < 2147483648 := ⟨Hfit.out.1.2.2.1, Hfit.out.1.2.2.2.1, Hfit.out.1.2.2.2.2.1, Hfit.out.1.2.2.2.2.2.1⟩
  obtain ⟨bt, hbt⟩ : ∃ bt : Nat, x.boot = (bt : Int) := ⟨x.boot.toNat, by omega⟩
  have hout2 : out = Lay 0 17 16 (bt : Int) (rsN.map castR) (st ++ tok 0 9) strs := by rw [hout, hv17, hlc16, hbt, hrs]
  have hbodl : (st ++ tok 0 9).length ≤ 2000000 := by rw [List.length_append, htl]; omega
  have hol : 40 + 16 * (rsN.length + 1) ≤ out.length ∧ out.length ≤ 10000000 := by
    rw [hout2, lay_nat]
    simp only [List.length_append, beN_len, bytesR_len, zeros_len, htl, List.length_cons, List.length_nil]
    omega
  have hT := Lib.hid (fun m (hm : m < 40 + 16 * (rsN.length + 1)) => show NoTree (out.take m) by rw [hout2]; exact no_take m bt rsN _ strs hrsb hrl5 (by omega) hbodl (by omega) hm)
  have hN := Lib.hid (fun (hf : fb ≠ 208) => show NoTree (out.set 0 fb) by rw [hout2]; exact no_first fb hf bt rsN _ strs hrl5 (by omega) hbodl (by omega))
  have Hhol := Lib.hid (And.intro hol hxl)
  obtain ⟨o1, o2, -⟩ := own_form hown
  obtain ⟨g5, rfl⟩ : ∃ g, A5 = some ⟨g, 0, none⟩ := (own_form hown).2.2.resolve_left (by omega)
  have hg5 := hown.lt g5 rfl
  have Hown := Lib.hid hown
  have HB4 := Lib.hid hb4
  have hq7 := Hq6.out.below hb4 l3
  have z3 : w4.cell? ⟨w2.heap.size, 3, none⟩ = some (.slice B x.rooms.length d) := (hq7.cell 3).trans rfl
  have hsz4 := hb4.size
  have hw16 : IntKind.i64.wrap (16 * ((x.rooms.length : Int) + 1)) = 16 * ((x.rooms.length : Int) + 1) := by simp only [IntKind.wrap, IntKind.bits, IntKind.signed]; simp; omega
  have hw1 : IntKind.i64.wrap ((x.rooms.length : Int) + 1) = (x.rooms.length : Int) + 1 := by simp only [IntKind.wrap, IntKind.bits, IntKind.signed]; simp; omega
  have hw40 : IntKind.i64.wrap (40 + 16 * ((x.rooms.length : Int) + 1)) = 40 + 16 * ((x.rooms.length : Int) + 1) := by simp only [IntKind.wrap, IntKind.bits, IntKind.signed]; simp; omega
  simp only [maxLen] at o2
  clear hown hb4 henc hout hout2 hrsb hrs hv17 hlc16 hbt0 hbt1 hbt hbodl hol hxl H23 z0 z1 z2 z4 z5 z6 hq7
  go_upto_region 7 with (fail)
  go_cut [35] from 13 (fun s w' => w' = w4 ∧ s = .bool (decide (0 ≤ n ∧ n < 40 + 16 * ((x.rooms.length : Int) + 1))))
  case first =>
    by_cases h0 : 0 ≤ n
    · have d0 : decide (0 ≤ n) = true := decide_eq_true h0
      by_cases h1 : n < 40 + 16 * ((x.rooms.length : Int) + 1)
      · have d1 : decide (n < 40 + 16 * ((x.rooms.length : Int) + 1)) = true := decide_eq_true h1
        have HD := Lib.hid (show decide (0 ≤ n ∧ n < 40 + 16 * ((x.rooms.length : Int) + 1)) = true from decide_eq_true ⟨h0, h1⟩)
        clear h0 h1
        go_wp2_with fail
        go_meet
        case rel => exact ⟨rfl, by rw [HD.out]⟩
      · have d1 : decide (n < 40 + 16 * ((x.rooms.length : Int) + 1)) = false := decide_eq_false h1
        have HD := Lib.hid (show decide (0 ≤ n ∧ n < 40 + 16 * ((x.rooms.length : Int) + 1)) = false from decide_eq_false (fun h => h1 h.2))
        clear h0 h1
        go_wp2_with fail
        go_meet
        case rel => exact ⟨rfl, by rw [HD.out]⟩
    · have d0 : decide (0 ≤ n) = false := decide_eq_false h0
      have HD := Lib.hid (show decide (0 ≤ n ∧ n < 40 + 16 * ((x.rooms.length : Int) + 1)) = false from decide_eq_false (fun h => h0 h.1))
      clear h0
      go_wp2_with fail
      go_meet
      case rel => exact ⟨rfl, by rw [HD.out]⟩
  case rest =>
    obtain ⟨rfl, rfl⟩ := hcut
    go_upto_if 35 with (fail)
    go_cut [] from 13 (fun w' => Below wc.heap.size wc w')
    case first =>
      by_cases hin : 0 ≤ n ∧ n < 40 + 16 * ((x.rooms.length : Int) + 1)
      · rw [decide_eq_true hin]
        obtain ⟨m, rfl⟩ : ∃ m : Nat, n = (m : Int) := ⟨n.toNat, by omega⟩
        have hm : m < 40 + 16 * (rsN.length + 1) := by have := Hhol.out.2; omega
        have hmo : (m : Int) ≤ (c5 : Int) := by have := Hhol.out.1; omega
        have hm0 : (0 : Int) ≤ (m : Int) := by omega
        have hml : m ≤ out.length := by have := Hhol.out.1; omega
        have htl : (out.take m).length = m := by rw [List.length_take]; omega
        have hsl : SlB wc (.slice (some ⟨g5, 0, none⟩) m c5) (out.take m) := by
          refine ⟨_, c5, by rw [htl], by omega, by simp only [maxLen]; omega, ?_⟩
          have := own_rd Hown.out
          rcases this with h | ⟨b, o, h1, h2⟩
          · have h3 := List.map_eq_nil_iff.1 h
            have h4 := Hhol.out.1.1
            rw [h3] at h4
            simp at h4
          · refine .inr ⟨b, o, h1, fun j u hu => h2 j u ?_⟩
            rw [List.map_take] at hu
            have hj := (List.getElem?_eq_some_iff.1 hu).1
            simp at hj
            rw [List.getElem?_take_of_lt (by omega)] at hu
            exact hu
        have HP := Lib.hid (parse_bad wc _ (out.take m) hsl (by omega) (hT.out m hm))
        clear hin hsl htl
        unfold zTree at HP
        go_wp2_with fail
        refine HP.out.mono ?_
        rintro e w5 ⟨rfl, hb5⟩
        have HB5 := Lib.hid hb5
        clear hb5
        go_wp2_with fail
        go_meet
        case rel => exact HB5.out.alloc HB5.out.size _
      · rw [decide_eq_false hin]
        clear hin
        go_wp2_with fail
        go_meet
        case rel => exact Below.refl _ _
    case rest =>
      obtain ⟨wd, rfl⟩ : ∃ wd : World, wd = wc := ⟨_, rfl⟩
      have hB5 : Below w.heap.size w wd := (HB3.out.trans (HB4.out.mono HB3.out.size)).trans (hcut.mono (by have := HB3.out.size; omega))
      have hownD := own_keep Hown.out (fun g hg => hcut.block g (Hown.out.lt g hg).2)
      have hcs := hcut.size
      have HBD := Lib.hid hB5
      clear hcut hB5
      by_cases hf : fb = 208
      · have d0 : ((fb.toNat : Int) != 208) = false := by rw [hf]; rfl
        clear hf hownD
        go_wp2_with fail
        refine (works_true wd).mono ?_
        rintro e w6 ⟨rfl, hb6⟩
        have HF := Lib.hid (HBD.out.trans (hb6.mono HBD.out.size))
        clear hb6
        go_wp2_with fail
        go_ret
        exact ⟨rfl, HF.out⟩
      · have hfn : fb.toNat ≠ 208 := fun e => hf (UInt8.toNat.inj e)
        have d0 : ((fb.toNat : Int) != 208) = true := by simp; omega
        have hlo := Hhol.out.1.1
        have hlo2 := Hhol.out.1.2
        have k0 : ∃ u, wd.cell? ⟨g5, 0, none⟩ = some u := by
          rw [hownD.cellAt 0 (by omega)]
          exact ⟨_, List.getElem?_eq_getElem (by simp; omega)⟩
        obtain ⟨u0, k0⟩ := k0
        have fz := hownD.frozenAt 0
        have st1 := (hownD.stored 0 (bv fb)).1
        have hset : (out.map bv).set 0 (bv fb) = (out.set 0 fb).map bv := by rw [List.map_set]
        rw [hset] at st1
        have hpos : (0 : Int) < (out.length : Int) := by omega
        have hsb : SlB (wd.setCell ⟨g5, 0, none⟩ (bv fb)) (.slice (some ⟨g5, 0, none⟩) out.length c5) (out.set 0 fb) := ⟨_, c5, by rw [List.length_set], by rw [List.length_set]; omega, by simp only [maxLen]; omega, own_rd st1⟩
        have HP := Lib.hid (parse_bad _ _ (out.set 0 fb) hsb (by rw [List.length_set]; omega) (hN.out hf))
        have HBS := Lib.hid (HBD.out.setCell (p := ⟨g5, 0, none⟩) (by have := HB3.out.size; show w.heap.size ≤ g5; omega) (bv fb))
        unfold zTree at HP
        unfold bv at HP HBS
        clear hf hfn hownD st1 hset hsb hlo
        go_wp2_with fail
        refine HP.out.mono ?_
        rintro e w5 ⟨rfl, hb5⟩
        have HB5 := Lib.hid (HBS.out.trans (hb5.mono HBS.out.size))
        clear hb5
        go_wp2_with fail
        refine (works_true _).mono ?_
        rintro e w6 ⟨rfl, hb6⟩
        have HF := Lib.hid ((HB5.out.alloc HB5.out.size _).trans (hb6.mono (by have := HB5.out.size; simp; omega)))
        clear hb6
        go_wp2_with fail
        go_ret
        exact ⟨rfl, HF.out⟩
end Go.Proofs.Ytlbhadggfipckaa
