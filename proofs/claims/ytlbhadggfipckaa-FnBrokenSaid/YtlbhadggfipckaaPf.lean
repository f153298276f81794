/-
  ReadFDT, ZZRead, impl.Parse on bytes that are no tree.
-/
import Derived.Test.YtlbhadggfipckaaPe
import Derived.Test.YtlbhadggfipckaaTb
import Derived.Test.YtlbhadggfipckaaTa
import Derived.Test.YtlbhadggfipckaaGg
set_option linter.unusedVariables false
set_option linter.unusedSimpArgs false
namespace Go.Proofs.Ytlbhadggfipckaa
open Go.RowKit

/-- Bytes that are no tree: too short a header, another first number, or rooms that end too early. -/
def NoTree (dt : List UInt8) : Prop :=
  dt.length < 40 ∨ ∃ n0 n1 n2 n3 ro n5 n6 n7 n8 n9 more, (∀ m ∈ [n0, n1, n2, n3, ro, n5, n6, n7, n8, n9], m < 4294967296) ∧ dt = beN [n0, n1, n2, n3, ro, n5, n6, n7, n8, n9] ++ more ∧
    (n0 ≠ 3490578157 ∨ (n5 = 17 ∧ n1 ≤ 1073741824 ∧ 40 ≤ ro ∧ ro % 8 = 0 ∧ ro ≤ dt.length ∧ ∃ (rs : List (Nat × Nat)) (tail m2 : List UInt8), dt.drop ro ++ tail = bytesR (rs ++ [(0, 0)]) ++ m2 ∧ (∀ x ∈ rs, x.1 < 18446744073709551616 ∧ x.2 < 18446744073709551616 ∧ x.2 ≠ 0) ∧ rs.length ≤ 100 ∧ dt.length < ro + 16 * (rs.length + 1)))

def BadPost (w : World) (X : Nat → Prop) (e : Ending) (w' : World) : Prop := (∃ t z, e = .returned (.tuple #[.pointer none, .iface t z])) ∧ Fr w.heap.size X w w'

set_option maxRecDepth 20000 in
set_option maxHeartbeats 1000000 in
theorem readFDT_bad (w : World) (r : Nat) (dk : Nat → Prop) (A : Option Addr) (c : Nat) (dt : List UInt8) (i : Nat) (h : BR w r dk A c dt i) (hbad : NoTree dt) :
    Calls Try.prog 66 #[.iface 142 (.pointer (some ⟨r, 0, none⟩))] w (BadPost w (fun k => k = r ∨ dk k)) := by
  have hrl := h.cs.lt
  have hdl := h.dl
  obtain ⟨W, hW⟩ : ∃ W, W = w.alloc (.cells #[.int .u32 0, .int .u32 0, .int .u32 0, .int .u32 0, .int .u32 0, .int .u32 0, .int .u32 0, .int .u32 0, .int .u32 0, .int .u32 0, .slice none 0 0, .pointer none] 93) := ⟨_, rfl⟩
  have hWb : Below w.heap.size w W := by rw [hW]; exact (Below.refl _ _).alloc (Nat.le_refl _) _
  have hWc : Cs W w.heap.size (fdtC 0 0 0 0 0 0 0 0 0 0 (.slice none 0 0) (.pointer none)) := by rw [hW]; exact Cs.new _ _ _
  have hWr : BR W r dk A c dt i := h.keep (hWb.block _ hrl) (fun k hk => hWb.block k (hdl k hk))
  have hWs : W.heap.size = w.heap.size + 1 := by rw [hW]; simp
  obtain ⟨f, hf⟩ : ∃ f, f = w.heap.size := ⟨_, rfl⟩
  have hfr : f ≠ r := by omega
  have hfd : ¬ dk f := fun e => by have := hdl f e; omega
  rw [← hf] at hWc
  have HB := Lib.hid (And.intro hWb (And.intro hWs hf))
  have HW := Lib.hid hW
  have Hf := Lib.hid hf
  have main : ∀ (n0 n1 n2 n3 ro n5 n6 n7 n8 n9 : Nat) (more : List UInt8), Calls Try.prog 79 #[.pointer (some ⟨f, 0, none⟩), .iface 142 (.pointer (some ⟨r, 0, none⟩))] W (RHdPost W f r dk A c dt n0 n1 n2 n3 ro n5 n6 n7 n8 n9 (.slice none 0 0) (.pointer none) more) →
      (dt.length < 40 ∨ n0 ≠ 3490578157 ∨ (40 ≤ ro ∧ ro % 8 = 0 ∧ ro ≤ dt.length ∧ ∃ (rs : List (Nat × Nat)) (tail m2 : List UInt8), dt.drop ro ++ tail = bytesR (rs ++ [(0, 0)]) ++ m2 ∧ (∀ x ∈ rs, x.1 < 18446744073709551616 ∧ x.2 < 18446744073709551616 ∧ x.2 ≠ 0) ∧ rs.length ≤ 100 ∧ dt.length < ro + 16 * (rs.length + 1))) →
      Calls Try.prog 66 #[.iface 142 (.pointer (some ⟨r, 0, none⟩))] w (BadPost w (fun k => k = r ∨ dk k)) := by
    intro n0 n1 n2 n3 ro n5 n6 n7 n8 n9 more hH hcase
    have HH := Lib.hid hH
    have HC := Lib.hid hcase
    clear hH hcase hbad hWr hWc hWb hWs hW hf h
    go_enter Try.func66, Try.ntmps66
    go_wp2_with fail
    rw [← HW.out, ← Hf.out]
    refine HH.out.mono ?_
    rintro e w1 ⟨hf1, hor⟩
    have hF1 : Fr w.heap.size (fun k => k = r ∨ dk k) w w1 := (Fr.of_below HB.out.1).trans (hf1.mono (by have := HB.out.2.1; omega) (fun k hk h => h.resolve_left (fun e => by have := Hf.out; omega)))
    rcases hor with ⟨hno, t, z, rfl⟩ | ⟨h0, hdt, rfl, hc1, i1, hb1⟩
    · have HFIN := Lib.hid (show BadPost w (fun k => k = r ∨ dk k) (.returned (.tuple #[.pointer none, .iface t z])) w1 from ⟨⟨t, z, rfl⟩, hF1⟩)
      clear hF1 hf1 hno
      go_wp2_with fail
      go_ret2
      exact HFIN.out
    obtain ⟨g1, g2, g3, rs, tail, m2, g4, g5, g6, g7⟩ : 40 ≤ ro ∧ ro % 8 = 0 ∧ ro ≤ dt.length ∧ ∃ (rs : List (Nat × Nat)) (tail m2 : List UInt8), dt.drop ro ++ tail = bytesR (rs ++ [(0, 0)]) ++ m2 ∧ (∀ x ∈ rs, x.1 < 18446744073709551616 ∧ x.2 < 18446744073709551616 ∧ x.2 ≠ 0) ∧ rs.length ≤ 100 ∧ dt.length < ro + 16 * (rs.length + 1) := by
      rcases HC.out with h | h | h
      · exfalso
        have := congrArg List.length hdt
        rw [List.length_append, beN_len] at this
        simp at this
        omega
      · exact absurd h0 h
      · exact h
    have HR := Lib.hid (reserve_walk w1 f r dk A c dt i1 hb1 n0 n1 n2 n3 ro n5 n6 n7 n8 n9 _ _ hc1 hfr hfd ⟨g1, g2, g3⟩ rs m2 tail g4 g5 g6)
    have HF1 := Lib.hid hF1
    have H7 := Lib.hid g7
    clear hf1 hF1 h0 hdt hc1 hb1 g1 g2 g3 g4 g5 g6 g7 HC
    go_wp2_with fail
    refine HR.out.mono ?_
    rintro e w2 ⟨hf2, hor⟩
    rcases hor with ⟨hno, t, z, rfl⟩ | ⟨hno, -⟩
    case inr => exact absurd H7.out (by omega)
    have HFIN := Lib.hid (show BadPost w (fun k => k = r ∨ dk k) (.returned (.tuple #[.pointer none, .iface t z])) w2 from ⟨⟨t, z, rfl⟩, HF1.out.trans (hf2.mono HF1.out.size (fun k hk h => h.resolve_left (fun e => by have := Hf.out; omega)))⟩)
    clear hf2 hno
    go_wp2_with fail
    go_ret2
    exact HFIN.out
  rcases hbad with hs | ⟨n0, n1, n2, n3, ro, n5, n6, n7, n8, n9, more, hnb, hdt, hc⟩
  · exact main 0 0 0 0 0 0 0 0 0 0 [] (rhdr_walk W f r dk A c dt i hWr _ _ hWc hfr hfd 0 0 0 0 0 0 0 0 0 0 [] (by simp) (.inl hs) (by simp)) (.inl hs)
  · rcases hc with hc | ⟨h5, h1, hc⟩
    · exact main n0 n1 n2 n3 ro n5 n6 n7 n8 n9 more (rhdr_walk W f r dk A c dt i hWr _ _ hWc hfr hfd n0 n1 n2 n3 ro n5 n6 n7 n8 n9 more hnb (.inr hdt) (fun h => absurd h hc)) (.inr (.inl hc))
    · exact main n0 n1 n2 n3 ro n5 n6 n7 n8 n9 more (rhdr_walk W f r dk A c dt i hWr _ _ hWc hfr hfd n0 n1 n2 n3 ro n5 n6 n7 n8 n9 more hnb (.inr hdt) (fun _ => ⟨h5, h1⟩)) (.inr (.inr hc))

/-- The reader of bytes that the call has made. -/
theorem zread_bad (w : World) (A : Option Addr) (c : Nat) (dt : List UInt8) (base : Nat) (hown : w.ownsRow base 5 1 (.slice A dt.length c) dt.length (dt.map bv)) (hl : dt.length ≤ 100000000) (hbad : NoTree dt) :
    Calls Try.prog 51 #[.slice A dt.length c] w (BadPost w (fun k => base ≤ k)) := by
  obtain ⟨o1, o2, o3⟩ := own_form hown
  obtain ⟨W, hW⟩ : ∃ W, W = w.alloc (.cells #[.slice A dt.length c, .int .i64 0] 144) := ⟨_, rfl⟩
  have hWb : Below w.heap.size w W := by rw [hW]; exact (Below.refl _ _).alloc (Nat.le_refl _) _
  have hWc : Cs W w.heap.size #[.slice A dt.length c, .int .i64 0] := by rw [hW]; exact Cs.new _ _ _
  have hWs : W.heap.size = w.heap.size + 1 := by rw [hW]; simp
  have hBR : BR W w.heap.size (fun k => (Value.slice A dt.length c).ownBlock = some k) A c dt 0 := by
    refine ⟨hWc, ?_, o1, o2, fun e => by have := (hown.lt _ e).2; omega, fun k hk => by have := (hown.lt _ hk).2; omega, hl⟩
    rcases own_rd hown with h | ⟨b, o, rfl, h⟩
    · exact .inl h
    · refine .inr ⟨b, o, rfl, rfl, fun j u hu => ?_⟩
      rw [World.cell?_of_block (a := ⟨b, o + j, none⟩) (hWb.block b (hown.lt b rfl).2)]
      exact h j u hu
  have H := Lib.hid (readFDT_bad W w.heap.size _ A c dt 0 hBR hbad)
  have HW := Lib.hid hW
  have HB := Lib.hid (And.intro hWb (And.intro hWs hown))
  clear hW hWb hWc hWs hBR hown hbad
  go_enter Try.func51, Try.ntmps51
  go_wp2_with fail
  rw [← HW.out]
  refine H.out.mono ?_
  rintro e w1 ⟨⟨t, z, rfl⟩, hf⟩
  have HFIN := Lib.hid (show BadPost w (fun k => base ≤ k) (.returned (.tuple #[.pointer none, .iface t z])) w1 from ⟨⟨t, z, rfl⟩, (Fr.of_below HB.out.1).trans (hf.mono (by have := HB.out.2.1; omega) (fun k hk h => h.elim (fun e => by omega) (fun e => (HB.out.2.2.lt k e).1)))⟩)
  clear hf
  go_wp2_with fail
  go_ret2
  exact HFIN.out

/-- impl.Parse$1 -/
theorem parse1_bad (w : World) (p0 p1 : Nat) (v : Value) (dt : List UInt8) (h0 : Cs w p0 #[v]) (hv : SlB w v dt) (hl : dt.length ≤ 100000000) (hbad : NoTree dt) :
    Calls Try.prog 50 #[.pointer (some ⟨p0, 0, none⟩), .pointer (some ⟨p1, 0, none⟩)] w fun e w' => e = .returned (.bool false) ∧ Below w.heap.size w w' := by
  have c0 := h0.cell 0
  simp at c0
  obtain ⟨A0, c0', rfl, q1, q2, q3⟩ := id hv
  have HC := Lib.hid (clone_any w _ dt hv (by omega))
  have Hb := Lib.hid hbad
  clear h0 hv hbad q3
  go_enter Try.func50, Try.ntmps50
  go_wp2_with fail
  refine HC.out.mono ?_
  rintro e w1 ⟨v1, rfl, hown, hb1⟩
  obtain ⟨A1, c1, rfl⟩ := own_slice hown
  have HZ := Lib.hid (zread_bad w1 A1 c1 dt w.heap.size hown hl Hb.out)
  have HB := Lib.hid hb1
  clear hown hb1
  go_wp2_with fail
  refine HZ.out.mono ?_
  rintro e w2 ⟨⟨t, z, rfl⟩, hf⟩
  have HFIN := Lib.hid (HB.out.trans (hf.below HB.out.size (fun k hk h => by omega)))
  clear hf
  go_wp2_with fail
  go_ret
  exact ⟨rfl, HFIN.out⟩

def zTree : Value := .agg #[.int .i64 0, .int .i64 0, .int .i64 0, .slice none 0 0, .string ⟨#[]⟩, .slice none 0 0, .slice none 0 0]

set_option maxHeartbeats 1000000 in
theorem parse_bad (w : World) (v : Value) (dt : List UInt8) (hv : SlB w v dt) (hl : dt.length ≤ 100000000) (hbad : NoTree dt) :
    Calls Try.prog 24 #[v] w fun e w' => e = .returned (.tuple #[zTree, .bool false]) ∧ Below w.heap.size w w' := by
  have hmf : ∀ (fn : Fn) (first cap : Array Value) (w : World), (Instr.makeFunc fn first cap).run Try.prog w = .ok (.func fn first cap) w := fun _ _ _ _ => rfl
  obtain ⟨A0, c0', rfl, q1, q2, q3⟩ := id hv
  have Hv := Lib.hid hv
  have Hb := Lib.hid hbad
  clear hv hbad q3
  go_enter Try.func24, Try.ntmps24
  go_wp2_with fail
  generalize hW : (w.alloc (.cells #[.slice A0 dt.length c0'] 24)).alloc (.cells #[.int .i64 0, .int .i64 0, .int .i64 0, .slice none 0 0, .string ⟨#[]⟩, .slice none 0 0, .slice none 0 0] 40) = W
  have hWs : W.heap.size = w.heap.size + 2 := by rw [← hW]; simp
  have hWb : Below w.heap.size w W := by rw [← hW]; exact ((Below.refl _ _).alloc (Nat.le_refl _) _).alloc (by simp) _
  have hW0 : Cs W w.heap.size #[.slice A0 dt.length c0'] := by rw [← hW]; exact (Cs.new _ _ _).alloc _
  have hW1 : Cs W (w.heap.size + 1) #[.int .i64 0, .int .i64 0, .int .i64 0, .slice none 0 0, .string ⟨#[]⟩, .slice none 0 0, .slice none 0 0] := by rw [← hW]; exact Cs.new' _ _ _ _ (by simp)
  have hWt : Below w.heap.size w (W.alloc (.cells #[.bool false] 4)) := hWb.alloc (by omega) _
  clear hW
  refine (try_ok (R := fun b w1 => b = false ∧ Below (W.heap.size + 1) (W.alloc (.cells #[.bool false] 4)) w1) (fun _ => by kernel_rfl) ?_).mono ?_
  · refine (parse1_bad (W.alloc (.cells #[.bool false] 4)) w.heap.size (w.heap.size + 1) _ dt (hW0.alloc _) (Hv.out.below (hWt.mono (Nat.le_refl _))) hl Hb.out).mono ?_
    rintro e w1 ⟨rfl, hf⟩
    have hsz : (W.alloc (.cells #[.bool false] 4)).heap.size = W.heap.size + 1 := by simp
    rw [hsz] at hf
    exact ⟨_, rfl, (hf.cell (p := ⟨W.heap.size, 0, none⟩) (by simp)).trans (by simp [go_sem]), ((Cs.new W 4 #[.bool false]).below hf (by omega)).frozen 0, rfl, hf⟩
  · rintro e w2 ⟨b, w1, rfl, ⟨rfl, hf⟩, rfl⟩
    have q := ((hW1.alloc (.cells #[.bool false] 4)).below hf (by omega)).far (p := ⟨W.heap.size, 0, none⟩) (by simp; omega) (.bool false)
    have hBw : Below w.heap.size w (w1.setCell ⟨W.heap.size, 0, none⟩ (.bool false)) := (hWt.trans (hf.mono (by omega))).setCell (by simp; omega) _
    generalize w1.setCell ⟨W.heap.size, 0, none⟩ (.bool false) = w3 at *
    obtain ⟨c0, c1, c2, c3, c4, c5, c6⟩ := cells7 q
    have f0 := q.frozen 0
    have f1 := q.frozen 1
    have f2 := q.frozen 2
    have f3 := q.frozen 3
    have f4 := q.frozen 4
    have f5 := q.frozen 5
    have f6 := q.frozen 6
    have HB := Lib.hid hBw
    have Hq := Lib.hid q
    clear hf hWt hWb hW0 hW1 q hBw
    go_wp2_with fail
    have q7 := ((((((Hq.out.set_ 0 (.int .i64 0)).set_ 1 (.int .i64 0)).set_ 2 (.int .i64 0)).set_ 3 (.slice none 0 0)).set_ 4 (.string ⟨#[]⟩)).set_ 5 (.slice none 0 0)).set_ 6 (.slice none 0 0)
    simp only [List.setIfInBounds_toArray, List.set_cons_zero, List.set_cons_succ] at q7
    have hB7 := (((((((HB.out.setCell (p := ⟨w.heap.size + 1, 0, none⟩) (by simp) (.int .i64 0)).setCell (p := ⟨w.heap.size + 1, 1, none⟩) (by simp) (.int .i64 0)).setCell (p := ⟨w.heap.size + 1, 2, none⟩) (by simp) (.int .i64 0)).setCell (p := ⟨w.heap.size + 1, 3, none⟩) (by simp) (.slice none 0 0)).setCell (p := ⟨w.heap.size + 1, 4, none⟩) (by simp) (.string ⟨#[]⟩)).setCell (p := ⟨w.heap.size + 1, 5, none⟩) (by simp) (.slice none 0 0)).setCell (p := ⟨w.heap.size + 1, 6, none⟩) (by simp) (.slice none 0 0))
    revert q7 hB7
    generalize (((((((w3.setCell ⟨w.heap.size + 1, 0, none⟩ (.int .i64 0)).setCell ⟨w.heap.size + 1, 1, none⟩ (.int .i64 0)).setCell ⟨w.heap.size + 1, 2, none⟩ (.int .i64 0)).setCell ⟨w.heap.size + 1, 3, none⟩ (.slice none 0 0)).setCell ⟨w.heap.size + 1, 4, none⟩ (.string ⟨#[]⟩)).setCell ⟨w.heap.size + 1, 5, none⟩ (.slice none 0 0)).setCell ⟨w.heap.size + 1, 6, none⟩ (.slice none 0 0)) = W7
    intro q7 hB7
    obtain ⟨k0, k1, k2, k3, k4, k5, k6⟩ := cells7 q7
    refine bodyPost_ret (v := .tuple #[zTree, .bool false]) (by simp [results, Try.results24, go_sem, k0, k1, k2, k3, k4, k5, k6, zTree]) rfl ?_
    exact ⟨rfl, hB7⟩
end Go.Proofs.Ytlbhadggfipckaa
