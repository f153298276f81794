/-
  entryBytes.
-/
import Derived.Test.YtlbhadggfipckaaHd
set_option linter.unusedVariables false
set_option linter.unusedSimpArgs false
namespace Go.Proofs.Ytlbhadggfipckaa
open Go.RowKit

/-- A room's sixteen bytes. -/
def be16 (r : Int × Int) : List UInt8 := [r.1 / 4294967296, r.1 % 4294967296, r.2 / 4294967296, r.2 % 4294967296].flatMap be4

theorem be16_len (rs : List (Int × Int)) : (rs.flatMap be16).length = 16 * rs.length := by
  induction rs with
  | nil => rfl
  | cons n ns ih => simp [be16, be4, ih]; omega

def EntPost (w : World) (rs : List (Int × Int)) (e : Ending) (w' : World) : Prop :=
  ∃ A c, e = .returned (.slice A (rs.flatMap be16).length c) ∧ w'.ownsRow w.heap.size 5 1 (.slice A (rs.flatMap be16).length c) (rs.flatMap be16).length ((rs.flatMap be16).map bv) ∧ Below w.heap.size w w'

set_option maxHeartbeats 1000000 in
theorem entry_walk (w : World) (A : Option Addr) (c : Nat) (rs : List (Int × Int)) (hr : rs = [] ∨ ∃ b o, A = some ⟨b, o, none⟩ ∧ b < w.heap.size ∧ DuoR w b o (rs.map roomC)) (hb : ∀ r ∈ rs, 0 ≤ r.1 ∧ r.1 ≤ 18446744073709551615 ∧ 0 ≤ r.2 ∧ r.2 ≤ 18446744073709551615) (hl : rs.length ≤ 100) :
    Calls Try.prog 75 #[.slice A rs.length c] w (EntPost w rs) := by
  have Hr := Lib.hid hr
  have Hb := Lib.hid hb
  clear hr hb
  go_enter Try.func75, Try.ntmps75
  go_wp2_with fail
  go_loopw [8, 3] (fun i x wr => ∃ k : Nat, k ≤ rs.length ∧ i = .int .i64 k ∧ ∃ A' c', x = .slice A' ((rs.take k).flatMap be16).length c' ∧ wr.ownsRow w.heap.size 5 1 (.slice A' ((rs.take k).flatMap be16).length c') ((rs.take k).flatMap be16).length (((rs.take k).flatMap be16).map bv) ∧ Below w.heap.size w wr) (fun i _ _ => rs.length - (intOf i).toNat)
  case atStart => exact ⟨0, by omega, by go_num, none, 0, rfl, World.ownsRow_nil _ _ _ _, Below.refl _ _⟩
  case round =>
    obtain ⟨k, hk, rfl, A', c', rfl, hown, hF⟩ := hrel
    by_cases hlt : k < rs.length
    · have hne : rs ≠ [] := by rintro rfl; simp at hlt
      obtain ⟨b, o, rfl, hbl, hD⟩ := Hr.out.resolve_left hne
      obtain ⟨d1, d2⟩ := hD k (roomC rs[k]) (by simp [hlt])
      have tr : ∀ y, w.cell? ⟨b, y, none⟩ = wr.cell? ⟨b, y, none⟩ := fun y => (World.cell?_of_block (a := ⟨b, y, none⟩) (hF.block b hbl)).symm
      rw [tr] at d1 d2
      have hB := Hb.out rs[k] (List.getElem_mem hlt)
      have hap : (rs.take (k + 1)).flatMap be16 = (rs.take k).flatMap be16 ++ be16 rs[k] := by
        rw [List.take_succ_eq_append_getElem hlt, List.flatMap_append]
        simp
      have hlen := be16_len (rs.take k)
      rw [List.length_take] at hlen
      generalize hL : (rs.take k).flatMap be16 = L at *
      generalize rs[k] = rk at *
      obtain ⟨ra, rz⟩ := rk
      simp only [roomC] at d1 d2 hB
      have hki : (0 : Int) ≤ (k : Int) := by omega
      have sz := hF.size
      have hbw : b < wr.heap.size := by omega
      have Hown := Lib.hid hown
      have HF := Lib.hid hF
      have Hap := Lib.hid hap
      clear hown hF hap hD tr
      have hlen' : L.length = 16 * k := by omega
      clear hlen
      go_wp2_with fail
      generalize hW : (wr.alloc (.cells #[.int .u64 ra, .int .u64 rz] 98)).alloc (.cells #[.int .u32 (ra / 4294967296), .int .u32 (ra % 4294967296), .int .u32 (rz / 4294967296), .int .u32 (rz % 4294967296)] 22) = W
      have hWs : W.heap.size = wr.heap.size + 2 := by rw [← hW]; simp
      have hWb : Below wr.heap.size wr W := by rw [← hW]; exact ((Below.refl _ _).alloc (Nat.le_refl _) _).alloc (by simp) _
      have hWc : Cs W (wr.heap.size + 1) #[.int .u32 (ra / 4294967296), .int .u32 (ra % 4294967296), .int .u32 (rz / 4294967296), .int .u32 (rz % 4294967296)] := by rw [← hW]; exact Cs.new' _ _ _ _ (by simp)
      have hWo : W.ownsRow w.heap.size 5 1 (.slice A' L.length c') L.length (L.map bv) := own_keep Hown.out fun g hg => hWb.block g (Hown.out.lt g hg).2
      clear hW
      have hI := app32_walk W w.heap.size A' c' L hWo (by omega) (some ⟨wr.heap.size + 1, 0, none⟩) 4 [ra / 4294967296, ra % 4294967296, rz / 4294967296, rz % 4294967296] (.inr ⟨wr.heap.size + 1, 0, rfl, ⟨by omega, fun e => by have := (Hown.out.lt _ e.symm).2; omega⟩, fun j u hu => by
        rw [Nat.zero_add, hWc.cell]
        simpa using hu⟩) (fun n hn => by
        simp only [List.mem_cons, List.not_mem_nil, or_false] at hn
        rcases hn with rfl | rfl | rfl | rfl <;> omega) (by simp only [List.length_cons, List.length_nil]; omega)
      rw [hlen'] at hI
      refine hI.mono ?_
      rintro e w1 ⟨A2, c2, rfl, hown, hf, -⟩
      have hown2 : w1.ownsRow w.heap.size 5 1 (.slice A2 ((rs.take (k + 1)).flatMap be16).length c2) ((rs.take (k + 1)).flatMap be16).length (((rs.take (k + 1)).flatMap be16).map bv) := by rw [Hap.out]; exact hown
      have hb2 : Below w.heap.size w w1 := (HF.out.trans (hWb.mono sz)).trans (hf.below (by omega) (fun x hx e => by
        have h1 := (Hown.out.lt x (by rw [hlen']; exact e.symm)).1
        omega))
      have hle2 : (L ++ be16 (ra, rz)).length = ((rs.take (k + 1)).flatMap be16).length := by rw [Hap.out]
      have HX := Lib.hid (And.intro hown2 hb2)
      have Hle2 := Lib.hid hle2
      clear hown2 hb2 hown hf hWc hWb hWo hI hle2
      go_wp2_with fail
      go_roundw
      case rel =>
        refine ⟨k + 1, hlt, by go_num, A2, c2, ?_, HX.out.1, HX.out.2⟩
        rw [← Hle2.out, List.length_append, hlen']
        rfl
      case measure => simp [intOf]; omega
    · obtain rfl : k = rs.length := by omega
      rw [List.take_length] at hown ⊢
      have hfin : EntPost w rs (.returned (.slice A' (rs.flatMap be16).length c')) wr := ⟨A', c', rfl, hown, hF⟩
      have HFIN := Lib.hid hfin
      clear hown hF hfin
      go_wp2_with fail
      go_ret
      exact HFIN.out
end Go.Proofs.Ytlbhadggfipckaa
