/-
  AlignWriter.Align, Header.bytes, entryBytes.
-/
import Derived.Test.YtlbhadggfipckaaHc
set_option linter.unusedVariables false
set_option linter.unusedSimpArgs false
namespace Go.Proofs.Ytlbhadggfipckaa
open Go.RowKit

def pad (n k : Nat) : List UInt8 := if k % n = 0 then [] else zeros (n - k % n)

theorem pad_len (n k : Nat) : (pad n k).length ≤ n := by
  unfold pad
  split
  · simp
  · simp [zeros_len]

theorem align_walk (w : World) (a z lo n : Nat) (bs : List UInt8) (h : WS w a z lo bs) (hn1 : 1 ≤ n) (hn : n ≤ 16) (hl : bs.length ≤ 10000000) :
    Calls Try.prog 74 #[.pointer (some ⟨a, 0, none⟩), .int .i64 n, .int .u8 0] w (WrPost w a z lo bs (pad n bs.length)) := by
  obtain ⟨A, c, h1, h2, h3, h4, h5, h6, h7⟩ := id h
  have c1 := h3.cell 1
  simp at c1
  have hmod : ((bs.length : Int)) % (n : Int) = ((bs.length % n : Nat) : Int) := by simp
  have hrem : ((bs.length : Int)).tmod (n : Int) = (bs.length : Int) % (n : Int) := Int.tmod_eq_emod_of_nonneg (by omega)
  have hn0 : ((n : Int) == 0) = false := by simp; omega
  have hlt : bs.length % n < n := Nat.mod_lt _ (by omega)
  have Hh := Lib.hid h
  clear h h1 h2 h3
  by_cases h0 : bs.length % n = 0
  · have hp : pad n bs.length = [] := by unfold pad; rw [if_pos h0]
    have he : ((bs.length : Int) % (n : Int) == 0) = true := by rw [hmod, h0]; rfl
    rw [hp]
    clear hp hmod
    go_enter Try.func74, Try.ntmps74
    go_wp2_with fail
    go_ret
    exact ⟨rfl, by simpa using Hh.out, Fr.refl _ _ _, Keep.refl _ _ _⟩
  · have hp : pad n bs.length = zeros (n - bs.length % n) := by unfold pad; rw [if_neg h0]
    have he : ((bs.length : Int) % (n : Int) == 0) = false := by rw [hmod]; simp; omega
    have hsub : IntKind.i64.wrap ((n : Int) - (bs.length : Int) % (n : Int)) = ((n - bs.length % n : Nat) : Int) := by
      rw [hmod]
      simp only [IntKind.wrap, IntKind.bits, IntKind.signed]
      simp
      omega
    rw [hp]
    have hlw : lo ≤ w.heap.size := h7
    have hzw : z < w.heap.size := by omega
    clear hp hmod
    go_enter Try.func74, Try.ntmps74
    go_wp2_with fail
    refine (repeat_walk w (n - bs.length % n) (by omega)).mono ?_
    rintro e w1 ⟨rfl, hrow, hb⟩
    have hws : WS w1 a z lo bs := by
      obtain ⟨A, c, h1, h2, h3, h4, h5, h6, h7⟩ := Hh.out
      exact ⟨A, c, h1.below hb (by omega), own_keep h2 (fun g hg => hb.block g (h2.lt g hg).2), h3.below hb (by omega), h4, h5, h6, Nat.le_trans h7 hb.size⟩
    have HA := Lib.hid (aw_walk w1 a z lo bs hws (some ⟨w.heap.size, 0, none⟩) (n - bs.length % n) (zeros (n - bs.length % n)) (own_rd hrow) (by rw [zeros_len]; omega))
    rw [zeros_len] at HA
    have HB := Lib.hid hb
    clear hws hrow hb
    go_wp2_with fail
    refine HA.out.mono ?_
    rintro e w2 ⟨rfl, hws, hf⟩
    go_wp2_with fail
    go_ret
    exact ⟨rfl, hws, (Fr.of_below (HB.out.mono hlw)).trans hf.1, (Keep.below HB.out hzw).trans hf.2 HB.out.size⟩

def HdrPost (w : World) (ns : List Int) (e : Ending) (w' : World) : Prop :=
  ∃ A c, e = .returned (.slice A (ns.flatMap be4).length c) ∧ w'.ownsRow w.heap.size 5 1 (.slice A (ns.flatMap be4).length c) (ns.flatMap be4).length ((ns.flatMap be4).map bv) ∧ Below w.heap.size w w'

theorem hdr_walk (w : World) (n0 n1 n2 n3 n4 n5 n6 n7 n8 n9 : Int) (hb : ∀ n ∈ [n0, n1, n2, n3, n4, n5, n6, n7, n8, n9], 0 ≤ n ∧ n ≤ 4294967295) :
    Calls Try.prog 73 #[.agg #[.int .u32 n0, .int .u32 n1, .int .u32 n2, .int .u32 n3, .int .u32 n4, .int .u32 n5, .int .u32 n6, .int .u32 n7, .int .u32 n8, .int .u32 n9]] w
      (HdrPost w [n0, n1, n2, n3, n4, n5, n6, n7, n8, n9]) := by
  have Hb := Lib.hid hb
  clear hb
  go_enter Try.func73, Try.ntmps73
  go_wp2_with fail
  generalize hW : (w.alloc (.cells #[.int .u32 n0, .int .u32 n1, .int .u32 n2, .int .u32 n3, .int .u32 n4, .int .u32 n5, .int .u32 n6, .int .u32 n7, .int .u32 n8, .int .u32 n9] 90)).alloc (.cells #[.int .u32 n0, .int .u32 n1, .int .u32 n2, .int .u32 n3, .int .u32 n4, .int .u32 n5, .int .u32 n6, .int .u32 n7, .int .u32 n8, .int .u32 n9] 22) = W
  have hWs : W.heap.size = w.heap.size + 2 := by rw [← hW]; simp
  have hWb : Below w.heap.size w W := by rw [← hW]; exact ((Below.refl _ _).alloc (Nat.le_refl _) _).alloc (by simp) _
  have hWc : Cs W (w.heap.size + 1) #[.int .u32 n0, .int .u32 n1, .int .u32 n2, .int .u32 n3, .int .u32 n4, .int .u32 n5, .int .u32 n6, .int .u32 n7, .int .u32 n8, .int .u32 n9] := by rw [← hW]; exact Cs.new' _ _ _ _ (by simp)
  clear hW
  refine (app32_walk W w.heap.size none 0 [] (World.ownsRow_nil _ _ _ _) (by omega) (some ⟨w.heap.size + 1, 0, none⟩) 10 [n0, n1, n2, n3, n4, n5, n6, n7, n8, n9] (.inr ⟨w.heap.size + 1, 0, rfl, ⟨by omega, by simp [Value.ownBlock]⟩, fun j u hu => ?_⟩) Hb.out (by simp)).mono ?_
  · rw [Nat.zero_add, hWc.cell]
    simpa using hu
  rintro e w1 ⟨A, c, rfl, hown, hf, -⟩
  have hfin : HdrPost w [n0, n1, n2, n3, n4, n5, n6, n7, n8, n9] (.returned (.slice A ([] ++ [n0, n1, n2, n3, n4, n5, n6, n7, n8, n9].flatMap be4).length c)) w1 :=
    ⟨A, c, rfl, hown, hWb.trans (hf.below (by omega) (fun k hk h => by simp [Value.ownBlock] at h))⟩
  have HFIN := Lib.hid hfin
  clear hfin hown hf hWc hWb
  go_wp2_with fail
  go_ret
  exact HFIN.out
end Go.Proofs.Ytlbhadggfipckaa
