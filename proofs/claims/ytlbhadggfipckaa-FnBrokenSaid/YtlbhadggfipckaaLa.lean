/-
  spec.put, spec.padded.
-/
import Derived.Test.YtlbhadggfipckaaHe
set_option linter.unusedVariables false
set_option linter.unusedSimpArgs false
namespace Go.Proofs.Ytlbhadggfipckaa
open Go.RowKit

/-- The last k bytes of a number, the highest one first. -/
def low (n : Nat) : Nat → List UInt8
  | 0 => []
  | k + 1 => UInt8.ofNat (n / 256 ^ k % 256) :: low n k

theorem low_len (n : Nat) : ∀ k, (low n k).length = k
  | 0 => rfl
  | k + 1 => by simp [low, low_len n k]

theorem ofNat_byteOf (n k : Nat) : UInt8.ofNat (n / 2 ^ k % 256) = byteOf (n : Int) k := by
  unfold byteOf
  have e : ((n : Int) / 2 ^ k % 256).toNat = n / 2 ^ k % 256 := by
    have : ((n : Int) / 2 ^ k % 256) = ((n / 2 ^ k % 256 : Nat) : Int) := by simp
    rw [this, Int.toNat_natCast]
  rw [e]

theorem low4 (n : Nat) : low n 4 = be4 (n : Int) := by
  simp only [low, be4, ← ofNat_byteOf]

theorem low8 (n : Nat) (h : n < 18446744073709551616) : low n 8 = be4 ((n / 4294967296 : Nat) : Int) ++ be4 ((n % 4294967296 : Nat) : Int) := by
  simp only [low, be4, ← ofNat_byteOf, List.cons_append, List.nil_append]
  simp only [Nat.reducePow, Nat.div_one, List.cons.injEq, and_true]
  refine ⟨?_, ?_, ?_, ?_, ?_, ?_, ?_, ?_⟩ <;> first | trivial | (refine congrArg UInt8.ofNat ?_; omega)

def PutPost (w : World) (l : List UInt8) (e : Ending) (w' : World) : Prop :=
  e = .returned (.slice (some ⟨w.heap.size, 0, none⟩) l.length l.length) ∧ w'.ownsRow w.heap.size 5 1 (.slice (some ⟨w.heap.size, 0, none⟩) l.length l.length) l.length (l.map bv) ∧ Below w.heap.size w w'

theorem put_set {n c k : Nat} (hk : k < c) : ((zeros (c - k) ++ low n k).map bv).set (c - 1 - k) (bv (UInt8.ofNat (n / 256 ^ k % 256))) = (zeros (c - (k + 1)) ++ low n (k + 1)).map bv := by
  have e : zeros (c - k) = zeros (c - (k + 1)) ++ [0] := by
    unfold zeros
    rw [show c - k = (c - (k + 1)) + 1 by omega, List.replicate_succ']
  rw [e, ← List.map_set]
  congr 1
  rw [List.append_assoc, List.set_append_right _ _ (by simp [zeros_len]; omega), zeros_len]
  rw [show c - 1 - k - (c - (k + 1)) = 0 by omega]
  rfl

set_option maxHeartbeats 1000000 in
theorem put_walk (w : World) (n c : Nat) (hn : n < 18446744073709551616) (hc : c ≤ 8) : Calls Try.prog 49 #[.int .u64 n, .int .i64 c] w (PutPost w (low n c)) := by
  have hmk := make5 w c (by omega)
  have hrow : (w.alloc (.cells (Array.replicate c (.int .u8 0)) 5)).ownsRow w.heap.size 5 1 (.slice (some ⟨w.heap.size, 0, none⟩) c c) c ((zeros c).map bv) := by
    have := World.ownsRow_lit (base := w.heap.size) (e := 5) (size := 1) w (Array.replicate c (.int .u8 0)) c (Nat.le_refl _) (by simp only [maxLen]; omega) (by simp)
    simpa [zeros, bv] using this
  have Hrow := Lib.hid hrow
  clear hrow
  go_enter Try.func49, Try.ntmps49
  go_wp2_with fail
  go_loopw [11, 0] (fun i m wr => ∃ k : Nat, k ≤ c ∧ i = .int .i64 k ∧ m = .int .u64 ((n / 256 ^ k : Nat) : Int) ∧ wr.ownsRow w.heap.size 5 1 (.slice (some ⟨w.heap.size, 0, none⟩) c c) c ((zeros (c - k) ++ low n k).map bv) ∧ Below w.heap.size w wr) (fun i _ _ => c - (intOf i).toNat)
  case atStart => exact ⟨0, by omega, by go_num, by simp, by simpa [low] using Hrow.out, (Below.refl _ _).alloc (Nat.le_refl _) _⟩
  case round =>
    obtain ⟨k, hk, rfl, rfl, hw, hF⟩ := hrel
    clear hmk
    by_cases hlt : k < c
    · have hget : ((zeros (c - k) ++ low n k).map bv)[c - 1 - k]? = some (.int .u8 0) := by
        rw [List.getElem?_map, List.getElem?_append_left (by simp [zeros_len]; omega)]
        simp [zeros, List.getElem?_replicate]
        omega
      have c0 : wr.cell? ⟨w.heap.size, c - 1 - k, none⟩ = some (.int .u8 0) := by rw [hw.cellAt _ (by omega)]; exact hget
      have f0 := hw.frozenAt (c - 1 - k)
      have st := (hw.stored (c - 1 - k) (bv (UInt8.ofNat (n / 256 ^ k % 256)))).1
      rw [put_set hlt] at st
      have hnk : n / 256 ^ (k + 1) = n / 256 ^ k / 256 := by rw [Nat.pow_succ, Nat.div_div_eq_div_mul]
      have hmb : n / 256 ^ k < 18446744073709551616 := Nat.lt_of_le_of_lt (Nat.div_le_self _ _) hn
      have hbv : bv (UInt8.ofNat (n / 256 ^ k % 256)) = .int .u8 (((n / 256 ^ k : Nat) : Int) % 256) := by
        unfold bv
        rw [UInt8.toNat_ofNat']
        congr 1
        omega
      rw [hbv] at st
      obtain ⟨j, hj⟩ : ∃ j, j = c - 1 - k := ⟨_, rfl⟩
      rw [← hj] at c0 f0 st
      have hjw : IntKind.i64.wrap ((c : Int) - 1 - (k : Int)) = (j : Int) := by simp only [IntKind.wrap, IntKind.bits, IntKind.signed]; simp; omega
      have hjw2 : IntKind.i64.wrap ((c : Int) - 1) = (c : Int) - 1 := by simp only [IntKind.wrap, IntKind.bits, IntKind.signed]; simp; omega
      have hjc : (j : Int) < (c : Int) := by omega
      have hj0 : (0 : Int) ≤ (j : Int) := by omega
      have hki : (0 : Int) ≤ (k : Int) := by omega
      generalize n / 256 ^ k = m at *
      have HF := Lib.hid hF
      have St := Lib.hid st
      have Hnk := Lib.hid hnk
      clear hF st hw hnk hbv hget hj
      go_wp2_with fail
      go_roundw
      case rel => exact ⟨k + 1, hlt, by go_num, by rw [Hnk.out]; simp, St.out, HF.out.setCell (by simp) _⟩
      case measure => simp [intOf]; omega
    · obtain rfl : k = c := by omega
      rw [Nat.sub_self, show zeros 0 ++ low n k = low n k from rfl] at hw
      have HF := Lib.hid (And.intro hw hF)
      clear hw hF
      go_wp2_with fail
      go_ret
      exact ⟨(by rw [low_len]; rfl), by rw [low_len]; exact HF.out.1, HF.out.2⟩
end Go.Proofs.Ytlbhadggfipckaa
