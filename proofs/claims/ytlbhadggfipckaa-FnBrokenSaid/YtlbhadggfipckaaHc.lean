/-
  repeat, AlignWriter.Align, align4, align16, impl.word.
-/
import Derived.Test.YtlbhadggfipckaaHb
import Derived.Laws.MakeOwn
set_option linter.unusedVariables false
set_option linter.unusedSimpArgs false
namespace Go.Proofs.Ytlbhadggfipckaa
open Go.RowKit

def zeros (n : Nat) : List UInt8 := List.replicate n 0

theorem zeros_len (n : Nat) : (zeros n).length = n := by simp [zeros]

theorem make5 (w : World) (n : Nat) (hn : n ≤ 1000000) : (Instr.makeSlice 24 (.int .i64 (n : Int)) (.int .i64 (n : Int))).run Try.prog w = .ok (.slice (some ⟨w.heap.size, 0, none⟩) n n) (w.alloc (.cells (Array.replicate n (.int .u8 0)) 5)) := by
  obtain ⟨i, hi, hz0, hz1, hz2⟩ := info_parts info5
  have h := run_makeSlice (P := Try.prog) w 24 5 i _ Try.underlying24 hi hz0 .i64 .i64 n n (by omega) (Int.le_refl _) (by rw [hz1]; omega) (by rw [hz2]; omega) (by omega)
  have e : madeCells (Value.int .u8 0).cells n = Array.replicate n (.int .u8 0) := by
    apply Array.ext
    · simp [madeCells]
    · intro j h1 h2
      have h3 : j % 1 = 0 := Nat.mod_one j
      simp [madeCells, Value.cells, h3]
  rw [hz1, Int.toNat_natCast, Nat.mul_one, e] at h
  exact h

theorem set_zeros (n j : Nat) : ((zeros n).map bv).set j (.int .u8 0) = (zeros n).map bv := by
  have e : (zeros n).map bv = List.replicate n (.int .u8 0) := by simp [zeros, bv]
  rw [e, List.set_replicate_self]

def RepPost (w : World) (n : Nat) (e : Ending) (w' : World) : Prop := e = .returned (.slice (some ⟨w.heap.size, 0, none⟩) n n) ∧ w'.ownsRow w.heap.size 5 1 (.slice (some ⟨w.heap.size, 0, none⟩) n n) n ((zeros n).map bv) ∧ Below w.heap.size w w'

theorem repeat_walk (w : World) (n : Nat) (hn : n ≤ 16) : Calls Try.prog 84 #[.int .u8 0, .int .i64 n] w (RepPost w n) := by
  have hmk := make5 w n (by omega)
  have hrow : (w.alloc (.cells (Array.replicate n (.int .u8 0)) 5)).ownsRow w.heap.size 5 1 (.slice (some ⟨w.heap.size, 0, none⟩) n n) n ((zeros n).map bv) := by
    have := World.ownsRow_lit (base := w.heap.size) (e := 5) (size := 1) w (Array.replicate n (.int .u8 0)) n (Nat.le_refl _) (by simp only [maxLen]; omega) (by simp)
    simpa [zeros, bv] using this
  have Hrow := Lib.hid hrow
  clear hrow
  go_enter Try.func84, Try.ntmps84
  go_wp2_with fail
  go_loopw [11] (fun i wr => ∃ k : Nat, k ≤ n ∧ i = .int .i64 k ∧ wr.ownsRow w.heap.size 5 1 (.slice (some ⟨w.heap.size, 0, none⟩) n n) n ((zeros n).map bv) ∧ Below w.heap.size w wr) (fun i _ => n - (intOf i).toNat)
  case atStart => exact ⟨0, by omega, by go_num, Hrow.out, (Below.refl _ _).alloc (Nat.le_refl _) _⟩
  case round =>
    obtain ⟨k, hk, rfl, hw, hF⟩ := hrel
    clear hmk
    by_cases hlt : k < n
    · have c0 : wr.cell? ⟨w.heap.size, k, none⟩ = some (.int .u8 0) := by
        rw [hw.cellAt k (by omega)]
        simp [zeros, bv, hlt]
      have f0 := hw.frozenAt k
      have hki : (0 : Int) ≤ (k : Int) := by omega
      have st := (hw.stored k (.int .u8 0)).1
      rw [set_zeros] at st
      have HF := Lib.hid hF
      have St := Lib.hid st
      clear hF st hw
      go_wp2_with fail
      go_roundw
      case rel => exact ⟨k + 1, by omega, by go_num, St.out, HF.out.setCell (by simp) _⟩
      case measure => simp [intOf]; omega
    · obtain rfl : k = n := by omega
      have HF := Lib.hid hF
      have Hw := Lib.hid hw
      clear hF hw
      go_wp2_with fail
      go_ret
      exact ⟨rfl, Hw.out, HF.out⟩

theorem and_four (x : Nat) (hx : x < 4611686018427387904) : x &&& 18446744073709551612 = x / 4 * 4 := by
  have e1 : (18446744073709551612 : Nat) = (2 ^ 62 - 1) <<< 2 := by decide
  have e2 : x / 4 * 4 = (x >>> 2) <<< 2 := by rw [Nat.shiftRight_eq_div_pow, Nat.shiftLeft_eq]
  rw [e1, e2]
  apply Nat.eq_of_testBit_eq
  intro i
  rw [Nat.testBit_and, Nat.testBit_shiftLeft, Nat.testBit_shiftLeft, Nat.testBit_shiftRight, Nat.testBit_two_pow_sub_one]
  by_cases h : 2 ≤ i
  · have h3 : 2 + (i - 2) = i := by omega
    rw [h3]
    by_cases h2 : i - 2 < 62
    · simp [h, h2]
    · have : x.testBit i = false := Nat.testBit_lt_two_pow (Nat.lt_of_lt_of_le hx (by
        have : 2 ^ 62 ≤ 2 ^ i := Nat.pow_le_pow_right (by omega) (by omega)
        simpa using this))
      simp [this]
  · simp [h]

theorem i64_andNot3 (x : Nat) (hx : x < 4611686018427387904) : bits .andNot .i64 (x : Int) 3 = ((x / 4 * 4 : Nat) : Int) := by
  show IntKind.i64.wrap ((BitVec.ofInt 64 (x : Int) &&& ~~~BitVec.ofInt 64 3).toNat : Int) = _
  have h1 : (BitVec.ofInt 64 3).toNat = 3 := by decide
  have h2 : (BitVec.ofInt 64 (x : Int)).toNat = x := by
    rw [BitVec.toNat_ofInt]
    omega
  rw [BitVec.toNat_and, BitVec.toNat_not, h2, h1, show 2 ^ 64 - 1 - 3 = 18446744073709551612 by decide, and_four x hx]
  simp only [IntKind.wrap, IntKind.bits, IntKind.signed]
  simp
  omega

def al4 (n : Nat) : Nat := (n + 3) / 4 * 4

theorem align4_walk (w : World) (n : Nat) (hn : n ≤ 1000000) : Calls Try.prog 70 #[.int .i64 n] w fun e w' => e = .returned (.int .u32 (al4 n : Nat)) ∧ w = w' := by
  have hb : bits .andNot .i64 ((n : Int) + 3) 3 = ((al4 n : Nat) : Int) := by
    have := i64_andNot3 (n + 3) (by omega)
    simpa [al4] using this
  have hl : al4 n ≤ 1000003 := by unfold al4; omega
  go_enter Try.func70, Try.ntmps70
  go_wp2_with fail
  go_ret
  refine ⟨?_, rfl⟩
  have : ((al4 n : Nat) : Int) % 4294967296 = ((al4 n : Nat) : Int) := by omega
  simp [this]
theorem align16_walk (w : World) : Calls Try.prog 71 #[.int .i64 40] w fun e w' => e = .returned (.int .u32 48) ∧ w = w' := by
  go_enter Try.func71, Try.ntmps71
  go_wp2_with fail
  go_ret
  exact ⟨rfl, rfl⟩
theorem word_walk (w : World) (n : Int) (h0 : 0 ≤ n) (h1 : n < 4294967296) : Calls Try.prog 40 #[.int .i64 n] w fun e w' => e = .returned (.bool true) ∧ w = w' := by
  have d1 : decide (0 ≤ n) = true := decide_eq_true h0
  have d2 : decide (n < 4294967296) = true := decide_eq_true h1
  go_enter Try.func40, Try.ntmps40
  go_wp2_with fail
  go_ret
  exact ⟨rfl, rfl⟩
end Go.Proofs.Ytlbhadggfipckaa
