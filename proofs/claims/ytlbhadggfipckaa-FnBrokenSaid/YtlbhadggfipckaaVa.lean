/-
  The walk of laws.FnValues: it answers true.
-/
import Derived.Test.YtlbhadggfipckaaTe
set_option linter.unusedVariables false
set_option linter.unusedSimpArgs false
namespace Go.Proofs.Ytlbhadggfipckaa
open Go.RowKit

/-- The first k of the c bytes of n, the highest first. -/
def digs (n : Int) (c k : Nat) : List Value := (List.range k).map fun j => Value.int .u8 (n / 2 ^ (8 * (c - 1 - j)) % 256)

theorem digs_succ (n : Int) (c k : Nat) : digs n c (k + 1) = digs n c k ++ [Value.int .u8 (n / 2 ^ (8 * (c - 1 - k)) % 256)] := by simp [digs, List.range_succ]
theorem digs_length (n : Int) (c k : Nat) : (digs n c k).length = k := by simp [digs]

def byteOf (n : Int) (s : Nat) : UInt8 := UInt8.ofNat (n / 2 ^ s % 256).toNat

theorem bv_byteOf (n : Int) (s : Nat) : bv (byteOf n s) = .int .u8 (n / 2 ^ s % 256) := by
  have h1 : 0 ≤ n / 2 ^ s % 256 := Int.emod_nonneg _ (by omega)
  have h2 : n / 2 ^ s % 256 < 256 := Int.emod_lt_of_pos _ (by omega)
  unfold bv byteOf
  congr 1
  rw [UInt8.toNat_ofNat']
  omega

theorem own_SlB {w : World} {base : Nat} {v : Value} {l : List UInt8} (h : w.ownsRow base 5 1 v l.length (l.map bv)) : SlB w v l := by
  rcases h.2 with ⟨rfl, h0⟩ | ⟨g, cap, cur, rfl, _, hg, h1, h2, _⟩
  · have : l = [] := List.eq_nil_of_length_eq_zero h0
    subst this
    exact ⟨none, 0, rfl, by simp, by simp [maxLen], .inl rfl⟩
  · refine ⟨_, cap, rfl, h1, h2, .inr ⟨g, 0, rfl, fun j u hu => ?_⟩⟩
    have := h.cellAt j (by have := (List.getElem?_eq_some_iff.1 hu).1; simp at this; omega)
    rw [Nat.zero_add, this, hu]

theorem num4 (n : Int) (h0 : 0 ≤ n) (h1 : n ≤ 4294967295) : ((be32 (byteOf n 24) (byteOf n 16) (byteOf n 8) (byteOf n 0) : Nat) : Int) = n := by
  have e : ∀ s : Nat, ((byteOf n s).toNat : Int) = n / 2 ^ s % 256 := fun s => by
    have := bv_byteOf n s
    injection this
  have e0 := e 24
  have e1 := e 16
  have e2 := e 8
  have e3 := e 0
  unfold be32
  simp only [Nat.reducePow, Int.reducePow] at e0 e1 e2 e3
  omega

theorem num8 (n : Int) (h0 : 0 ≤ n) (h1 : n ≤ 18446744073709551615) :
    ((be32 (byteOf n 56) (byteOf n 48) (byteOf n 40) (byteOf n 32) * 4294967296 + be32 (byteOf n 24) (byteOf n 16) (byteOf n 8) (byteOf n 0) : Nat) : Int) = n := by
  have e : ∀ s : Nat, ((byteOf n s).toNat : Int) = n / 2 ^ s % 256 := fun s => by
    have := bv_byteOf n s
    injection this
  have e0 := e 24
  have e1 := e 16
  have e2 := e 8
  have e3 := e 0
  have e4 := e 56
  have e5 := e 48
  have e6 := e 40
  have e7 := e 32
  unfold be32
  simp only [Nat.reducePow, Int.reducePow] at e0 e1 e2 e3 e4 e5 e6 e7
  omega

set_option maxHeartbeats 1000000 in
theorem values_walk (n m : Int) (w : World) (hn0 : 0 ≤ n) (hn1 : n ≤ 4294967295) (hm0 : 0 ≤ m) (hm1 : m ≤ 18446744073709551615) :
    Calls Try.prog 3 #[.int .u32 n, .int .u64 m] w fun e w' => e = .returned (.bool true) ∧ Below w.heap.size w w' := by
  go_enter Try.func3, Try.ntmps3
  go_wp2_with fail
  go_loopw [5, 7] (fun v i wr => ∃ k : Nat, k ≤ 4 ∧ i = .int .i64 (3 - (k : Int)) ∧ wr.ownsRow w.heap.size 5 1 v k (digs n 4 k) ∧ Below w.heap.size w wr) (fun _ i _ => (intOf i + 1).toNat)
  case atStart => exact ⟨0, by omega, by simp, World.ownsRow_nil _ _ _ _, Below.refl _ _⟩
  case round =>
    obtain ⟨k, hk, rfl, hown, hb⟩ := hrel
    by_cases h4 : k < 4
    · have hi : (0 : Int) ≤ 3 - (k : Int) := by omega
      have hi3 : (3 : Int) - (k : Int) ≤ 3 := by omega
      have hB := hb.size
      go_wp2_with (at_builtin; go_must (refine wpList_append_el el24 rfl (.tmp 17) (.tmp 23) rfl w.heap.size u5 k (digs n 4 k) rfl (hown.alloc _) (some ⟨wr.heap.size, 0, none⟩) 1 1 [.int .u8 (n / 2 ^ (8 * (3 - k)) % 256)] rfl (by simp) (Rd.new _ _ _ _ rfl) (by simp [Value.oneCell']) (by omega) (by omega) (by simp; omega) ?_); intro v' w1 hown1 hgrow _ hat)
      go_roundw
      case rel =>
        refine ⟨k + 1, by omega, by congr 1; omega, by rw [digs_succ]; exact hown1, ?_⟩
        exact (hb.alloc hB _).grown hgrow (by simp; omega) (fun g hg => (hown.lt g hg).1)
      case measure => simp [intOf]; omega
    · obtain rfl : k = 4 := by omega
      clear h4 hk
      have hs4 := own_SlB (l := [byteOf n 24, byteOf n 16, byteOf n 8, byteOf n 0]) (by simpa [digs, List.range_succ, bv_byteOf] using hown)
      clear hown
      obtain ⟨wo, rfl⟩ : ∃ wo : World, wo = wr := ⟨_, rfl⟩
      rw [show (3 : Int) - ((4 : Nat) : Int) = -1 from by omega]
      go_wp2_with fail
      go_loopw [6, 8] (fun v i wr => ∃ k : Nat, k ≤ 8 ∧ i = .int .i64 (7 - (k : Int)) ∧ wr.ownsRow wo.heap.size 5 1 v k (digs m 8 k) ∧ Below wo.heap.size wo wr) (fun _ i _ => (intOf i + 1).toNat)
      case atStart => exact ⟨0, by omega, by simp, World.ownsRow_nil _ _ _ _, Below.refl _ _⟩
      case round =>
        obtain ⟨k, hk, rfl, hown, hb2⟩ := hrel
        by_cases h4 : k < 8
        · have hi : (0 : Int) ≤ 7 - (k : Int) := by omega
          have hi3 : (7 : Int) - (k : Int) ≤ 7 := by omega
          have hB := hb2.size
          go_wp2_with (at_builtin; go_must (refine wpList_append_el el24 rfl (.tmp 29) (.tmp 35) rfl wo.heap.size u6 k (digs m 8 k) rfl (hown.alloc _) (some ⟨wr.heap.size, 0, none⟩) 1 1 [.int .u8 (m / 2 ^ (8 * (7 - k)) % 256)] rfl (by simp) (Rd.new _ _ _ _ rfl) (by simp [Value.oneCell']) (by omega) (by omega) (by simp; omega) ?_); intro v' w1 hown1 hgrow _ hat)
          go_roundw
          case rel =>
            refine ⟨k + 1, by omega, by congr 1; omega, by rw [digs_succ]; exact hown1, ?_⟩
            exact (hb2.alloc hB _).grown hgrow (by simp; omega) (fun g hg => (hown.lt g hg).1)
          case measure => simp [intOf]; omega
        · obtain rfl : k = 8 := by omega
          clear h4 hk
          have hs8 := own_SlB (l := [byteOf m 56, byteOf m 48, byteOf m 40, byteOf m 32, byteOf m 24, byteOf m 16, byteOf m 8, byteOf m 0]) (by simpa [digs, List.range_succ, bv_byteOf] using hown)
          clear hown
          have Hb : Below w.heap.size w wr := hb.trans (hb2.mono hb.size)
          rw [show (7 : Int) - ((8 : Nat) : Int) = -1 from by omega]
          go_wp2_with fail
          refine (u32_any wr _ _ _ _ _ (hs4.below hb2)).mono ?_
          rintro e w1 ⟨rfl, hb3⟩
          go_wp2_with fail
          refine (u64_any w1 _ _ _ _ _ _ _ _ _ (hs8.below hb3)).mono ?_
          rintro e w2 ⟨rfl, hb4⟩
          rw [num4 n hn0 hn1, num8 m hm0 hm1]
          have Hb2 : Below w.heap.size w w2 := Hb.trans ((hb3.mono Hb.size).trans (hb4.mono (Nat.le_trans Hb.size hb3.size)))
          go_wp2_with fail
          refine (works_true w2).mono ?_
          rintro e w3 ⟨rfl, hb5⟩
          go_wp2_with fail
          go_ret
          exact ⟨rfl, Hb2.trans (hb5.mono Hb2.size)⟩
end Go.Proofs.Ytlbhadggfipckaa
