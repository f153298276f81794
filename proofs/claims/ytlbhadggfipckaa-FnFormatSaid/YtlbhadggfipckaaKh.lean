/-
  What spec.Read needs: the head's numbers, the strings are not empty.
-/
import Derived.Test.YtlbhadggfipckaaKg
set_option linter.unusedVariables false
set_option linter.unusedSimpArgs false
namespace Go.Proofs.Ytlbhadggfipckaa
open Go.RowKit

theorem EncP.strs_pos {strs : List UInt8} {nop : Nat} {ps : List Pr} {r : List UInt8} (h : EncP strs nop ps r) (hp : ps ≠ []) : 0 < strs.length := by
  cases h with
  | nil => exact absurd rfl hp
  | cons h _ => have := h.lt; omega

mutual
theorem EncN.strs_pos {strs : List UInt8} {nop : Nat} : ∀ {n : Nd} {r : List UInt8}, EncN strs nop n r → n.has → 0 < strs.length
  | .mk _ ps ks, _, .mk hp hk, h => by
    simp only [Nd.has] at h
    rcases h with h | h
    · exact hp.strs_pos h
    · exact EncL.strs_pos hk h
theorem EncL.strs_pos {strs : List UInt8} {nop : Nat} : ∀ {n : List Nd} {r : List UInt8}, EncL strs nop n r → hasL n → 0 < strs.length
  | [], _, _, h => by simp only [hasL] at h
  | k :: r, _, .cons hk hr, h => by
    simp only [hasL] at h
    rcases h with h | h
    · exact EncN.strs_pos hk h
    · exact EncL.strs_pos hr h
end

/-- The array of numbers while it is filled. -/
def arrN (ns : List Nat) (k : Nat) : Array Value := (((ns.take k).map fun (n : Nat) => Value.int .i64 (n : Int)) ++ List.replicate (10 - k) (Value.int .i64 0)).toArray

theorem arrN_size {ns : List Nat} (h : ns.length = 10) {k : Nat} (hk : k ≤ 10) : (arrN ns k).size = 10 := by
  simp [arrN, h]
  omega

theorem arrN_step {ns : List Nat} (h : ns.length = 10) {k : Nat} (hk : k < 10) : (arrN ns k).setIfInBounds k (.int .i64 ((ns[k]'(by omega) : Nat) : Int)) = arrN ns (k + 1) := by
  have hl : ((ns.take k).map fun (n : Nat) => Value.int .i64 (n : Int)).length = k := by simp [h]; omega
  have hr : List.replicate (10 - k) (Value.int .i64 0) = Value.int .i64 0 :: List.replicate (10 - (k + 1)) (Value.int .i64 0) := by
    rw [← List.replicate_succ]
    congr 1
    omega
  unfold arrN
  rw [List.setIfInBounds_toArray, List.set_append_right _ _ (by omega), hl, Nat.sub_self, hr, List.set_cons_zero, List.take_succ_eq_append_getElem (by omega), List.map_append]
  simp

theorem arrN_get {ns : List Nat} (h : ns.length = 10) {k : Nat} (hk : k < 10) : (arrN ns k)[k]? = some (.int .i64 0) := by
  have hl : ((ns.take k).map fun (n : Nat) => Value.int .i64 (n : Int)).length = k := by simp [h]; omega
  unfold arrN
  rw [List.getElem?_toArray, List.getElem?_append_right (by omega), hl, Nat.sub_self]
  rw [List.getElem?_replicate]
  rw [if_pos (by omega)]

theorem nums_cut {ns : List Nat} {k : Nat} (hk : k < ns.length) : ns.flatMap (fun (n : Nat) => be4 (n : Int)) = (ns.take k).flatMap (fun (n : Nat) => be4 (n : Int)) ++ (be4 ((ns[k] : Nat) : Int) ++ (ns.drop (k + 1)).flatMap (fun (n : Nat) => be4 (n : Int))) := by
  conv => lhs; rw [show ns = ns.take k ++ ns[k] :: ns.drop (k + 1) by simp]
  rw [List.flatMap_append, List.flatMap_cons]

theorem nums_len (ns : List Nat) : (ns.flatMap (fun (n : Nat) => be4 (n : Int))).length = 4 * ns.length := by
  induction ns with
  | nil => rfl
  | cons n ns ih =>
    rw [List.flatMap_cons, List.length_append, ih, List.length_cons]
    have : (be4 (n : Int)).length = 4 := rfl
    omega

/-- One room's sixteen bytes, by numbers. -/
theorem be16_nat (x y : Nat) : be16 ((x : Int), (y : Int)) = be4 ((x / 4294967296 : Nat) : Int) ++ (be4 ((x % 4294967296 : Nat) : Int) ++ (be4 ((y / 4294967296 : Nat) : Int) ++ be4 ((y % 4294967296 : Nat) : Int))) := by
  simp [be16]
end Go.Proofs.Ytlbhadggfipckaa
