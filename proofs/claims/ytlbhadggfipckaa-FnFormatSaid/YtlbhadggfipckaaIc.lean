/-
  FDT.Write's first closure: the block of strings and the map of places.
-/
import Derived.Test.YtlbhadggfipckaaIb
import Derived.Test.YtlbhadggfipckaaXc
set_option linter.unusedVariables false
set_option linter.unusedSimpArgs false
namespace Go.Proofs.Ytlbhadggfipckaa
open Go.RowKit

theorem conv_rd (W : World) (s : ByteArray) : Rd (Lib.bytesWorld W 5 s) (some ⟨W.heap.size, 0, none⟩) ((bytesOf s).map bv) := by
  refine .inr ⟨W.heap.size, 0, rfl, fun j v hv => ?_⟩
  have hj : j < s.size := by have := (List.getElem?_eq_some_iff.1 hv).1; simpa [bytesOf] using this
  have hget : s.data.toList[j]? = some s.data[j] := by
    rw [List.getElem?_eq_getElem (by simpa using hj)]
    rfl
  rw [Nat.zero_add, Lib.bytesWorld_cell W 5 s j hj]
  unfold bytesOf at hv
  rw [List.getElem?_map, hget] at hv
  rw [List.getD_eq_getElem?_getD, hget]
  exact hv

theorem conv_below (W : World) (s : ByteArray) : Below W.heap.size W (Lib.bytesWorld W 5 s) :=
  ⟨rfl, rfl, rfl, by rw [Lib.bytesWorld_size]; omega, fun k hk => Lib.bytesWorld_at_old W 5 s k hk⟩

/-- The row of a slice is none of these blocks. -/
def NR (v : Value) (mv sv m : Nat) : Prop := ∀ g, v.ownBlock = some g → g ≠ mv ∧ g ≠ sv ∧ g ≠ m

theorem NR.step {v v' : Value} {mv sv m n : Nat} (h : NR v mv sv m) (hat : v'.ownBlock = v.ownBlock ∨ v'.ownBlock = some n) (h1 : mv < n) (h2 : sv < n) (h3 : m < n) : NR v' mv sv m := fun g hg => by
  rcases hat with e | e
  · exact h g (e.symm.trans hg)
  · have := e.symm.trans hg
    injection this with this
    omega

/-- The state of the strings: the variables at blocks mv (the map) and sv (the strings). -/
def SB (w : World) (mv sv m lo : Nat) (S : List (ByteArray × Nat)) (strs : List UInt8) : Prop :=
  Cs w mv #[.map (some m)] ∧ MapOff w m S ∧ (∃ A c, Cs w sv #[.slice A strs.length c] ∧ w.ownsRow lo 5 1 (.slice A strs.length c) strs.length (strs.map bv) ∧ NR (.slice A strs.length c) mv sv m) ∧ (∀ s off, offOf s S = some off → Has strs off s) ∧
    mv ≠ sv ∧ mv ≠ m ∧ sv ≠ m ∧ lo ≤ w.heap.size ∧ S.length ≤ strs.length

/-- What was there stays there. -/
def More (S S' : List (ByteArray × Nat)) (strs strs' : List UInt8) : Prop := (∃ more, strs' = strs ++ more) ∧ ∀ s off, offOf s S = some off → offOf s S' = some off

theorem More.refl (S : List (ByteArray × Nat)) (strs : List UInt8) : More S S strs strs := ⟨⟨[], by simp⟩, fun _ _ h => h⟩
theorem More.trans {S S' S'' : List (ByteArray × Nat)} {a b c : List UInt8} (h : More S S' a b) (k : More S' S'' b c) : More S S'' a c := by
  obtain ⟨⟨x, rfl⟩, h2⟩ := h
  obtain ⟨⟨y, rfl⟩, k2⟩ := k
  exact ⟨⟨x ++ y, by simp⟩, fun s off hs => k2 s off (h2 s off hs)⟩
theorem More.new {S : List (ByteArray × Nat)} {strs : List UInt8} {s : ByteArray} {off : Nat} (hno : offOf s S = none) (more : List UInt8) : More S ((s, off) :: S) strs (strs ++ more) :=
  ⟨⟨more, rfl⟩, fun u o hu => by
    simp only [offOf]
    rw [if_neg (fun e => by rw [← e, hno] at hu; cases hu)]
    exact hu⟩
end Go.Proofs.Ytlbhadggfipckaa
