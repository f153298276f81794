/-
  The contracts of slices.Clone, beUint32, beUint64 on bytes.
-/
import Derived.Test.YtlbhadggfipckaaBa
set_option linter.unusedVariables false
set_option linter.unusedSimpArgs false
namespace Go.Proofs.Ytlbhadggfipckaa
open Go.RowKit

theorem ownsRow_lit0 (w : World) (e : TypeId) (size : Nat) : (w.alloc (.cells #[] e)).ownsRow w.heap.size e size (.slice (some ⟨w.heap.size, 0, none⟩) 0 0) 0 [] :=
  World.ownsRow_made w #[] 0 (Nat.le_refl _) (by simp [maxLen]) (by simp)

def ClonePost (w : World) (l : List UInt8) (e : Ending) (w' : World) : Prop :=
  ∃ v, e = .returned v ∧ w'.ownsRow w.heap.size 5 1 v l.length (l.map bv) ∧ Below w.heap.size w w'

theorem clone_any (w : World) (v : Value) (l : List UInt8) (h : SlB w v l) (hl : l.length ≤ 140737488355328) :
    Calls Try.prog 27 #[v] w (ClonePost w l) := by
  obtain ⟨A, cap, rfl, hcap, hm, hr⟩ := h
  have hin := fun (w : World) (a : Option Addr) (n c : Nat) => Lib.run_eql_slice_nil (P := Try.prog) w 24 5 a n c 0 0 Try.underlying24
  have hr' : Rd (w.alloc (.cells #[] 5)) A (l.map bv) := hr.alloc
  go_enter Try.func27, Try.ntmps27
  go_wp2_with (at_builtin; go_must (refine wpList_append_el el24 rfl (.tmp 5) (.tmp 6) rfl w.heap.size (.slice (some ⟨w.heap.size, 0, none⟩) 0 0) 0 [] rfl (ownsRow_lit0 w 5 1) A l.length cap (l.map bv) rfl (by simp) hr' (bv_one l) (by omega) (by omega) (by simp) ?_); intro v' w1 hown hgrow hnil hat)
  · go_ret
    have hA : A.isNone = true := by assumption
    obtain rfl : A = none := by simpa using hA
    obtain rfl : l = [] := hr.nil
    exact ⟨_, rfl, World.ownsRow_nil _ _ _ _, Below.refl _ _⟩
  · go_ret
    exact ⟨v', rfl, by simpa using hown, ((Below.refl _ _).alloc (Nat.le_refl _) _).grown hgrow (by simp) (by simp [Value.ownBlock])⟩
end Go.Proofs.Ytlbhadggfipckaa
