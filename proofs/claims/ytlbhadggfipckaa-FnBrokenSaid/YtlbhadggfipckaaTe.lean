/-
  laws.works answers true.
-/
import Derived.Test.YtlbhadggfipckaaTd
set_option linter.unusedVariables false
set_option linter.unusedSimpArgs false
namespace Go.Proofs.Ytlbhadggfipckaa
open Go.RowKit

theorem works_true (w : World) : Calls Try.prog 12 #[] w fun e w' => e = .returned (.bool true) ∧ Below w.heap.size w w' := by
  go_enter Try.func12, Try.ntmps12
  go_wp2_with fail
  refine (u32_any _ (.slice (some ⟨w.heap.size, 0, none⟩) 4 4) 0 0 1 2 ?_).mono ?_
  · refine ⟨some ⟨w.heap.size, 0, none⟩, 4, rfl, by simp, by simp [maxLen], .inr ⟨_, _, rfl, fun j u hu => ?_⟩⟩
    match j, hu with
    | 0, hu => cases hu; simp [go_sem]
    | 1, hu => cases hu; simp [go_sem]
    | 2, hu => cases hu; simp [go_sem]
    | 3, hu => cases hu; simp [go_sem]
    | j + 4, hu => simp at hu
  · rintro e w1 ⟨rfl, hb⟩
    have hb' : Below w.heap.size w w1 := (((Below.refl w.heap.size w).alloc (Nat.le_refl _) _)).trans (hb.mono (by simp))
    clear hb
    rw [show be32 0 0 1 2 = 258 from rfl]
    go_wp2_with fail
    go_ret
    exact ⟨rfl, hb'⟩
end Go.Proofs.Ytlbhadggfipckaa
