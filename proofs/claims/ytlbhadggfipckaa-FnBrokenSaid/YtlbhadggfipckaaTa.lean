/-
  The contracts of impl.try and of small helpers that all laws use.
-/
import Derived.Test.YtlbhadggfipckaaRows
import Derived.WalkKit
import Derived.WalkLawsBesides
import Derived.WalkSpells
import Derived.Lib.Hide
import Derived.Deep.LoopGhost
set_option linter.unusedVariables false
set_option linter.unusedSimpArgs false
namespace Go.Proofs.Ytlbhadggfipckaa
open Go.RowKit

theorem try_catch_idle (p : Addr) (w : World) :
    CallsD Try.prog 53 #[.pointer (some p)] .returning w fun e u' w' => e = .returned (.tuple #[]) ∧ u' = .returning ∧ w = w' := by
  refine callsD_of_wpS Try.func53 rfl fun c₀ cs hu => ?_
  apply wpS_seq
  apply wpS_region
  simp [wpOpsS, go_sem, recoverD, hu, Try.ntmps53, Exit.thenS]
  refine wpS_cond (t := false) (by simp [Act.eval, Array.replicate]) ?_
  simp only [Bool.false_eq_true, if_false]
  refine wpS_of_wp (wp_skip ?_)
  cases c₀
  simp_all [bodyPostS, results, Try.results53]

def TryPost (w : World) (R : Bool → World → Prop) (e : Ending) (w' : World) : Prop :=
  ∃ b w1, e = .returned (.bool b) ∧ R b w1 ∧ w' = w1.setCell ⟨w.heap.size, 0, none⟩ (.bool b)

def TryPre (w : World) (R : Bool → World → Prop) (e : Ending) (w' : World) : Prop :=
  ∃ b, e = .returned (.bool b) ∧ w'.cell? ⟨w.heap.size, 0, none⟩ = some (.bool false) ∧ w'.frozen? ⟨w.heap.size, 0, none⟩ = false ∧ R b w'

theorem try_ok {g : FuncId} {cap : Array Value} {w : World} {R : Bool → World → Prop}
    (hcf : ∀ w, (callFunc g cap).run Try.prog w = .ok (.enter g cap) w)
    (h : Calls Try.prog g cap (w.alloc (.cells #[.bool false] 4)) (TryPre w R)) :
    Calls Try.prog 25 #[.func (.func g) #[] cap] w (TryPost w R) := by
  have hmf : ∀ (fn : Fn) (first cap : Array Value) (w : World), (Instr.makeFunc fn first cap).run Try.prog w = .ok (.func fn first cap) w := fun _ _ _ _ => rfl
  have H := Lib.hid h
  clear h
  go_enter_defers Try.func25, Try.ntmps25
  go_wp2_with fail
  refine H.out.mono ?_
  rintro e w' ⟨b, rfl, hc, hf, hR⟩
  go_wp2_with fail
  refine leaves_cons (f := 53) (args := #[.pointer (some ⟨w.heap.size, 0, none⟩)]) (by simp) (by simp [go_sem]) ?_
  refine (try_catch_idle ⟨w.heap.size, 0, none⟩ _).mono ?_
  rintro e u' w'' ⟨rfl, rfl, rfl⟩
  have hcell : (w'.setCell ⟨w.heap.size, 0, none⟩ (.bool b)).cell? ⟨w.heap.size, 0, none⟩ = some (.bool b) := World.cell?_setCell_same _ _ _ hc
  simp [Leaves, settle, results, Try.results25, go_sem, hcell]
  exact ⟨b, w', rfl, hR, rfl⟩
end Go.Proofs.Ytlbhadggfipckaa
