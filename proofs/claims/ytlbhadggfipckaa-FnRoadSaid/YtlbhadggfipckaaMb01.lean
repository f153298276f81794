/-
  laws.FnRoad answers true for every tree, and leaves memory as it was. No condition.
-/
import Derived.Test.YtlbhadggfipckaaMa00
import Derived.Test.YtlbhadggfipckaaMb00
import Derived.Test.YtlbhadggfipckaaMa02
import Derived.Carry
import Derived.SizedLaws
set_option linter.unusedVariables false
set_option linter.unusedSimpArgs false
namespace Go.Proofs.Ytlbhadggfipckaa
open Go.RowKit

theorem agg_tree9 {w : World} {ok : Nat → Prop} {t : Tr} {v : Value} (h : TreeC w ok t v.cells) : v = .agg v.cells := by
  obtain ⟨A, c, s, B, n, d, C, m, e, hc⟩ := h.form
  have hs := congrArg Array.size hc
  cases v <;> first | rfl | (exfalso; simp [Value.cells] at hs; done)

namespace fnRoad
open Go.ChangeShapes Go.WideShapes Go.ChangeAt Go.RowKit
open Go.ChangeMaps (open_string shut_string)

theorem own : ownKnob Try.prog.godebug = none := by kernel_rfl
theorem laid : laidOutB Try.prog = true := by kernel_rfl
theorem read40 : Try.prog.readableRec 40 = true := by kernel_rfl
theorem lt40 : 40 < Try.prog.types.size := of_decide_eq_true (by kernel_rfl)

set_option maxRecDepth 100000 in
theorem lifted (os : Os) (started : os.Started) (H : Type) (enc : TypeId × Value → H) :
    ReturnsInHanded {} Try.checked os 9 .any (Rows.fnRoadSpec.pre6 enc Try.prog Try.f9 Rows.fnRoadRow.domain false) (Rows.fnRoadSpec.post enc Try.prog Try.f9 false true false false) := by
  refine returnsInHanded_of_change_sized (C := Try.checked) own started (by kernel_rfl) Try.func9
    (ChangeSpec.witness6 (enc := enc) (C := Try.checked) false ⟨#[], #[.agg #[.int .i64 0, .int .i64 0, .int .i64 0, .slice none 0 0, .string .empty, .slice none 0 0, .slice none 0 0]], []⟩ 20 (by kernel_rfl) (by kernel_rfl) (by kernel_rfl) (by kernel_rfl)) ?_
  intro W base args ds gs before hval0 hW hcnd hwt _
  have hval : ∀ (j : Nat) t v, Try.f9.params[j]? = some t → args[j]? = some v → Value.okWide Try.prog W .any base t v := hval0
  have hW' := hW
  obtain ⟨p, q, hA0, hV, rfl, hfz, hnd⟩ := hW
  have hA : DataW.TrodAll enc Try.prog W 0 (fun _ => true) true Try.f9.params.toList args.toList ds p := hA0
  rw [Try.params9] at hA hval
  obtain ⟨v0, vs0, d0, ds0, p0, q0, hargs, rfl, rfl, h0, r0⟩ := trodAll_cons hA
  obtain ⟨rfl, rfl, rfl⟩ := trodAll_nil r0
  obtain rfl : args = #[v0] := by cases args; simp_all
  obtain ⟨rfl, rfl⟩ := trodVars_none hV
  have hL : Light 40 d0 := fun n hn => by
    have hwt' : (DataW.weightsEach Try.prog (Try.f9.params.toList ++ []) ([d0] ++ [])).all (· ≤ reachBytes) = true := hwt
    rw [Try.params9] at hwt'
    have := List.all_eq_true.1 hwt' n (DataW.weights_mem_each (j := 0) (t := 40) (d := d0) rfl rfl n hn)
    simpa using this
  obtain ⟨fuel, hf⟩ := id h0
  obtain ⟨t, ht⟩ := tree_of hf hL
  have ht : TreeC W (Old W) t v0.cells := ht
  have hag := agg_tree9 ht
  have hlt : ∀ x ∈ p0, x.block < W.heap.size := fun x hx => hW'.lt x (by simp [hx])
  clear hA0 hval0
  simp only [List.append_nil] at hW'
  rw [show (#[v0] : Array Value) = #[.agg v0.cells] from by rw [← hag]]
  refine (fnRoad_walk t v0.cells W (Old W) (fun k hk => hk) ht).mono fun e W' ⟨he, hg⟩ => ?_
  subst he
  rw [← hag]
  have hargs : ∀ sp : Nat → Bool, (∀ x ∈ p0, sp x.block = true) → DataW.TrodAll enc Try.prog W' 0 sp true [40] [v0] [d0] p0 := fun sp hsp => by
    have := trodAll_cons_mk (WideElems.Trod_stays laid read40 lt40 h0 (fun x hx => hg.same (hlt x hx)) (fun x hx => hsp x hx)) (trodAll_mk0 (enc := enc) (P := Try.prog) (w := W') (base := 0) (spare := sp) (held := true))
    simpa using this
  exact ⟨_, rfl, post_below (pa := p0) (pv := []) hW' (fun _ _ _ => (trodAll_cons_mk (shut_bool Try.underlying4 _) trodAll_mk0)) hargs (fun _ _ => rfl) (by simp)
    hg (ok_one (by kernel_rfl) rfl (okWide_bool_mk Try.underlying4 _))⟩

theorem over : Rows.fnRoadRow.holds Try.pinned (OpenSpec.ofChange Rows.fnRoadSpec) :=
  OpenClaim.holds_of_wide 9 Try.f9 rfl rfl rfl rfl rfl rfl rfl ⟨rfl, rfl, rfl, rfl, rfl⟩ rfl rfl rfl rfl rfl (by kernel_rfl) Try.func9 (by kernel_rfl)
    (of_decide_eq_true (by kernel_rfl)) (by unfold Func.isWrapper; first | (rw [if_pos (by decide +kernel)]; kernel_rfl) | (rw [if_neg (by decide +kernel)]; exact ⟨rfl, rfl⟩))
    (fun os started H enc _ => lifted os started H enc)

theorem proved : Rows.FnRoadSaid :=
  over
#print axioms proved
end fnRoad
end Go.Proofs.Ytlbhadggfipckaa
