/-
  laws.FnBroken answers true for every tree, every length and every byte, and leaves memory as it was. No condition.
-/
import Derived.Test.YtlbhadggfipckaaRw
import Derived.Test.YtlbhadggfipckaaLh
import Derived.Test.YtlbhadggfipckaaNb
import Derived.Carry
import Derived.SizedLaws
set_option linter.unusedVariables false
set_option linter.unusedSimpArgs false
namespace Go.Proofs.Ytlbhadggfipckaa
open Go.RowKit

theorem agg_tree7 {w : World} {ok : Nat → Prop} {t : Tr} {v : Value} (h : TreeC w ok t v.cells) : v = .agg v.cells := by
  obtain ⟨A, c, s, B, n, d, C, m, e, hc⟩ := h.form
  have hs := congrArg Array.size hc
  cases v <;> first | rfl | (exfalso; simp [Value.cells] at hs; done)

namespace fnBroken
open Go.ChangeShapes Go.WideShapes Go.ChangeAt Go.RowKit
open Go.ChangeMaps (open_string shut_string)

theorem own : ownKnob Try.prog.godebug = none := by kernel_rfl
theorem laid : laidOutB Try.prog = true := by kernel_rfl
theorem read40 : Try.prog.readableRec 40 = true := by kernel_rfl
theorem lt40 : 40 < Try.prog.types.size := of_decide_eq_true (by kernel_rfl)

set_option maxRecDepth 100000 in
theorem lifted (os : Os) (started : os.Started) (H : Type) (enc : TypeId × Value → H) :
    ReturnsInHanded {} Try.checked os 7 .any (Rows.fnBrokenSpec.pre6 enc Try.prog Try.f7 Rows.fnBrokenRow.domain false) (Rows.fnBrokenSpec.post enc Try.prog Try.f7 false true false false) := by
  refine returnsInHanded_of_change_sized (C := Try.checked) own started (by kernel_rfl) Try.func7
    (ChangeSpec.witness6 (enc := enc) (C := Try.checked) false ⟨#[], #[.agg #[.int .i64 0, .int .i64 0, .int .i64 0, .slice none 0 0, .string .empty, .slice none 0 0, .slice none 0 0], .int .i64 0, .int .u8 0], []⟩ 20 (by kernel_rfl) (by kernel_rfl) (by kernel_rfl) (by kernel_rfl)) ?_
  intro W base args ds gs before hval0 hW hcnd hwt _
  have hval : ∀ (j : Nat) t v, Try.f7.params[j]? = some t → args[j]? = some v → Value.okWide Try.prog W .any base t v := hval0
  have hW' := hW
  obtain ⟨p, q, hA0, hV, rfl, hfz, hnd⟩ := hW
  have hA : DataW.TrodAll enc Try.prog W 0 (fun _ => true) true Try.f7.params.toList args.toList ds p := hA0
  rw [Try.params7] at hA hval
  obtain ⟨v0, vs0, d0, ds0, p0, q0, hargs, rfl, rfl, h0, r0⟩ := trodAll_cons hA
  obtain ⟨v1, vs1, d1, ds1, p1, q1, rfl, rfl, rfl, h1, r1⟩ := trodAll_cons r0
  obtain ⟨v2, vs2, d2, ds2, p2, q2, rfl, rfl, rfl, h2, r2⟩ := trodAll_cons r1
  obtain ⟨rfl, rfl, rfl⟩ := trodAll_nil r2
  obtain rfl : args = #[v0, v1, v2] := by cases args; simp_all
  obtain ⟨rfl, rfl⟩ := trodVars_none hV
  obtain ⟨a1, rfl, rfl, rfl, w1⟩ := open_int Try.underlying3 (hval 1 3 v1 rfl rfl) h1
  obtain ⟨a2, rfl, rfl, rfl, w2⟩ := open_int Try.underlying5 (hval 2 5 v2 rfl rfl) h2
  have hL : Light 40 d0 := fun n hn => by
    have hwt' : (DataW.weightsEach Try.prog (Try.f7.params.toList ++ []) ([d0, .lit (.int .i64 a1), .lit (.int .u8 a2)] ++ [])).all (· ≤ reachBytes) = true := hwt
    rw [Try.params7] at hwt'
    have := List.all_eq_true.1 hwt' n (DataW.weights_mem_each (j := 0) (t := 40) (d := d0) rfl rfl n hn)
    simpa using this
  obtain ⟨fuel, hf⟩ := id h0
  obtain ⟨t, ht⟩ := tree_of hf hL
  have ht : TreeC W (Old W) t v0.cells := ht
  have hag := agg_tree7 ht
  have hlt : ∀ x ∈ p0, x.block < W.heap.size := fun x hx => hW'.lt x (by simp [hx])
  clear hA0 hval0
  simp only [List.append_nil] at hW'
  obtain ⟨b20, b21⟩ := bounds_u8 w2
  obtain ⟨fb, rfl⟩ : ∃ fb : UInt8, a2 = (fb.toNat : Int) := ⟨UInt8.ofNat a2.toNat, by rw [UInt8.toNat_ofNat']; omega⟩
  rw [show (#[v0, .int .i64 a1, .int .u8 (fb.toNat : Int)] : Array Value) = #[.agg v0.cells, .int .i64 a1, .int .u8 (fb.toNat : Int)] from by rw [← hag]]
  refine (fnBroken_walk t v0.cells a1 fb W (Old W) (fun k hk => hk) ht (bounds_i64 w1)).mono fun e W' ⟨he, hg⟩ => ?_
  subst he
  rw [← hag]
  have hargs : ∀ sp : Nat → Bool, (∀ x ∈ p0, sp x.block = true) → DataW.TrodAll enc Try.prog W' 0 sp true [40, 3, 5] [v0, .int .i64 a1, .int .u8 (fb.toNat : Int)] [d0, .lit (.int .i64 a1), .lit (.int .u8 (fb.toNat : Int))] p0 := fun sp hsp => by
    have := trodAll_cons_mk (WideElems.Trod_stays laid read40 lt40 h0 (fun x hx => hg.same (hlt x hx)) (fun x hx => hsp x hx)) (trodAll_cons_mk (shut_int Try.underlying3 w1) (trodAll_cons_mk (shut_int Try.underlying5 w2) (trodAll_mk0 (enc := enc) (P := Try.prog) (w := W') (base := 0) (spare := sp) (held := true))))
    simpa using this
  exact ⟨_, rfl, post_below (pa := p0) (pv := []) hW' (fun _ _ _ => (trodAll_cons_mk (shut_bool Try.underlying4 _) trodAll_mk0)) hargs (fun _ _ => rfl) (by simp)
    hg (ok_one (by kernel_rfl) rfl (okWide_bool_mk Try.underlying4 _))⟩

theorem over : Rows.fnBrokenRow.holds Try.pinned (OpenSpec.ofChange Rows.fnBrokenSpec) :=
  OpenClaim.holds_of_wide 7 Try.f7 rfl rfl rfl rfl rfl rfl rfl ⟨rfl, rfl, rfl, rfl, rfl⟩ rfl rfl rfl rfl rfl (by kernel_rfl) Try.func7 (by kernel_rfl)
    (of_decide_eq_true (by kernel_rfl)) (by unfold Func.isWrapper; first | (rw [if_pos (by decide +kernel)]; kernel_rfl) | (rw [if_neg (by decide +kernel)]; exact ⟨rfl, rfl⟩))
    (fun os started H enc _ => lifted os started H enc)

theorem proved : Rows.FnBrokenSaid :=
  over
#print axioms proved
end fnBroken
end Go.Proofs.Ytlbhadggfipckaa
