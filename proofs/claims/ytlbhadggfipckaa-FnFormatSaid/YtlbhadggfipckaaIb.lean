/-
  The map from a name to its place.
-/
import Derived.Test.YtlbhadggfipckaaIa
import Derived.Maps.OwnOps
import Derived.Maps.Views
set_option linter.unusedVariables false
set_option linter.unusedSimpArgs false
namespace Go.Proofs.Ytlbhadggfipckaa
open Go.RowKit

theorem key9 : Maps.Keyed Try.prog 9 := Maps.string_keyed Try.underlying9
theorem zero22 (w : World) : (zeroValue 22).run Try.prog w = .ok (.int .u32 0) w := by kernel_rfl

/-- The place of a name. -/
def offOf (s : ByteArray) : List (ByteArray × Nat) → Option Nat
  | [] => none
  | p :: r => if p.1 = s then some p.2 else offOf s r

theorem lit_int_inj {a b : Int} (h : (DataW.lit (.int .u32 a) : DataW Unit) = .lit (.int .u32 b)) : a = b := (Lit.int.inj (DataW.lit.inj h)).2

theorem lit_str_ne {s u : ByteArray} (e : ¬ s = u) : (Lit.string s.data.toList) ≠ (Lit.string u.data.toList) := fun h => e (ByteArray.ext (Array.ext' (Lit.string.inj h)))

/-- The map at block m holds just the pairs S (the first one of a name counts). -/
def MapOff (w : World) (m : Nat) (S : List (ByteArray × Nat)) : Prop :=
  ∃ (n : Nat) (D : DataW Unit), w.ownsMap Try.prog 9 (plainElem Try.prog 22) m n D ∧ n ≤ S.length ∧ (∀ p ∈ S, p.2 ≤ 4294967295) ∧ ∀ (s : ByteArray) (zd : DataW Unit), D.atKey (.string s.data.toList) zd = match offOf s S with | some off => .lit (.int .u32 off) | none => zd

theorem MapOff.lt {w : World} {m : Nat} {S : List (ByteArray × Nat)} (h : MapOff w m S) : m < w.heap.size := by
  obtain ⟨n, D, h, -⟩ := h
  exact h.lt

theorem MapOff.keep {w w' : World} {m : Nat} {S : List (ByteArray × Nat)} (h : MapOff w m S) (hb : w'.heap[m]? = w.heap[m]?) : MapOff w' m S := by
  obtain ⟨n, D, ⟨es, clock, h1, h2, h3, h4⟩, rest⟩ := h
  exact ⟨n, D, ⟨es, clock, hb.trans h1, h2, h3, h4⟩, rest⟩

theorem MapOff.new (w : World) : MapOff (w.alloc (.map #[] 0)) w.heap.size [] := ⟨0, .map [], World.ownsMap_made _ _ _ _, by simp, by simp, fun s zd => rfl⟩

theorem MapOff.look {w : World} {m : Nat} {S : List (ByteArray × Nat)} (h : MapOff w m S) {s : ByteArray} (hs : s.size ≤ maxLen) (c : Bool) :
    (Instr.lookup 150 (.map (some m)) (.string s) c).run Try.prog w = .ok (if c then .tuple #[.int .u32 ((offOf s S).getD 0 : Nat), .bool (offOf s S).isSome] else .int .u32 ((offOf s S).getD 0 : Nat)) w := by
  obtain ⟨n, D, ⟨es, clock, h1, F, h3, h4⟩, hn, hb, hat⟩ := h
  have hkey := WideMaps.keyOf_string_mk (P := Try.prog) Try.underlying9 hs
  rcases Maps.fit_look c key9 Try.underlying150 (zero22 w) h1 F hkey with ⟨hrun, _, ha⟩ | ⟨e0, y, _, _, hrun, hR, ha, _⟩
  · rw [← h4] at ha
    have e1 := (ha .nil).symm.trans (hat s .nil)
    cases hl : offOf s S with
    | none => simpa using hrun
    | some off => rw [hl] at e1; cases e1
  · rw [← h4] at ha
    obtain ⟨a, hv, hy, _⟩ := plainElem_int_inv Try.underlying22 hR
    have e1 := (ha .nil).symm.trans (hat s .nil)
    rw [hy] at e1
    cases hl : offOf s S with
    | none => rw [hl] at e1; cases e1
    | some off =>
      rw [hl] at e1
      have e2 := lit_int_inj e1
      subst e2
      rw [hv] at hrun
      simpa using hrun

theorem MapOff.put {w : World} {m : Nat} {S : List (ByteArray × Nat)} (h : MapOff w m S) {s : ByteArray} (hs : s.size ≤ maxLen) {off : Nat} (ho : off ≤ 4294967295) (hl : S.length ≤ 1000000) :
    ∃ w', (Instr.mapUpdate 150 (.map (some m)) (.string s) (.int .u32 (off : Int))).run Try.prog w = .ok () w' ∧ MapOff w' m ((s, off) :: S) ∧ w.grownBy w' (some m) := by
  obtain ⟨n, D, hm, hn, hb, hat⟩ := h
  have hkey := WideMaps.keyOf_string_mk (P := Try.prog) Try.underlying9 hs
  have hD : Maps.IsMap D := by
    obtain ⟨es, clock, _, _, _, h4⟩ := id hm
    exact ⟨_, h4⟩
  have hwf : (Lit.int .u32 (off : Int)).wf = true := by simp [Lit.wf, IntKind.min, IntKind.max, IntKind.signed, IntKind.bits]; omega
  obtain ⟨w', hrun, hm', hg⟩ := hm.update key9 Try.underlying150 (by simp only [maxLen]; omega) hkey (plainElem_int (H := Unit) Try.underlying22 hwf)
  refine ⟨w', hrun, ⟨n + 1, _, hm', by simp; omega, fun p hp => ?_, fun s' zd => ?_⟩, hg⟩
  · rcases List.mem_cons.1 hp with rfl | hp
    · exact ho
    · exact hb p hp
  · by_cases e : s' = s
    · subst e
      rw [Maps.atKey_put_same hD (by simp [WideAt.IsKeyLit])]
      simp [offOf]
    · have hne := lit_str_ne e
      have e' : ¬ s = s' := fun h => e h.symm
      rw [Maps.atKey_put_other hne, hat s' zd]
      simp only [offOf]
      rw [if_neg e']
end Go.Proofs.Ytlbhadggfipckaa
