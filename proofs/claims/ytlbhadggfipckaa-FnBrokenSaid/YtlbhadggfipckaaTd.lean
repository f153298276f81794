/-
  Property.AsU32, Property.AsU64 of values of four and eight bytes; the closures that call them; impl.U32, impl.U64.
-/
import Derived.Test.YtlbhadggfipckaaTc
import Derived.Test.YtlbhadggfipckaaTa
set_option linter.unusedVariables false
set_option linter.unusedSimpArgs false
namespace Go.Proofs.Ytlbhadggfipckaa
open Go.RowKit

theorem asU32 (w : World) (p b o cap : Nat) (x0 x1 x2 x3 : UInt8) (hcap : 4 ≤ cap) (hm : cap ≤ 9223372036854775807) (hv : w.cell? ⟨p, 1, none⟩ = some (.slice (some ⟨b, o, none⟩) 4 cap))
    (h0 : w.cell? ⟨b, o, none⟩ = some (bv x0)) (h1 : w.cell? ⟨b, o + 1, none⟩ = some (bv x1)) (h2 : w.cell? ⟨b, o + 2, none⟩ = some (bv x2)) (h3 : w.cell? ⟨b, o + 3, none⟩ = some (bv x3)) :
    Calls Try.prog 28 #[.pointer (some ⟨p, 0, none⟩)] w fun e w' => e = .returned (.tuple #[.int .u32 (be32 x0 x1 x2 x3), .nilIface]) ∧ ∃ k, w' = w.drewN k := by
  go_enter Try.func28, Try.ntmps28
  go_wp2_with (go_at_call 55; refine (beU32 _ b o 4 cap x0 x1 x2 x3 (by omega) hcap hm (by simp [*]) (by simp [*]) (by simp [*]) (by simp [*])).mono ?_; rintro e w' ⟨rfl, k, rfl⟩)
  go_ret2
  exact ⟨rfl, _, rfl⟩

theorem asU64 (w : World) (p b o cap : Nat) (x0 x1 x2 x3 x4 x5 x6 x7 : UInt8) (hcap : 8 ≤ cap) (hm : cap ≤ 9223372036854775807) (hv : w.cell? ⟨p, 1, none⟩ = some (.slice (some ⟨b, o, none⟩) 8 cap))
    (h0 : w.cell? ⟨b, o, none⟩ = some (bv x0)) (h1 : w.cell? ⟨b, o + 1, none⟩ = some (bv x1)) (h2 : w.cell? ⟨b, o + 2, none⟩ = some (bv x2)) (h3 : w.cell? ⟨b, o + 3, none⟩ = some (bv x3))
    (h4 : w.cell? ⟨b, o + 4, none⟩ = some (bv x4)) (h5 : w.cell? ⟨b, o + 5, none⟩ = some (bv x5)) (h6 : w.cell? ⟨b, o + 6, none⟩ = some (bv x6)) (h7 : w.cell? ⟨b, o + 7, none⟩ = some (bv x7)) :
    Calls Try.prog 30 #[.pointer (some ⟨p, 0, none⟩)] w fun e w' => e = .returned (.tuple #[.int .u64 ((be32 x0 x1 x2 x3 * 4294967296 + be32 x4 x5 x6 x7 : Nat) : Int), .nilIface]) ∧ ∃ k, w' = w.drewN k := by
  go_enter Try.func30, Try.ntmps30
  go_wp2_with (go_at_call 56; refine (beU64 _ b o 8 cap x0 x1 x2 x3 x4 x5 x6 x7 (by omega) hcap hm (by simp [*]) (by simp [*]) (by simp [*]) (by simp [*]) (by simp [*]) (by simp [*]) (by simp [*]) (by simp [*])).mono ?_; rintro e w' ⟨rfl, k, rfl⟩)
  go_ret2
  exact ⟨rfl, _, rfl⟩

/-- The closure in impl.U32: it reads v at block p0, writes n at block p1. -/
def ClosPost (w : World) (p1 : Nat) (x : Value) (e : Ending) (w' : World) : Prop :=
  ∃ w1, e = .returned (.bool true) ∧ Below w.heap.size w w1 ∧ w' = w1.setCell ⟨p1, 0, none⟩ x

theorem closU32 (w : World) (p0 p1 : Nat) (v : Value) (x0 x1 x2 x3 : UInt8) (hv : w.cell? ⟨p0, 0, none⟩ = some v) (y : Value) (hn : w.cell? ⟨p1, 0, none⟩ = some y) (hf : w.frozen? ⟨p1, 0, none⟩ = false)
    (hs : SlB w v [x0, x1, x2, x3]) :
    Calls Try.prog 26 #[.pointer (some ⟨p0, 0, none⟩), .pointer (some ⟨p1, 0, none⟩)] w (ClosPost w p1 (.int .u32 (be32 x0 x1 x2 x3))) := by
  have hb : p1 < w.heap.size := World.block_lt_of_cell? w _ hn
  go_enter Try.func26, Try.ntmps26
  go_wp2_with fail
  refine (clone_any w v _ hs (by simp)).mono ?_
  rintro e w1 ⟨v', rfl, hown, hbl⟩
  obtain ⟨g, cap, rfl, hg, hlt⟩ := hown.form (by simp)
  have c0 : w1.cell? ⟨g, 0, none⟩ = some (bv x0) := by simpa using hown.cellAt 0 (by simp)
  have c1 : w1.cell? ⟨g, 1, none⟩ = some (bv x1) := by simpa using hown.cellAt 1 (by simp)
  have c2 : w1.cell? ⟨g, 2, none⟩ = some (bv x2) := by simpa using hown.cellAt 2 (by simp)
  have c3 : w1.cell? ⟨g, 3, none⟩ = some (bv x3) := by simpa using hown.cellAt 3 (by simp)
  have hcap := own_cap hown
  have cn : w1.cell? ⟨p1, 0, none⟩ = some y := (hbl.cell (p := ⟨p1, 0, none⟩) hb).trans hn
  have fn : w1.frozen? ⟨p1, 0, none⟩ = false := (hbl.frozen (p := ⟨p1, 0, none⟩) hb).trans hf
  have hb1 : p1 < w1.heap.size := Nat.lt_of_lt_of_le hb hbl.size
  go_wp2_with fail
  refine (asU32 _ w1.heap.size g 0 cap x0 x1 x2 x3 hcap.1 (by have := hcap.2; simp only [maxLen] at this; omega) ?_ ?_ ?_ ?_ ?_).mono ?_
  iterate 5 (simp [World.cell?_alloc_lt, *])
  rintro e w2 ⟨rfl, k, rfl⟩
  go_wp2_with fail
  go_ret
  exact ⟨_, rfl, (blw_drewN (hbl.alloc hbl.size _) k), rfl⟩

theorem closU64 (w : World) (p0 p1 : Nat) (v : Value) (x0 x1 x2 x3 x4 x5 x6 x7 : UInt8) (hv : w.cell? ⟨p0, 0, none⟩ = some v) (y : Value) (hn : w.cell? ⟨p1, 0, none⟩ = some y) (hf : w.frozen? ⟨p1, 0, none⟩ = false)
    (hs : SlB w v [x0, x1, x2, x3, x4, x5, x6, x7]) :
    Calls Try.prog 29 #[.pointer (some ⟨p0, 0, none⟩), .pointer (some ⟨p1, 0, none⟩)] w (ClosPost w p1 (.int .u64 ((be32 x0 x1 x2 x3 * 4294967296 + be32 x4 x5 x6 x7 : Nat) : Int))) := by
  have hb : p1 < w.heap.size := World.block_lt_of_cell? w _ hn
  go_enter Try.func29, Try.ntmps29
  go_wp2_with fail
  refine (clone_any w v _ hs (by simp)).mono ?_
  rintro e w1 ⟨v', rfl, hown, hbl⟩
  obtain ⟨g, cap, rfl, hg, hlt⟩ := hown.form (by simp)
  have c0 : w1.cell? ⟨g, 0, none⟩ = some (bv x0) := by simpa using hown.cellAt 0 (by simp)
  have c1 : w1.cell? ⟨g, 1, none⟩ = some (bv x1) := by simpa using hown.cellAt 1 (by simp)
  have c2 : w1.cell? ⟨g, 2, none⟩ = some (bv x2) := by simpa using hown.cellAt 2 (by simp)
  have c3 : w1.cell? ⟨g, 3, none⟩ = some (bv x3) := by simpa using hown.cellAt 3 (by simp)
  have c4 : w1.cell? ⟨g, 4, none⟩ = some (bv x4) := by simpa using hown.cellAt 4 (by simp)
  have c5 : w1.cell? ⟨g, 5, none⟩ = some (bv x5) := by simpa using hown.cellAt 5 (by simp)
  have c6 : w1.cell? ⟨g, 6, none⟩ = some (bv x6) := by simpa using hown.cellAt 6 (by simp)
  have c7 : w1.cell? ⟨g, 7, none⟩ = some (bv x7) := by simpa using hown.cellAt 7 (by simp)
  have hcap := own_cap hown
  have cn : w1.cell? ⟨p1, 0, none⟩ = some y := (hbl.cell (p := ⟨p1, 0, none⟩) hb).trans hn
  have fn : w1.frozen? ⟨p1, 0, none⟩ = false := (hbl.frozen (p := ⟨p1, 0, none⟩) hb).trans hf
  have hb1 : p1 < w1.heap.size := Nat.lt_of_lt_of_le hb hbl.size
  go_wp2_with fail
  refine (asU64 _ w1.heap.size g 0 cap x0 x1 x2 x3 x4 x5 x6 x7 hcap.1 (by have := hcap.2; simp only [maxLen] at this; omega) ?_ ?_ ?_ ?_ ?_ ?_ ?_ ?_ ?_).mono ?_
  iterate 9 (simp [World.cell?_alloc_lt, *])
  rintro e w2 ⟨rfl, k, rfl⟩
  go_wp2_with fail
  go_ret
  exact ⟨_, rfl, (blw_drewN (hbl.alloc hbl.size _) k), rfl⟩

def NumPost (w : World) (x : Value) (e : Ending) (w' : World) : Prop := e = .returned (.tuple #[x, .bool true]) ∧ Below w.heap.size w w'

/-- What stands behind impl.try in U32, U64, Text: the variable at block p holds x. -/
def VarPost (B : Nat) (w0 : World) (p : Nat) (x : Value) (e : Ending) (w' : World) : Prop :=
  e = .returned (.bool true) ∧ Below B w0 w' ∧ w'.cell? ⟨p, 0, none⟩ = some x ∧ w'.frozen? ⟨p, 0, none⟩ = false

/-- impl.try over a closure that writes the variable at block p. -/
theorem try_var {g : FuncId} {cap : Array Value} {w : World} {p : Nat} {x y : Value} {B : Nat} (hB : B ≤ p) (hc : w.cell? ⟨p, 0, none⟩ = some y) (hf : w.frozen? ⟨p, 0, none⟩ = false)
    (hcf : ∀ w, (callFunc g cap).run Try.prog w = .ok (.enter g cap) w)
    (h : Calls Try.prog g cap (w.alloc (.cells #[.bool false] 4)) (ClosPost (w.alloc (.cells #[.bool false] 4)) p x)) :
    Calls Try.prog 25 #[.func (.func g) #[] cap] w (VarPost B w p x) := by
  have hp : p < w.heap.size := World.block_lt_of_cell? w _ hc
  refine (try_ok (R := fun b w1 => b = true ∧ ∃ w2, Below (w.heap.size + 1) (w.alloc (.cells #[.bool false] 4)) w2 ∧ w1 = w2.setCell ⟨p, 0, none⟩ x) hcf (h.mono ?_)).mono ?_
  · rintro e w' ⟨w1, rfl, hb, rfl⟩
    refine ⟨true, rfl, ?_, ?_, rfl, w1, by simpa using hb, rfl⟩
    · rw [World.cell?_setCell_other _ _ _ _ (by intro hh; injection hh; omega), hb.cell (by simp)]
      simp
    · rw [World.frozen?_setCell, hb.frozen (by simp)]
      simp
  · rintro e w' ⟨b, w1, rfl, ⟨rfl, w2, hb, rfl⟩, rfl⟩
    have hb0 : Below w.heap.size w w2 := ((Below.refl _ _).alloc (Nat.le_refl _) _).trans (hb.mono (by omega))
    have c1 : w2.cell? ⟨p, 0, none⟩ = some y := (hb0.cell (p := ⟨p, 0, none⟩) hp).trans hc
    refine ⟨rfl, (((hb0.mono (by omega)).setCell (by simpa using hB) _).setCell (by simp; omega) _), ?_, ?_⟩
    · rw [World.cell?_setCell_other _ _ _ _ (by intro hh; injection hh; omega)]
      exact World.cell?_setCell_same _ _ _ c1
    · rw [World.frozen?_setCell, World.frozen?_setCell]
      exact (hb0.frozen (p := ⟨p, 0, none⟩) hp).trans hf

theorem u32_any (w : World) (v : Value) (x0 x1 x2 x3 : UInt8) (hs : SlB w v [x0, x1, x2, x3]) :
    Calls Try.prog 10 #[v] w (NumPost w (.int .u32 (be32 x0 x1 x2 x3))) := by
  have hmf : ∀ (fn : Fn) (first cap : Array Value) (w : World), (Instr.makeFunc fn first cap).run Try.prog w = .ok (.func fn first cap) w := fun _ _ _ _ => rfl
  obtain ⟨A, cap, rfl, hs'⟩ := id hs
  go_enter Try.func10, Try.ntmps10
  go_wp2_with fail
  refine (try_var (B := w.heap.size) (p := w.heap.size + 1) (x := .int .u32 (be32 x0 x1 x2 x3)) (by omega) (y := .int .u32 0) (by simp [go_sem]) (by simp [go_sem]) (fun _ => by kernel_rfl) ?_).mono ?_
  · refine closU32 _ w.heap.size (w.heap.size + 1) (.slice A 4 cap) x0 x1 x2 x3 ?_ (.int .u32 0) ?_ ?_ (hs.below ?_)
    iterate 3 (simp [go_sem])
    exact ((((Below.refl w.heap.size w).alloc (Nat.le_refl _) _).alloc (by simp) _).alloc (by simp; omega) _)
  · rintro e w3 ⟨rfl, hb, hc, hf⟩
    have hb' : Below w.heap.size w w3 := (((Below.refl _ _).alloc (Nat.le_refl _) _).alloc (by simp) _).trans hb
    clear hb hmf
    go_wp2_with fail
    refine bodyPost_ret (v := .tuple #[.int .u32 (be32 x0 x1 x2 x3), .bool true]) (by simp [results, Try.results10, go_sem, World.cell?_setCell_same _ _ _ hc]) rfl ⟨rfl, hb'.setCell (by simp) _⟩

theorem u64_any (w : World) (v : Value) (x0 x1 x2 x3 x4 x5 x6 x7 : UInt8) (hs : SlB w v [x0, x1, x2, x3, x4, x5, x6, x7]) :
    Calls Try.prog 11 #[v] w (NumPost w (.int .u64 ((be32 x0 x1 x2 x3 * 4294967296 + be32 x4 x5 x6 x7 : Nat) : Int))) := by
  have hmf : ∀ (fn : Fn) (first cap : Array Value) (w : World), (Instr.makeFunc fn first cap).run Try.prog w = .ok (.func fn first cap) w := fun _ _ _ _ => rfl
  obtain ⟨A, cap, rfl, hs'⟩ := id hs
  go_enter Try.func11, Try.ntmps11
  go_wp2_with fail
  refine (try_var (B := w.heap.size) (p := w.heap.size + 1) (x := .int .u64 ((be32 x0 x1 x2 x3 * 4294967296 + be32 x4 x5 x6 x7 : Nat) : Int)) (by omega) (y := .int .u64 0) (by simp [go_sem]) (by simp [go_sem]) (fun _ => by kernel_rfl) ?_).mono ?_
  · refine closU64 _ w.heap.size (w.heap.size + 1) (.slice A 8 cap) x0 x1 x2 x3 x4 x5 x6 x7 ?_ (.int .u64 0) ?_ ?_ (hs.below ?_)
    iterate 3 (simp [go_sem])
    exact ((((Below.refl w.heap.size w).alloc (Nat.le_refl _) _).alloc (by simp) _).alloc (by simp; omega) _)
  · rintro e w3 ⟨rfl, hb, hc, hf⟩
    have hb' : Below w.heap.size w w3 := (((Below.refl _ _).alloc (Nat.le_refl _) _).alloc (by simp) _).trans hb
    clear hb hmf
    go_wp2_with fail
    refine bodyPost_ret (v := .tuple #[.int .u64 ((be32 x0 x1 x2 x3 * 4294967296 + be32 x4 x5 x6 x7 : Nat) : Int), .bool true]) (by simp [results, Try.results11, go_sem, World.cell?_setCell_same _ _ _ hc]) rfl ⟨rfl, hb'.setCell (by simp) _⟩
end Go.Proofs.Ytlbhadggfipckaa
