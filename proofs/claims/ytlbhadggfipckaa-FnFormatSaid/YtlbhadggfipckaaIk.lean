/-
  impl.Format.
-/
import Derived.Test.YtlbhadggfipckaaIj
set_option linter.unusedVariables false
set_option linter.unusedSimpArgs false
namespace Go.Proofs.Ytlbhadggfipckaa
open Go.RowKit

def FormatPost (w : World) (t : Tr) (e : Ending) (w' : World) : Prop :=
  ∃ v out, e = .returned (.tuple #[v, .bool true]) ∧ Below w.heap.size w w' ∧ w'.ownsRow w.heap.size 5 1 v out.length (out.map bv) ∧ Fmt t.ver t.lc t.boot t.rooms t.root out

set_option maxHeartbeats 1000000 in
theorem format_walk (t : Tr) (cs : Array Value) (w : World) (ok : Nat → Prop) (hok : ∀ k, ok k → k < w.heap.size) (ht : TreeC w ok t cs) (hfit : FitsP t) :
    Calls Try.prog 20 #[.agg cs] w (FormatPost w t) := by
  have hmf : ∀ (fn : Fn) (first cap : Array Value) (w : World), (Instr.makeFunc fn first cap).run Try.prog w = .ok (.func fn first cap) w := fun _ _ _ _ => rfl
  obtain ⟨A, c, s1, A3, n3, c3, A4, n4, c4, rfl⟩ := ht.form
  have b1 : 0 ≤ t.ver ∧ t.ver < 100 := by have := hfit.2.2.1; omega
  have b2 : 0 ≤ t.lc ∧ t.lc < 100 := by have := hfit.2.2.2.1; omega
  have b3 := hfit.2.2.2.2.1
  have b4 := hfit.2.2.2.2.2.1
  have HT := Lib.hid ht
  have Hfit := Lib.hid hfit
  clear ht hfit
  go_enter Try.func20, Try.ntmps20
  go_wp2_with fail
  refine (word_walk _ t.ver (by omega) (by omega)).mono ?_
  rintro e w1 ⟨rfl, rfl⟩
  go_wp2_with fail
  refine (word_walk _ t.lc (by omega) (by omega)).mono ?_
  rintro e w1 ⟨rfl, rfl⟩
  go_wp2_with fail
  refine (word_walk _ t.boot (by omega) (by omega)).mono ?_
  rintro e w1 ⟨rfl, rfl⟩
  go_wp2_with fail
  generalize hW : (w.alloc (.cells #[.int .i64 t.ver, .int .i64 t.lc, .int .i64 t.boot, .slice A t.rooms.length c, .string s1, .slice A3 n3 c3, .slice A4 n4 c4] 40)).alloc (.cells #[.slice none 0 0] 24) = W
  have hWs : W.heap.size = w.heap.size + 2 := by rw [← hW]; simp
  have hWb : Below w.heap.size w W := by rw [← hW]; exact ((Below.refl _ _).alloc (Nat.le_refl _) _).alloc (by simp) _
  have hW0 : Cs W w.heap.size #[.int .i64 t.ver, .int .i64 t.lc, .int .i64 t.boot, .slice A t.rooms.length c, .string s1, .slice A3 n3 c3, .slice A4 n4 c4] := by rw [← hW]; exact (Cs.new _ _ _).alloc _
  have hW1 : Cs W (w.heap.size + 1) #[.slice none 0 0] := by rw [← hW]; exact Cs.new' _ _ _ _ (by simp)
  have hWt : Below w.heap.size w (W.alloc (.cells #[.bool false] 4)) := hWb.alloc (by omega) _
  clear hW
  refine (try_ok (R := fun b w1 => b = true ∧ Fr (W.heap.size + 1) (· = w.heap.size + 1) (W.alloc (.cells #[.bool false] 4)) w1 ∧ ∃ v out, Cs w1 (w.heap.size + 1) #[v] ∧ w1.ownsRow (W.heap.size + 1) 5 1 v out.length (out.map bv) ∧ Fmt t.ver t.lc t.boot t.rooms t.root out) (fun _ => by kernel_rfl) ?_).mono ?_
  · refine (fmt1_walk (W.alloc (.cells #[.bool false] 4)) ok t _ w.heap.size (w.heap.size + 1) (.slice none 0 0) (fun x hx => by have := hok x hx; simp; omega) (fun hx => by have := hok _ hx; omega) (HT.out.mono (Same.of_below hWt hok) (fun _ h => h)) (hW0.alloc _) (hW1.alloc _) (by omega) Hfit.out).mono ?_
    rintro e w1 ⟨rfl, hf, v, out, hv, hl⟩
    have hsz : (W.alloc (.cells #[.bool false] 4)).heap.size = W.heap.size + 1 := by simp
    rw [hsz] at hf hl
    exact ⟨_, rfl, (hf.cell (by omega) (by omega)).trans (by simp [go_sem]), ((Cs.new W 4 #[.bool false]).fr hf (by omega) (by omega)).frozen 0, rfl, hf, v, out, hv, hl⟩
  · rintro e w2 ⟨b, w1, rfl, ⟨rfl, hf, v, out, hv, hl, hfmt⟩, rfl⟩
    obtain ⟨A5, c5, rfl⟩ := own_slice hl
    have q := hv.far (p := ⟨W.heap.size, 0, none⟩) (by simp; omega) (.bool true)
    have hBw : Below w.heap.size w (w1.setCell ⟨W.heap.size, 0, none⟩ (.bool true)) := (hWt.trans (hf.below (by omega) (by omega))).setCell (by simp; omega) _
    have hl2 : (w1.setCell ⟨W.heap.size, 0, none⟩ (.bool true)).ownsRow (W.heap.size + 1) 5 1 (.slice A5 out.length c5) out.length (out.map bv) := ownsRow_setCell_below (a := ⟨W.heap.size, 0, none⟩) hl (by simp) _
    have c0 := q.cell 0
    have f0 := q.frozen 0
    simp at c0
    generalize w1.setCell ⟨W.heap.size, 0, none⟩ (.bool true) = w3 at *
    have hl3 : (w3.setCell ⟨w.heap.size + 1, 0, none⟩ (.slice A5 out.length c5)).ownsRow (W.heap.size + 1) 5 1 (.slice A5 out.length c5) out.length (out.map bv) := ownsRow_setCell_below (a := ⟨w.heap.size + 1, 0, none⟩) hl2 (by show w.heap.size + 1 < W.heap.size + 1; omega) _
    have HFIN := Lib.hid (show FormatPost w t (.returned (.tuple #[.slice A5 out.length c5, .bool true])) (w3.setCell ⟨w.heap.size + 1, 0, none⟩ (.slice A5 out.length c5)) from ⟨_, out, rfl, hBw.setCell (by simp) _, own_mono hl3 (by omega), hfmt⟩)
    clear hf hv hl hl2 hl3 hBw hW0 hW1 hWt hWb hfmt
    go_wp2_with fail
    have c1 := (q.set_ 0 (.slice A5 out.length c5)).cell 0
    simp at c1
    refine bodyPost_ret (v := .tuple #[.slice A5 out.length c5, .bool true]) (by simp [results, Try.results20, go_sem, c1]) rfl ?_
    exact HFIN.out
end Go.Proofs.Ytlbhadggfipckaa
