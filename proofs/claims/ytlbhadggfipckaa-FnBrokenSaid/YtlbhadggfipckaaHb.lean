/-
  The writers: ZZBuffer.Write, AlignWriter.Write, write.
-/
import Derived.Test.YtlbhadggfipckaaHa
set_option linter.unusedVariables false
set_option linter.unusedSimpArgs false
namespace Go.Proofs.Ytlbhadggfipckaa
open Go.RowKit

theorem m137 (z : Addr) (w : World) : (method 332 137 (.pointer (some z)) "Write").run Try.prog w = .ok (116, .pointer (some z)) w := by kernel_rfl
theorem n137 (z : Addr) (w : World) : (nilAhead 332 137 (.pointer (some z)) "Write").run Try.prog w = .ok (some false) w := by kernel_rfl
theorem m154 (z : Addr) (w : World) : (method 332 154 (.pointer (some z)) "Write").run Try.prog w = .ok (78, .pointer (some z)) w := by kernel_rfl
theorem n154 (z : Addr) (w : World) : (nilAhead 332 154 (.pointer (some z)) "Write").run Try.prog w = .ok (some false) w := by kernel_rfl

/-- The writer at block a, on the buffer at block z, has put the bytes bs. -/
def WS (w : World) (a z lo : Nat) (bs : List UInt8) : Prop :=
  ∃ A c, Cs w z #[.slice A bs.length c] ∧ w.ownsRow lo 5 1 (.slice A bs.length c) bs.length (bs.map bv) ∧ Cs w a #[.iface 137 (.pointer (some ⟨z, 0, none⟩)), .int .i64 bs.length] ∧ z < lo ∧ a < lo ∧ a ≠ z ∧ lo ≤ w.heap.size

/-- The buffer's row lies in block k. -/
def RowOf (w : World) (z k : Nat) : Prop := ∃ o n c, w.cell? ⟨z, 0, none⟩ = some (.slice (some ⟨k, o, none⟩) n c)

/-- What is no part of the writer stays as it was, and does not become a part of it. -/
def Keep (a z : Nat) (w w' : World) : Prop := ∀ q, q < w.heap.size → q ≠ a → q ≠ z → ¬ RowOf w z q → w'.heap[q]? = w.heap[q]? ∧ ¬ RowOf w' z q

theorem Keep.refl (a z : Nat) (w : World) : Keep a z w w := fun q _ _ _ h => ⟨rfl, h⟩
theorem Keep.trans {a z : Nat} {w w' w'' : World} (h : Keep a z w w') (k : Keep a z w' w'') (hs : w.heap.size ≤ w'.heap.size) : Keep a z w w'' := fun q h1 h2 h3 h4 => by
  obtain ⟨e1, e2⟩ := h q h1 h2 h3 h4
  obtain ⟨e3, e4⟩ := k q (by omega) h2 h3 e2
  exact ⟨e3.trans e1, e4⟩
theorem RowOf.of_block {w w' : World} {z q : Nat} (hb : w'.heap[z]? = w.heap[z]?) (h : RowOf w' z q) : RowOf w z q := by
  obtain ⟨o, n, c, h⟩ := h
  exact ⟨o, n, c, (World.cell?_of_block (a := ⟨z, 0, none⟩) hb).symm.trans h⟩
theorem Keep.below {a z : Nat} {w w' : World} (hb : Below w.heap.size w w') (hz : z < w.heap.size) : Keep a z w w' := fun q h1 _ _ h4 =>
  ⟨hb.block q h1, fun h => h4 (h.of_block (hb.block z hz))⟩
theorem Keep.cs {a z : Nat} {w w' : World} (h : Keep a z w w') {q : Nat} {cs : Array Value} (hc : Cs w q cs) (h1 : q ≠ a) (h2 : q ≠ z) (h3 : ¬ RowOf w z q) : Cs w' q cs := hc.keep (h q hc.lt h1 h2 h3).1

def BufPost (w : World) (z lo : Nat) (bs l : List UInt8) (e : Ending) (w' : World) : Prop :=
  e = .returned (.tuple #[.int .i64 l.length, .nilIface]) ∧ (∃ A c, Cs w' z #[.slice A (bs ++ l).length c] ∧ w'.ownsRow lo 5 1 (.slice A (bs ++ l).length c) (bs ++ l).length ((bs ++ l).map bv)) ∧ Fr lo (· = z) w w' ∧ ∀ a, Keep a z w w'

theorem buf_walk (w : World) (z lo : Nat) (A : Option Addr) (c : Nat) (bs : List UInt8) (hz : Cs w z #[.slice A bs.length c]) (hown : w.ownsRow lo 5 1 (.slice A bs.length c) bs.length (bs.map bv)) (hzl : z < lo) (hlo : lo ≤ w.heap.size) (P : Option Addr) (m : Nat) (l : List UInt8) (hP : Rd w P (l.map bv)) (hl : bs.length + l.length ≤ 1000000000) :
    Calls Try.prog 116 #[.pointer (some ⟨z, 0, none⟩), .slice P l.length m] w (BufPost w z lo bs l) := by
  have c0 := hz.cell 0
  have f0 := hz.frozen 0
  simp at c0
  have hzw := hz.lt
  have Hz := Lib.hid hz
  have Hown := Lib.hid hown
  have HP := Lib.hid hP
  clear hz hown hP
  go_enter Try.func116, Try.ntmps116
  go_wp2_with (at_builtin; go_must (refine wpList_append_el el24 rfl (.tmp 10) (.tmp 11) rfl lo (.slice A bs.length c) bs.length (bs.map bv) rfl Hown.out P l.length m (l.map bv) rfl (by simp) HP.out (bv_one l) (by omega) (by omega) hlo ?_); intro v' w1 hown1 hgrow hnil hat; obtain ⟨A', c', rfl⟩ := own_slice hown1; clear hnil; have hz1 := Hz.out.grown hgrow (own_ne Hown.out hzl); have c1 := hz1.cell 0; have f1 := hz1.frozen 0; simp at c1)
  refine bodyPost_ret (v := .tuple #[.int .i64 l.length, .nilIface]) (by simp [results, Try.results116, go_sem]) rfl ?_
  refine ⟨rfl, ⟨A', c', ?_, ?_⟩, ?_, fun a q h1 h2 h3 h4 => ?_⟩
  · rw [List.length_append]
    exact hz1.set_ 0 _
  · rw [List.length_append, List.map_append]
    exact ownsRow_setCell_below hown1 (by simpa using hzl) _
  · exact (Fr.grown (Fr.refl lo (· = z) w) hgrow hlo fun g hg => .inl (Hown.out.lt g hg).1).setCell (p := ⟨z, 0, none⟩) (.inr rfl) _
  · have hv : some q ≠ (Value.slice A bs.length c).ownBlock := fun e => by
      rcases Hown.out.2 with ⟨e1, -⟩ | ⟨g, cap, cur, e1, -⟩
      · rw [e1] at e; simp [Value.ownBlock] at e
      · injection e1 with e2 e3 e4
        subst e2 e4
        have hg := (Hown.out.lt q e.symm)
        simp [Value.ownBlock] at e
        subst e
        exact h4 ⟨0, _, _, (Hz.out.cell 0).trans rfl⟩
    refine ⟨by rw [Below.heap_setCell _ _ _ _ h3, hgrow.block q h1 hv], fun h => ?_⟩
    obtain ⟨o, n, c2, h⟩ := h
    rw [World.cell?_setCell_same _ _ _ c1] at h
    injection h with h
    injection h with h5 h6 h7
    subst h5
    have hf : w1.ownsRow lo 5 1 (.slice (some ⟨q, o, none⟩) (bs.length + l.length) c') (bs.length + l.length) (bs.map bv ++ l.map bv) := hown1
    have hq : (Value.slice (some ⟨q, o, none⟩) (bs.length + l.length) c').ownBlock = some q := rfl
    rcases hat with e | e
    · exact hv (hq.symm.trans e)
    · have := hq.symm.trans e
      injection this with this
      omega

def AWPost (w : World) (a z lo : Nat) (bs l : List UInt8) (e : Ending) (w' : World) : Prop :=
  e = .returned (.tuple #[.int .i64 l.length, .nilIface]) ∧ WS w' a z lo (bs ++ l) ∧ Fr lo (fun k => k = a ∨ k = z) w w' ∧ Keep a z w w'

theorem aw_walk (w : World) (a z lo : Nat) (bs : List UInt8) (h : WS w a z lo bs) (P : Option Addr) (m : Nat) (l : List UInt8) (hP : Rd w P (l.map bv)) (hl : bs.length + l.length ≤ 1000000000) :
    Calls Try.prog 78 #[.pointer (some ⟨a, 0, none⟩), .slice P l.length m] w (AWPost w a z lo bs l) := by
  obtain ⟨A, c, h1, h2, h3, h4, h5, h6, h7⟩ := h
  have c0 := h3.cell 0
  have c1 := h3.cell 1
  simp at c0 c1
  have H1 := Lib.hid (buf_walk w z lo A c bs h1 h2 h4 h7 P m l hP hl)
  have H3 := Lib.hid h3
  have hm := m137
  have hnl := n137
  have hsum : IntKind.i64.wrap ((bs.length : Int) + (l.length : Int)) = (bs.length : Int) + (l.length : Int) := by simp only [IntKind.wrap, IntKind.bits, IntKind.signed]; simp; omega
  clear h1 h2 h3 hP
  go_enter Try.func78, Try.ntmps78
  go_wp2_with fail
  refine H1.out.mono ?_
  rintro e w1 ⟨rfl, ⟨A', c', hz', hown'⟩, hf, hkp⟩
  have q := H3.out.fr hf h5 h6
  have d1 := q.cell 1
  have f1 := q.frozen 1
  simp at d1
  have hq : Cs (w1.setCell ⟨a, 1, none⟩ (.int .i64 ((bs.length : Int) + (l.length : Int)))) a #[.iface 137 (.pointer (some ⟨z, 0, none⟩)), .int .i64 (bs ++ l).length] := by
    have h := q.set_ 1 (.int .i64 ((bs.length : Int) + (l.length : Int)))
    rw [List.length_append, Int.natCast_add]
    simpa using h
  have hfin : AWPost w a z lo bs l (.returned (.tuple #[.int .i64 l.length, .nilIface])) (w1.setCell ⟨a, 1, none⟩ (.int .i64 ((bs.length : Int) + (l.length : Int)))) :=
    ⟨rfl, ⟨A', c', hz'.far (Ne.symm h6) _, ownsRow_setCell_below hown' h5 _, hq, h4, h5, h6, by have := hf.size; simp [World.setCell]; omega⟩, (hf.mono (Nat.le_refl _) (fun k hk hx => .inr hx)).setCell (p := ⟨a, 1, none⟩) (.inr (.inl rfl)) _, fun q k1 k2 k3 k4 => by
      obtain ⟨e1, e2⟩ := hkp a q k1 k2 k3 k4
      exact ⟨(Below.heap_setCell _ _ _ _ k2).trans e1, fun h => e2 (h.of_block (Below.heap_setCell _ _ _ _ (Ne.symm h6)))⟩⟩
  have HFIN := Lib.hid hfin
  clear hz' hown' hf q hq hfin hkp
  go_wp2_with fail
  refine bodyPost_ret (v := .tuple #[.int .i64 l.length, .nilIface]) (by simp [results, Try.results78, go_sem]) rfl ?_
  exact HFIN.out

def WrPost (w : World) (a z lo : Nat) (bs l : List UInt8) (e : Ending) (w' : World) : Prop :=
  e = .returned .nilIface ∧ WS w' a z lo (bs ++ l) ∧ Fr lo (fun k => k = a ∨ k = z) w w' ∧ Keep a z w w'

/-- write -/
theorem write_walk (w : World) (a z lo : Nat) (bs : List UInt8) (h : WS w a z lo bs) (P : Option Addr) (m : Nat) (l : List UInt8) (hP : Rd w P (l.map bv)) (hl : bs.length + l.length ≤ 1000000000) :
    Calls Try.prog 72 #[.iface 154 (.pointer (some ⟨a, 0, none⟩)), .slice P l.length m] w (WrPost w a z lo bs l) := by
  have H1 := Lib.hid (aw_walk w a z lo bs h P m l hP hl)
  have hm := m154
  have hnl := n154
  clear h hP
  go_enter Try.func72, Try.ntmps72
  go_wp2_with fail
  refine H1.out.mono ?_
  rintro e w1 ⟨rfl, hws, hf⟩
  go_wp2_with fail
  go_ret
  exact ⟨rfl, hws, hf⟩
end Go.Proofs.Ytlbhadggfipckaa
