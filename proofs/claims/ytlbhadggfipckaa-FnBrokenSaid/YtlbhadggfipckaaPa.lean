/-
  What a read does: copy into a row that is known whole; bytesReader.Read, bytesReader.Seek.
-/
import Derived.Test.YtlbhadggfipckaaHc
import Derived.Laws.CopyOwn
set_option linter.unusedVariables false
set_option linter.unusedSimpArgs false
namespace Go.Proofs.Ytlbhadggfipckaa
open Go.RowKit

theorem splice_nil {α : Type} (L : List α) (off : Nat) : splice L off [] = L := by simp [splice]

theorem splice_splice {α : Type} (L : List α) (off : Nat) (xs ys : List α) (h : off + xs.length + ys.length ≤ L.length) : splice (splice L off xs) (off + xs.length) ys = splice L off (xs ++ ys) := by
  unfold splice
  have e1 : (L.take off ++ (xs ++ L.drop (off + xs.length))).take (off + xs.length) = L.take off ++ xs := by
    rw [← List.append_assoc, List.take_left']
    simp; omega
  have e2 : (L.take off ++ (xs ++ L.drop (off + xs.length))).drop (off + xs.length + ys.length) = L.drop (off + xs.length + ys.length) := by
    have hl : (L.take off ++ xs).length = off + xs.length := by simp; omega
    rw [← List.append_assoc, ← List.drop_drop, List.drop_left' hl, List.drop_drop]
  rw [e1, e2]
  simp [Nat.add_assoc]

theorem splice_all {α : Type} (L xs : List α) (h : xs.length = L.length) : splice L 0 xs = xs := by
  simp [splice, h]

def eofV : Value := .iface 207 (.string ⟨#[69, 79, 70]⟩)
def unexV : Value := .iface 207 (.string ⟨#[117, 110, 101, 120, 112, 101, 99, 116, 101, 100, 32, 69, 79, 70]⟩)

theorem size5 : (Try.prog.info? 5).map (·.size) = some 1 := by kernel_rfl

theorem wp_copy_cs {w : World} {o : Oper} {a : Act} {K : Act → World → Prop} {Q : Exit → Act → World → Prop} (d s : Operand)
    (ho : o.op = .call { callee := .builtin .copy, args := #[d, s], argTypes := #[24, 24] }) (g off m c : Nat) (A : Option Addr) (n c2 : Nat) (hd : a.eval d = .slice (some ⟨g, off, none⟩) m c) (hs : a.eval s = .slice A n c2)
    (cur : List Value) (hg : Cs w g cur.toArray) (l : List UInt8) (hl : l.length = min n m) (hr : Rd w A (l.map bv)) (hfit : off + l.length ≤ cur.length)
    (h : ∀ w', Cs w' g (splice cur off (l.map bv)).toArray → Fr w.heap.size (· = g) w w' → K (a.put o.dst (.int .i64 l.length)) w') : o.wp Try.prog a w K Q := by
  rcases hr with h0 | ⟨b, o', rfl, hc⟩
  · have hl0 : l = [] := by simpa using h0
    subst hl0
    have hrun := run_copy_none (P := Try.prog) w 24 24 o.type 5 (some ⟨g, off, none⟩) A m c n c2 Try.underlying24 size5 (by simpa using hl.symm)
    unfold Oper.wp
    simp [execOp, ho, resolve, invoke, builtin, hd, hs, hrun, Result.andThen]
    exact h w (by rw [List.map_nil, splice_nil]; exact hg) (Fr.refl _ _ _)
  · obtain ⟨t, hg⟩ := hg
    have hrun := run_copy_row (P := Try.prog) w 24 24 o.type 5 g off m c ⟨b, o', none⟩ n c2 cur.toArray t (l.map bv) Try.underlying24 size5 hg (by rw [List.length_map]; exact hl) (fun j v hj => by
      have e : (⟨b, o', none⟩ : Addr).add j = ⟨b, o' + j, none⟩ := by unfold Addr.add; split <;> simp_all
      rw [e]
      exact hc j v hj) (by simpa using hfit) (bv_one l)
    unfold Oper.wp
    simp [execOp, ho, resolve, invoke, builtin, hd, hs, hrun, Result.andThen]
    refine h _ ⟨t, ?_⟩ ⟨rfl, rfl, rfl, by simp [World.setRow], fun k hk hx => setRow_other w g k _ hx⟩
    have := setRow_heap w g cur.toArray (cur.toArray.toList.take off ++ (l.map bv ++ cur.toArray.toList.drop (off + (l.map bv).length))).toArray t (0, 0) hg
    simpa [splice] using this

/-- The reader of bytes at block r, at place i of the bytes dt, which lie in a block that 'dk' names. -/
structure BR (w : World) (r : Nat) (dk : Nat → Prop) (A : Option Addr) (c : Nat) (dt : List UInt8) (i : Nat) : Prop where
  cs : Cs w r #[.slice A dt.length c, .int .i64 i]
  rd : RdO w dk A (dt.map bv)
  lc : dt.length ≤ c
  cm : c ≤ maxLen
  nr : ¬ dk r
  dl : ∀ k, dk k → k < w.heap.size
  sm : dt.length ≤ 100000000

theorem lt_of_eq {w w' : World} {k : Nat} (h : w'.heap[k]? = w.heap[k]?) (hk : k < w.heap.size) : k < w'.heap.size := by
  rcases Nat.lt_or_ge k w'.heap.size with h1 | h1
  · exact h1
  · rw [Array.getElem?_eq_none h1, Array.getElem?_eq_getElem hk] at h; cases h

theorem BR.keep {w w' : World} {r : Nat} {dk : Nat → Prop} {A : Option Addr} {c : Nat} {dt : List UInt8} {i : Nat} (h : BR w r dk A c dt i) (hr : w'.heap[r]? = w.heap[r]?) (hs : Same dk w w') : BR w' r dk A c dt i :=
  ⟨h.cs.keep hr, h.rd.mono hs (fun _ h => h), h.lc, h.cm, h.nr, fun k hk => lt_of_eq (hs k hk) (h.dl k hk), h.sm⟩

theorem BR.at_ {w w' : World} {r : Nat} {dk : Nat → Prop} {A : Option Addr} {c : Nat} {dt : List UInt8} {i j : Nat} (h : BR w r dk A c dt i) (hc : Cs w' r #[.slice A dt.length c, .int .i64 j]) (hs : Same dk w w') : BR w' r dk A c dt j :=
  ⟨hc, h.rd.mono hs (fun _ h => h), h.lc, h.cm, h.nr, fun k hk => lt_of_eq (hs k hk) (h.dl k hk), h.sm⟩

def BrPost (w : World) (r : Nat) (dk : Nat → Prop) (A : Option Addr) (c : Nat) (dt : List UInt8) (i : Nat) (g off m : Nat) (cur : List Value) (e : Ending) (w' : World) : Prop :=
  ∃ l, l = (dt.drop i).take m ∧ e = .returned (.tuple #[.int .i64 l.length, if i < dt.length then .nilIface else eofV]) ∧ BR w' r dk A c dt (i + l.length) ∧ Cs w' g (splice cur off (l.map bv)).toArray ∧ Fr w.heap.size (fun k => k = g ∨ k = r) w w'

theorem Cs.fr2 {w w' : World} {b : Nat} {cs : Array Value} (h : Cs w b cs) {X : Nat → Prop} (hf : Fr w.heap.size X w w') (hx : ¬ X b) : Cs w' b cs := h.fr hf h.lt hx

set_option maxHeartbeats 1000000 in
theorem br_read (w : World) (r : Nat) (dk : Nat → Prop) (A : Option Addr) (c : Nat) (dt : List UInt8) (i : Nat) (h : BR w r dk A c dt i) (g off m cP : Nat) (cur : List Value) (hg : Cs w g cur.toArray) (hgr : g ≠ r) (hgd : ¬ dk g) (hfit : off + m ≤ cur.length) (hi : i ≤ 4294967295) (hm : m ≤ 4000000000) :
    Calls Try.prog 117 #[.pointer (some ⟨r, 0, none⟩), .slice (some ⟨g, off, none⟩) m cP] w (BrPost w r dk A c dt i g off m cur) := by
  have hc := h.cs
  have c0 := hc.cell 0
  have c1 := hc.cell 1
  have f1 := hc.frozen 1
  simp at c0 c1
  have hcm := h.cm
  have hlc := h.lc
  have hsm := h.sm
  simp only [maxLen] at hcm
  have Hh := Lib.hid h
  have Hg := Lib.hid hg
  clear hc
  by_cases hlt : dt.length ≤ i
  · clear h hg
    have hd : decide ((dt.length : Int) ≤ (i : Int)) = true := decide_eq_true (by omega)
    go_enter Try.func117, Try.ntmps117
    go_wp2_with fail
    go_quiet (fail)
    go_wp2_with fail
    go_ret2
    have hl0 : (dt.drop i).take m = [] := by rw [List.drop_eq_nil_of_le hlt]; simp
    refine ⟨[], hl0.symm, by rw [if_neg (by omega)]; rfl, ?_, ?_, (Fr.refl _ _ _).drewN _⟩
    · exact Hh.out.keep rfl (fun k hk => rfl)
    · rw [List.map_nil, splice_nil]; exact Hg.out.drewN _
  · have hd : decide ((dt.length : Int) ≤ (i : Int)) = false := decide_eq_false (by omega)
    obtain ⟨b, o, rfl, hbk, hD⟩ := h.rd.resolve_left (fun e => by have := congrArg List.length e; simp at this; simp [this] at hlt)
    obtain ⟨l, hl⟩ : ∃ l, l = (dt.drop i).take m := ⟨_, rfl⟩
    have Hl := Lib.hid hl
    have Hll := Lib.hid (show l.length = min (dt.length - i) m by rw [hl]; simp; omega)
    have Hrd := Lib.hid (fun n => .inr ⟨b, o + i, rfl, fun j u hu => by
      rw [hl] at hu
      have hj := (List.getElem?_eq_some_iff.1 hu).1
      simp at hj
      rw [List.getElem?_map, List.getElem?_take_of_lt (by omega), List.getElem?_drop, ← List.getElem?_map] at hu
      rw [Nat.add_assoc]
      exact hD _ u hu⟩ : ∀ n, Rd (w.drewN n).drew (some ⟨b, o + i, none⟩) (l.map bv))
    have i0 : (0 : Int) ≤ (i : Int) := by omega
    have i1 : (i : Int) ≤ (dt.length : Int) := by omega
    have i2 : (i : Int) ≤ (c : Int) := by omega
    have hci : ¬ c = i := by omega
    have hbr : b ≠ r := fun e => h.nr (e ▸ hbk)
    have hbg : b ≠ g := fun e => hgd (e ▸ hbk)
    clear h hg hD hl
    go_enter Try.func117, Try.ntmps117
    go_wp2_with fail
    go_quiet (fail)
    go_wp2_with fail
    refine wp_region_seq (fun w' => w'.cell? ⟨r, 0, none⟩ = some (.slice (some ⟨b, o, none⟩) dt.length c) ∧ w'.cell? ⟨r, 1, none⟩ = some (.int .i64 i)) 11
      [(0, true), (1, true), (2, true), (3, true), (4, true), (5, true), (6, true), (7, true), (8, true), (9, true), (10, false), (11, false)] (by kernel_rfl) (by kernel_rfl) ⟨c0, c1⟩ ?_
    simp only [opsIn, List.map_cons, List.map_nil, List.getElem?_toArray, List.getElem?_cons_zero, List.getElem?_cons_succ, Option.getD_some, Nat.reduceBEq]
    iterate 10
      refine' Seq.quiet (by rfl) ?_ ?_
      rotate_left
      · rintro w' ⟨hS1, hS2⟩
        go_simp
        try with_reducible rfl
      try simp only [Act.put, List.setIfInBounds_toArray, List.set_cons_zero, List.set_cons_succ]
    refine Seq.eff ?_ ?_
    · rfl
    intro K hK
    refine wp_copy_cs (.tmp 18) (.tmp 27) rfl g off m cP (some ⟨b, o + i, none⟩) (dt.length - i) (c - i) rfl rfl cur (Hg.out.drewN nq).drew l Hll.out (Hrd.out nq) (by have := Hll.out; omega) ?_
    intro w2 hg2 hf2
    have hr2 : Cs w2 r #[.slice (some ⟨b, o, none⟩) dt.length c, .int .i64 i] := ((Hh.out.cs.drewN nq).drew).fr2 hf2 (Ne.symm hgr)
    refine hK.out _ _ (.inr ⟨(hr2.cell 0).trans rfl, (hr2.cell 1).trans rfl⟩) ?_
    clear hK K
    try simp only [Act.put, List.setIfInBounds_toArray, List.set_cons_zero, List.set_cons_succ]
    refine Seq.last ?_ ?_
    · rfl
    intro K hK
    go_simp
    refine hK.out _ _ ?_
    clear hK K
    have hll := Hll.out
    have r1 : w2.cell? ⟨r, 1, none⟩ = some (.int .i64 i) := (hr2.cell 1).trans rfl
    have rf : w2.frozen? ⟨r, 1, none⟩ = false := hr2.frozen 1
    have hsum : IntKind.i64.wrap ((i : Int) + (l.length : Int)) = (i : Int) + (l.length : Int) := by simp only [IntKind.wrap, IntKind.bits, IntKind.signed]; simp; omega
    have hr3 := hr2.set_ 1 (.int .i64 ((i : Int) + (l.length : Int)))
    simp only [List.setIfInBounds_toArray, List.set_cons_zero, List.set_cons_succ] at hr3
    have hF : Fr w.heap.size (fun k => k = g ∨ k = r) w (w2.setCell ⟨r, 1, none⟩ (.int .i64 ((i : Int) + (l.length : Int)))) := ((((Fr.refl w.heap.size (fun k => k = g ∨ k = r) w).drewN nq).drew).trans (hf2.mono (Nat.le_refl _) (fun k _ hk => .inl hk))).setCell (p := ⟨r, 1, none⟩) (.inr (.inr rfl)) _
    have HFIN := Lib.hid (show BrPost w r dk (some ⟨b, o, none⟩) c dt i g off m cur (.returned (.tuple #[.int .i64 l.length, .nilIface])) (w2.setCell ⟨r, 1, none⟩ (.int .i64 ((i : Int) + (l.length : Int)))) from
      ⟨l, Hl.out, by rw [if_pos (by omega)], Hh.out.at_ (by rw [Int.natCast_add]; exact hr3) (fun k hk => hF.block k (Hh.out.dl k hk) (fun e => e.elim (fun e => hgd (e ▸ hk)) (fun e => Hh.out.nr (e ▸ hk)))), hg2.far hgr _, hF⟩)
    clear hf2 hr2 hr3 hF hg2 hll
    go_wp2_with fail
    go_ret2
    exact HFIN.out
end Go.Proofs.Ytlbhadggfipckaa
