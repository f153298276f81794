/-
  What a read does: copy into a row that is known whole; bytesReader.Read, bytesReader.Seek.
  Readers: one contract for each Read; ReadAtLeast, ReadFull; bytesReader.Seek.
  Seek; errors.New; beUint32s, readToken, readTwo.
-/
import Derived.Test.YtlbhadggfipckaaMa09
import Derived.Laws.CopyOwn
import Derived.Test.YtlbhadggfipckaaMa02
import Derived.Test.YtlbhadggfipckaaMa00
set_option linter.unusedVariables false
set_option linter.unusedSimpArgs false
namespace Go.Proofs.Ytlbhadggfipckaa
open Go.RowKit

theorem splice_nil {α : Type} (L : List α) (off : Nat) : splice L off [] = L := by simp [splice]

theorem splice_splice {α : Type} (L : List α) (off : Nat) (xs ys : List α) (h : off + xs.length + ys.length ≤ L.length) : splice (splice L off xs) (off + xs.length) ys = splice L off (xs ++ ys) := by
  unfold splice
  have e1 : (L.take off ++ (xs ++ L.drop (off + xs.length))).take (off + xs.length) = L.take off ++ xs := by
    rw [← List.append_assoc, List.take_left']
    simp; omega
  have e2 : (L.take off ++ (xs ++ L.drop (off + xs.length))).drop (off + xs.length + ys.length) = L.drop (off + xs.length + ys.length) := by
    have hl : (L.take off ++ xs).length = off + xs.length := by simp; omega
    rw [← List.append_assoc, ← List.drop_drop, List.drop_left' hl, List.drop_drop]
  rw [e1, e2]
  simp [Nat.add_assoc]

theorem splice_all {α : Type} (L xs : List α) (h : xs.length = L.length) : splice L 0 xs = xs := by
  simp [splice, h]

def eofV : Value := .iface 207 (.string ⟨#[69, 79, 70]⟩)
def unexV : Value := .iface 207 (.string ⟨#[117, 110, 101, 120, 112, 101, 99, 116, 101, 100, 32, 69, 79, 70]⟩)

theorem size5 : (Try.prog.info? 5).map (·.size) = some 1 := by kernel_rfl

theorem wp_copy_cs {w : World} {o : Oper} {a : Act} {K : Act → World → Prop} {Q : Exit → Act → World → Prop} (d s : Operand)
    (ho : o.op = .call { callee := .builtin .copy, args := #[d, s], argTypes := #[24, 24] }) (g off m c : Nat) (A : Option Addr) (n c2 : Nat) (hd : a.eval d = .slice (some ⟨g, off, none⟩) m c) (hs : a.eval s = .slice A n c2)
    (cur : List Value) (hg : Cs w g cur.toArray) (l : List UInt8) (hl : l.length = min n m) (hr : Rd w A (l.map bv)) (hfit : off + l.length ≤ cur.length)
    (h : ∀ w', Cs w' g (splice cur off (l.map bv)).toArray → Fr w.heap.size (· = g) w w' → K (a.put o.dst (.int .i64 l.length)) w') : o.wp Try.prog a w K Q := by
  rcases hr with h0 | ⟨b, o', rfl, hc⟩
  · have hl0 : l = [] := by simpa using h0
    subst hl0
    have hrun := run_copy_none (P := Try.prog) w 24 24 o.type 5 (some ⟨g, off, none⟩) A m c n c2 Try.underlying24 size5 (by simpa using hl.symm)
    unfold Oper.wp
    simp [execOp, ho, resolve, invoke, builtin, hd, hs, hrun, Result.andThen]
    exact h w (by rw [List.map_nil, splice_nil]; exact hg) (Fr.refl _ _ _)
  · obtain ⟨t, hg⟩ := hg
    have hrun := run_copy_row (P := Try.prog) w 24 24 o.type 5 g off m c ⟨b, o', none⟩ n c2 cur.toArray t (l.map bv) Try.underlying24 size5 hg (by rw [List.length_map]; exact hl) (fun j v hj => by
      have e : (⟨b, o', none⟩ : Addr).add j = ⟨b, o' + j, none⟩ := by unfold Addr.add; split <;> simp_all
      rw [e]
      exact hc j v hj) (by simpa using hfit) (bv_one l)
    unfold Oper.wp
    simp [execOp, ho, resolve, invoke, builtin, hd, hs, hrun, Result.andThen]
    refine h _ ⟨t, ?_⟩ ⟨rfl, rfl, rfl, by simp [World.setRow], fun k hk hx => setRow_other w g k _ hx⟩
    have := setRow_heap w g cur.toArray (cur.toArray.toList.take off ++ (l.map bv ++ cur.toArray.toList.drop (off + (l.map bv).length))).toArray t (0, 0) hg
    simpa [splice] using this

/-- The reader of bytes at block r, at place i of the bytes dt, which lie in a block that 'dk' names. -/
structure BR (w : World) (r : Nat) (dk : Nat → Prop) (A : Option Addr) (c : Nat) (dt : List UInt8) (i : Nat) : Prop where
  cs : Cs w r #[.slice A dt.length c, .int .i64 i]
  rd : RdO w dk A (dt.map bv)
  lc : dt.length ≤ c
  cm : c ≤ maxLen
  nr : ¬ dk r
  dl : ∀ k, dk k → k < w.heap.size
  sm : dt.length ≤ 100000000

theorem lt_of_eq {w w' : World} {k : Nat} (h : w'.heap[k]? = w.heap[k]?) (hk : k < w.heap.size) : k < w'.heap.size := by
  rcases Nat.lt_or_ge k w'.heap.size with h1 | h1
  · exact h1
  · rw [Array.getElem?_eq_none h1, Array.getElem?_eq_getElem hk] at h; cases h

theorem BR.keep {w w' : World} {r : Nat} {dk : Nat → Prop} {A : Option Addr} {c : Nat} {dt : List UInt8} {i : Nat} (h : BR w r dk A c dt i) (hr : w'.heap[r]? = w.heap[r]?) (hs : Same dk w w') : BR w' r dk A c dt i :=
  ⟨h.cs.keep hr, h.rd.mono hs (fun _ h => h), h.lc, h.cm, h.nr, fun k hk => lt_of_eq (hs k hk) (h.dl k hk), h.sm⟩

theorem BR.at_ {w w' : World} {r : Nat} {dk : Nat → Prop} {A : Option Addr} {c : Nat} {dt : List UInt8} {i j : Nat} (h : BR w r dk A c dt i) (hc : Cs w' r #[.slice A dt.length c, .int .i64 j]) (hs : Same dk w w') : BR w' r dk A c dt j :=
  ⟨hc, h.rd.mono hs (fun _ h => h), h.lc, h.cm, h.nr, fun k hk => lt_of_eq (hs k hk) (h.dl k hk), h.sm⟩

def BrPost (w : World) (r : Nat) (dk : Nat → Prop) (A : Option Addr) (c : Nat) (dt : List UInt8) (i : Nat) (g off m : Nat) (cur : List Value) (e : Ending) (w' : World) : Prop :=
  ∃ l, l = (dt.drop i).take m ∧ e = .returned (.tuple #[.int .i64 l.length, if i < dt.length then .nilIface else eofV]) ∧ BR w' r dk A c dt (i + l.length) ∧ Cs w' g (splice cur off (l.map bv)).toArray ∧ Fr w.heap.size (fun k => k = g ∨ k = r) w w'

theorem Cs.fr2 {w w' : World} {b : Nat} {cs : Array Value} (h : Cs w b cs) {X : Nat → Prop} (hf : Fr w.heap.size X w w') (hx : ¬ X b) : Cs w' b cs := h.fr hf h.lt hx

set_option maxHeartbeats 1000000 in
theorem br_read (w : World) (r : Nat) (dk : Nat → Prop) (A : Option Addr) (c : Nat) (dt : List UInt8) (i : Nat) (h : BR w r dk A c dt i) (g off m cP : Nat) (cur : List Value) (hg : Cs w g cur.toArray) (hgr : g ≠ r) (hgd : ¬ dk g) (hfit : off + m ≤ cur.length) (hi : i ≤ 4294967295) (hm : m ≤ 4000000000) :
    Calls Try.prog 117 #[.pointer (some ⟨r, 0, none⟩), .slice (some ⟨g, off, none⟩) m cP] w (BrPost w r dk A c dt i g off m cur) := by
  have hc := h.cs
  have c0 := hc.cell 0
  have c1 := hc.cell 1
  have f1 := hc.frozen 1
  simp at c0 c1
  have hcm := h.cm
  have hlc := h.lc
  have hsm := h.sm
  simp only [maxLen] at hcm
  have Hh := Lib.hid h
  have Hg := Lib.hid hg
  clear hc
  by_cases hlt : dt.length ≤ i
  · clear h hg
    have hd : decide ((dt.length : Int) ≤ (i : Int)) = true := decide_eq_true (by omega)
    go_enter Try.func117, Try.ntmps117
    go_wp2_with fail
    go_quiet (fail)
    go_wp2_with fail
    go_ret2
    have hl0 : (dt.drop i).take m = [] := by rw [List.drop_eq_nil_of_le hlt]; simp
    refine ⟨[], hl0.symm, by rw [if_neg (by omega)]; rfl, ?_, ?_, (Fr.refl _ _ _).drewN _⟩
    · exact Hh.out.keep rfl (fun k hk => rfl)
    · rw [List.map_nil, splice_nil]; exact Hg.out.drewN _
  · have hd : decide ((dt.length : Int) ≤ (i : Int)) = false := decide_eq_false (by omega)
    obtain ⟨b, o, rfl, hbk, hD⟩ := h.rd.resolve_left (fun e => by have := congrArg List.length e; simp at this; simp [this] at hlt)
    obtain ⟨l, hl⟩ : ∃ l, l = (dt.drop i).take m := ⟨_, rfl⟩
    have Hl := Lib.hid hl
    have Hll := Lib.hid (show l.length = min (dt.length - i) m by rw [hl]; simp; omega)
    have Hrd := Lib.hid (fun n => .inr ⟨b, o + i, rfl, fun j u hu => by
      rw [hl] at hu
      have hj := (List.getElem?_eq_some_iff.1 hu).1
      simp at hj
      rw [List.getElem?_map, List.getElem?_take_of_lt (by omega), List.getElem?_drop, ← List.getElem?_map] at hu
      rw [Nat.add_assoc]
      exact hD _ u hu⟩ : ∀ n, Rd (w.drewN n).drew (some ⟨b, o + i, none⟩) (l.map bv))
    have i0 : (0 : Int) ≤ (i : Int) := by omega
    have i1 : (i : Int) ≤ (dt.length : Int) := by omega
    have i2 : (i : Int) ≤ (c : Int) := by omega
    have hci : ¬ c = i := by omega
    have hbr : b ≠ r := fun e => h.nr (e ▸ hbk)
    have hbg : b ≠ g := fun e => hgd (e ▸ hbk)
    clear h hg hD hl
    go_enter Try.func117, Try.ntmps117
    go_wp2_with fail
    go_quiet (fail)
    go_wp2_with fail
    refine wp_region_seq (fun w' => w'.cell? ⟨r, 0, none⟩ = some (.slice (some ⟨b, o, none⟩) dt.length c) ∧ w'.cell? ⟨r, 1, none⟩ = some (.int .i64 i)) 11
      [(0, true), (1, true), (2, true), (3, true), (4, true), (5, true), (6, true), (7, true), (8, true), (9, true), (10, false), (11, false)] (by kernel_rfl) (by kernel_rfl) ⟨c0, c1⟩ ?_
    simp only [opsIn, List.map_cons, List.map_nil, List.getElem?_toArray, List.getElem?_cons_zero, List.getElem?_cons_succ, Option.getD_some, Nat.reduceBEq]
    iterate 10
      refine' Seq.quiet (by rfl) ?_ ?_
      rotate_left
      · rintro w' ⟨hS1, hS2⟩
        go_simp
        try with_reducible rfl
      try simp only [Act.put, List.setIfInBounds_toArray, List.set_cons_zero, List.set_cons_succ]
    refine Seq.eff ?_ ?_
    · rfl
    intro K hK
    refine wp_copy_cs (.tmp 18) (.tmp 27) rfl g off m cP (some ⟨b, o + i, none⟩) (dt.length - i) (c - i) rfl rfl cur (Hg.out.drewN nq).drew l Hll.out (Hrd.out nq) (by have := Hll.out; omega) ?_
    intro w2 hg2 hf2
    have hr2 : Cs w2 r #[.slice (some ⟨b, o, none⟩) dt.length c, .int .i64 i] := ((Hh.out.cs.drewN nq).drew).fr2 hf2 (Ne.symm hgr)
    refine hK.out _ _ (.inr ⟨(hr2.cell 0).trans rfl, (hr2.cell 1).trans rfl⟩) ?_
    clear hK K
    try simp only [Act.put, List.setIfInBounds_toArray, List.set_cons_zero, List.set_cons_succ]
    refine Seq.last ?_ ?_
    · rfl
    intro K hK
    go_simp
    refine hK.out _ _ ?_
    clear hK K
    have hll := Hll.out
    have r1 : w2.cell? ⟨r, 1, none⟩ = some (.int .i64 i) := (hr2.cell 1).trans rfl
    have rf : w2.frozen? ⟨r, 1, none⟩ = false := hr2.frozen 1
    have hsum : IntKind.i64.wrap ((i : Int) + (l.length : Int)) = (i : Int) + (l.length : Int) := by simp only [IntKind.wrap, IntKind.bits, IntKind.signed]; simp; omega
    have hr3 := hr2.set_ 1 (.int .i64 ((i : Int) + (l.length : Int)))
    simp only [List.setIfInBounds_toArray, List.set_cons_zero, List.set_cons_succ] at hr3
    have hF : Fr w.heap.size (fun k => k = g ∨ k = r) w (w2.setCell ⟨r, 1, none⟩ (.int .i64 ((i : Int) + (l.length : Int)))) := ((((Fr.refl w.heap.size (fun k => k = g ∨ k = r) w).drewN nq).drew).trans (hf2.mono (Nat.le_refl _) (fun k _ hk => .inl hk))).setCell (p := ⟨r, 1, none⟩) (.inr (.inr rfl)) _
    have HFIN := Lib.hid (show BrPost w r dk (some ⟨b, o, none⟩) c dt i g off m cur (.returned (.tuple #[.int .i64 l.length, .nilIface])) (w2.setCell ⟨r, 1, none⟩ (.int .i64 ((i : Int) + (l.length : Int)))) from
      ⟨l, Hl.out, by rw [if_pos (by omega)], Hh.out.at_ (by rw [Int.natCast_add]; exact hr3) (fun k hk => hF.block k (Hh.out.dl k hk) (fun e => e.elim (fun e => hgd (e ▸ hk)) (fun e => Hh.out.nr (e ▸ hk)))), hg2.far hgr _, hF⟩)
    clear hf2 hr2 hr3 hF hg2 hll
    go_wp2_with fail
    go_ret2
    exact HFIN.out
end Go.Proofs.Ytlbhadggfipckaa

set_option linter.unusedVariables false
set_option linter.unusedSimpArgs false
namespace Go.Proofs.Ytlbhadggfipckaa
open Go.RowKit

def rErr : List UInt8 → Value
  | [] => eofV
  | _ :: _ => .nilIface

def RdPost (St : World → List UInt8 → Prop) (X : Nat → Prop) (w : World) (rest : List UInt8) (g off m : Nat) (cur : List Value) (e : Ending) (w' : World) : Prop :=
  ∃ l rest', rest = l ++ rest' ∧ l.length ≤ m ∧ (rest ≠ [] → l ≠ []) ∧ e = .returned (.tuple #[.int .i64 l.length, rErr rest]) ∧ St w' rest' ∧ Cs w' g (splice cur off (l.map bv)).toArray ∧ Fr w.heap.size (fun k => k = g ∨ X k) w w'

/-- A reader: an interface of type tid over the block z; St: its state, with the bytes that are left; X: its blocks. -/
structure RdK (tid fid z : Nat) (X : Nat → Prop) (St : World → List UInt8 → Prop) : Prop where
  mth : ∀ w, (method 332 tid (.pointer (some ⟨z, 0, none⟩)) "Read").run Try.prog w = .ok (fid, .pointer (some ⟨z, 0, none⟩)) w
  nil : ∀ w, (nilAhead 332 tid (.pointer (some ⟨z, 0, none⟩)) "Read").run Try.prog w = .ok (some false) w
  cll : ∀ (cap : Array Value) w, (callFunc fid cap).run Try.prog w = .ok (.enter fid cap) w
  keep : ∀ w w' rest, St w rest → Same X w w' → St w' rest
  xl : ∀ w rest, St w rest → ∀ k, X k → k < w.heap.size
  read : ∀ w rest g off m cP cur, St w rest → Cs w g cur.toArray → ¬ X g → 0 < m → m ≤ 4000 → off + m ≤ cur.length → Calls Try.prog fid #[.pointer (some ⟨z, 0, none⟩), .slice (some ⟨g, off, none⟩) m cP] w (RdPost St X w rest g off m cur)

def FullPost (St : World → List UInt8 → Prop) (X : Nat → Prop) (w : World) (rest : List UInt8) (g off m : Nat) (cur : List Value) (e : Ending) (w' : World) : Prop :=
  ∃ l rest', rest = l ++ rest' ∧ St w' rest' ∧ Cs w' g (splice cur off (l.map bv)).toArray ∧ Fr w.heap.size (fun k => k = g ∨ X k) w w' ∧
    ((l.length = m ∧ e = .returned (.tuple #[.int .i64 m, .nilIface])) ∨ (rest.length < m ∧ ∃ s, e = .returned (.tuple #[.int .i64 l.length, .iface 207 (.string s)])))

theorem eof_same (w : World) : (binOp .eql 72 (.iface 207 (.string ⟨#[69, 79, 70]⟩)) (.iface 207 (.string ⟨#[69, 79, 70]⟩))).run Try.prog w = .ok (.bool true) w := by kernel_rfl

def errRank : Value → Nat
  | .nilIface => 1
  | _ => 0

set_option maxHeartbeats 1000000 in
theorem atLeast_walk {tid fid z : Nat} {X : Nat → Prop} {St : World → List UInt8 → Prop} (R : RdK tid fid z X St) (w : World) (rest : List UInt8) (g off m cP : Nat) (cur : List Value) (hst : St w rest) (hg : Cs w g cur.toArray) (hgX : ¬ X g) (hm : m ≤ 4000) (hfit : off + m ≤ cur.length) (hc : m ≤ cP) (hcm : cP ≤ maxLen) :
    Calls Try.prog 96 #[.iface tid (.pointer (some ⟨z, 0, none⟩)), .slice (some ⟨g, off, none⟩) m cP, .int .i64 m] w (FullPost St X w rest g off m cur) := by
  have hmt := R.mth
  have hnl := R.nil
  have hcf := R.cll
  have hmf : ∀ (fn : Fn) (first cap : Array Value) (w : World), (Instr.makeFunc fn first cap).run Try.prog w = .ok (.func fn first cap) w := fun _ _ _ _ => rfl
  simp only [maxLen] at hcm
  have HR := Lib.hid R
  have H0 := Lib.hid (And.intro hst hg)
  clear R hst hg
  go_enter Try.func96, Try.ntmps96
  go_wp2_with fail
  go_loopw [6, 7] (fun n x wr => ∃ l rest', rest = l ++ rest' ∧ l.length ≤ m ∧ n = .int .i64 l.length ∧ St wr rest' ∧ Cs wr g (splice cur off (l.map bv)).toArray ∧ Fr w.heap.size (fun k => k = g ∨ X k) w wr ∧ (x = .nilIface ∨ (x = eofV ∧ rest' = [] ∧ l.length < m))) (fun n x _ => 2 * (m - (intOf n).toNat) + errRank x)
  case atStart => exact ⟨[], rest, rfl, by simp, by go_num, H0.out.1, by rw [List.map_nil, splice_nil]; exact H0.out.2, Fr.refl _ _ _, .inl rfl⟩
  case round =>
    obtain ⟨l, rest', hre, hlm, rfl, hs, hg, hF, hx⟩ := hrel
    obtain ⟨wo, rfl⟩ : ∃ wo : World, wo = wr := ⟨_, rfl⟩
    have hgl : g < w.heap.size := H0.out.2.lt
    have hl0 : (0 : Int) ≤ (l.length : Int) := by omega
    by_cases hlt : l.length < m
    · rcases hx with rfl | ⟨rfl, hrn, -⟩
      · have hlc : (l.length : Int) ≤ (cP : Int) := by omega
        have hlm2 : (l.length : Int) ≤ (m : Int) := by omega
        have hne : ¬ cP = l.length := by omega
        have hlen : (splice cur off (l.map bv)).length = cur.length := length_splice _ _ _ (by simp; omega)
        have Hrd := Lib.hid (HR.out.read wo.drew rest' g (off + l.length) (m - l.length) (cP - l.length) (splice cur off (l.map bv)) (HR.out.keep _ _ _ hs (fun _ _ => rfl)) hg.drew hgX (by omega) (by omega) (by rw [hlen]; omega))
        have Hre := Lib.hid hre
        have HF := Lib.hid hF
        clear hre hs hg hF hlen
        go_wp2_with fail
        refine wp_region_seq (fun w' => True) 12
          [(0, true), (1, true), (2, true), (3, true), (4, true), (5, true), (6, true), (7, false), (8, true), (9, true), (10, true), (11, true), (12, false)] (by kernel_rfl) (by kernel_rfl) trivial ?_
        simp only [opsIn, List.map_cons, List.map_nil, List.getElem?_toArray, List.getElem?_cons_zero, List.getElem?_cons_succ, Option.getD_some, Nat.reduceBEq]
        iterate 7
          refine' Seq.quiet (by rfl) ?_ ?_
          rotate_left
          · rintro w' hS1
            go_simp
            try with_reducible rfl
          try simp only [Act.put, List.setIfInBounds_toArray, List.set_cons_zero, List.set_cons_succ]
        refine Seq.eff ?_ ?_
        · rfl
        intro K hK
        go_simp
        refine Hrd.out.mono ?_
        rintro e w1 ⟨l2, rest2, hr2, hl2, hne2, rfl, hs2, hg2, hf2⟩
        have Hr2 := Lib.hid (And.intro hr2 hne2)
        clear hr2 hne2
        obtain ⟨er, her⟩ : ∃ er, rErr rest' = er := ⟨_, rfl⟩
        rw [her]
        have Her := Lib.hid her
        clear her
        refine hK.out _ _ (.inr trivial) ?_
        clear hK K
        try simp only [Act.put, List.setIfInBounds_toArray, List.set_cons_zero, List.set_cons_succ]
        iterate 4
          refine' Seq.quiet (by rfl) ?_ ?_
          rotate_left
          · rintro w' hS1
            go_simp
            try with_reducible rfl
          try simp only [Act.put, List.setIfInBounds_toArray, List.set_cons_zero, List.set_cons_succ]
        refine Seq.last ?_ ?_
        · rfl
        intro K hK
        go_simp
        refine hK.out _ _ ?_
        clear hK K
        have hlen3 : (l ++ l2).length = l.length + l2.length := by simp
        have hbl : l.length + l2.length ≤ m := by omega
        have hsum : IntKind.i64.wrap ((l.length : Int) + (l2.length : Int)) = (l.length : Int) + (l2.length : Int) := by simp only [IntKind.wrap, IntKind.bits, IntKind.signed]; simp; omega
        have e1 : off + l.length = off + (l.map bv).length := by simp
        rw [e1, splice_splice _ _ _ _ (by simp; omega), ← List.map_append] at hg2
        have hF2 : Fr w.heap.size (fun k => k = g ∨ X k) w w1 := HF.out.trans (((Fr.refl wo.heap.size (fun k => k = g ∨ X k) wo).drew.trans hf2).mono HF.out.size (fun _ _ h => h))
        have hrank : er = .nilIface ∧ l2 ≠ [] ∨ er = eofV ∧ l2 = [] ∧ rest2 = [] := by
          obtain ⟨hr2, hne2⟩ := Hr2.out
          rw [← Her.out]
          rcases rest' with _ | ⟨x, r⟩
          · have := List.append_eq_nil_iff.1 hr2.symm
            exact .inr ⟨rfl, this.1, this.2⟩
          · exact .inl ⟨rfl, hne2 (by simp)⟩
        have HA := Lib.hid (And.intro hg2 (And.intro hF2 (And.intro hs2 (And.intro hrank Hr2.out.1))))
        clear hg2 hF2 hs2 hrank hf2
        go_wp2_with fail
        obtain ⟨hg2, hF2, hs2, hrank, hr2⟩ := HA.out
        refine ⟨⟨l ++ l2, rest2, by rw [Hre.out, hr2, List.append_assoc], by omega, by rw [hlen3]; simp, hs2, hg2, hF2, ?_⟩, ?_⟩
        · rcases hrank with ⟨e, -⟩ | ⟨e, e2, e3⟩
          · exact .inl e
          · exact .inr ⟨e, e3, by rw [e2]; simpa using hlt⟩
        · rcases hrank with ⟨e, hn⟩ | ⟨e, e2, e3⟩
          · have : 1 ≤ l2.length := List.length_pos_iff.2 hn
            simp [intOf, e, errRank]
            omega
          · subst e2
            simp [intOf, e, errRank, eofV]
      · subst hrn
        rw [List.append_nil] at hre
        have HA := Lib.hid (And.intro hg (And.intro hF (And.intro hs hre)))
        have hge : decide ((m : Int) ≤ (l.length : Int)) = false := decide_eq_false (by omega)
        clear hre hs hg hF
        unfold eofV
        by_cases h0 : l = []
        · subst h0
          go_wp2_with fail
          go_ret2
          obtain ⟨hg, hF, hs, hre⟩ := HA.out
          exact ⟨[], [], hre, hs, hg, hF, .inr ⟨by rw [hre]; simpa using hlt, _, rfl⟩⟩
        · have hl1 : 0 < (l.length : Int) := by have := List.length_pos_iff.2 h0; omega
          have hl2 : decide (0 < (l.length : Int)) = true := decide_eq_true hl1
          have heq := eof_same
          go_wp2_with fail
          go_ret2
          obtain ⟨hg, hF, hs, hre⟩ := HA.out
          exact ⟨l, [], by simpa using hre, hs, hg, hF, .inr ⟨by rw [hre]; exact hlt, _, rfl⟩⟩
    · obtain rfl : l.length = m := by omega
      rcases hx with rfl | ⟨-, -, hx⟩
      case inr => omega
      have HA := Lib.hid (And.intro hg (And.intro hF (And.intro hs hre)))
      clear hre hs hg hF
      go_wp2_with fail
      go_ret2
      obtain ⟨hg, hF, hs, hre⟩ := HA.out
      exact ⟨l, rest', hre, hs, hg, hF, .inl ⟨rfl, rfl⟩⟩

/-- ReadFull -/
theorem full_walk {tid fid z : Nat} {X : Nat → Prop} {St : World → List UInt8 → Prop} (R : RdK tid fid z X St) (w : World) (rest : List UInt8) (g off m cP : Nat) (cur : List Value) (hst : St w rest) (hg : Cs w g cur.toArray) (hgX : ¬ X g) (hm : m ≤ 4000) (hfit : off + m ≤ cur.length) (hc : m ≤ cP) (hcm : cP ≤ maxLen) :
    Calls Try.prog 92 #[.iface tid (.pointer (some ⟨z, 0, none⟩)), .slice (some ⟨g, off, none⟩) m cP] w (FullPost St X w rest g off m cur) := by
  have H := Lib.hid (atLeast_walk R w rest g off m cP cur hst hg hgX hm hfit hc hcm)
  clear R hst hg
  go_enter Try.func92, Try.ntmps92
  go_wp2_with fail
  refine H.out.mono ?_
  rintro e w1 ⟨l, rest', h1, h2, h3, h4, h5⟩
  have HA := Lib.hid (And.intro h1 (And.intro h2 (And.intro h3 h4)))
  clear h1 h2 h3 h4
  rcases h5 with ⟨hl, rfl⟩ | ⟨hl, s, rfl⟩
  · go_wp2_with fail
    go_ret2
    obtain ⟨h1, h2, h3, h4⟩ := HA.out
    exact ⟨l, rest', h1, h2, h3, h4, .inl ⟨hl, rfl⟩⟩
  · go_wp2_with fail
    go_ret2
    obtain ⟨h1, h2, h3, h4⟩ := HA.out
    exact ⟨l, rest', h1, h2, h3, h4, .inr ⟨hl, s, rfl⟩⟩
end Go.Proofs.Ytlbhadggfipckaa

set_option linter.unusedVariables false
set_option linter.unusedSimpArgs false
namespace Go.Proofs.Ytlbhadggfipckaa
open Go.RowKit

theorem m142r (z : Addr) (w : World) : (method 332 142 (.pointer (some z)) "Read").run Try.prog w = .ok (117, .pointer (some z)) w := by kernel_rfl
theorem n142r (z : Addr) (w : World) : (nilAhead 332 142 (.pointer (some z)) "Read").run Try.prog w = .ok (some false) w := by kernel_rfl
theorem m142s (z : Addr) (w : World) : (method 332 142 (.pointer (some z)) "Seek").run Try.prog w = .ok (118, .pointer (some z)) w := by kernel_rfl
theorem n142s (z : Addr) (w : World) : (nilAhead 332 142 (.pointer (some z)) "Seek").run Try.prog w = .ok (some false) w := by kernel_rfl

def BSt (r : Nat) (dk : Nat → Prop) (A : Option Addr) (c : Nat) (dt : List UInt8) (w : World) (rest : List UInt8) : Prop := ∃ i, i ≤ 4294967295 ∧ BR w r dk A c dt i ∧ rest = dt.drop i

theorem rErr_drop (dt : List UInt8) (i : Nat) : rErr (dt.drop i) = if i < dt.length then .nilIface else eofV := by
  split
  · rename_i h
    rw [List.drop_eq_getElem_cons h]
    rfl
  · rename_i h
    rw [List.drop_eq_nil_of_le (by omega)]
    rfl

theorem br_rdk (r : Nat) (dk : Nat → Prop) (A : Option Addr) (c : Nat) (dt : List UInt8) : RdK 142 117 r (fun k => k = r ∨ dk k) (BSt r dk A c dt) where
  mth := m142r _
  nil := n142r _
  cll := fun cap w => by kernel_rfl
  keep := fun w w' rest h hs => by
    obtain ⟨i, h1, h2, h3⟩ := h
    exact ⟨i, h1, h2.keep (hs r (.inl rfl)) (fun k hk => hs k (.inr hk)), h3⟩
  xl := fun w rest h k hk => by
    obtain ⟨i, h1, h2, h3⟩ := h
    rcases hk with rfl | hk
    · exact h2.cs.lt
    · exact h2.dl k hk
  read := fun w rest g off m cP cur h hg hX h0 hm hfit => by
    obtain ⟨i, h1, h2, rfl⟩ := h
    refine (br_read w r dk A c dt i h2 g off m cP cur hg (fun e => hX (.inl e)) (fun e => hX (.inr e)) hfit (by omega) (by omega)).mono ?_
    rintro e w' ⟨l, hl, rfl, hb, hc, hf⟩
    have hll : l.length = min m (dt.length - i) := by rw [hl]; simp
    refine ⟨l, dt.drop (i + l.length), ?_, by omega, fun hne e => ?_, by rw [rErr_drop], ⟨i + l.length, ?_, hb, rfl⟩, hc, hf.mono (Nat.le_refl _) (fun k _ hk => hk.imp id .inl)⟩
    · rw [← List.drop_drop]
      have e1 : l = (dt.drop i).take l.length := by
        rw [hll, hl]
        rcases Nat.le_total m (dt.length - i) with h | h
        · rw [Nat.min_eq_left h]
        · rw [Nat.min_eq_right h, List.take_of_length_le (by simp; omega), List.take_of_length_le (by simp)]
      conv => lhs; rw [← List.take_append_drop l.length (dt.drop i)]
      rw [← e1]
    · have : l.length = 0 := by rw [e]; rfl
      have h5 : 0 < (dt.drop i).length := List.length_pos_iff.2 hne
      simp at h5
      omega
    · have := h2.sm
      by_cases hi : i < dt.length <;> omega

/-- Seek, from the start. -/
theorem seek_walk (w : World) (r : Nat) (dk : Nat → Prop) (A : Option Addr) (c : Nat) (dt : List UInt8) (i off : Nat) (h : BR w r dk A c dt i) :
    Calls Try.prog 118 #[.pointer (some ⟨r, 0, none⟩), .int .i64 off, .int .i64 0] w fun e w' => e = .returned (.tuple #[.int .i64 off, .nilIface]) ∧ BR w' r dk A c dt off ∧ Fr w.heap.size (· = r) w w' := by
  have hc := h.cs
  have c1 := hc.cell 1
  have f1 := hc.frozen 1
  simp at c1
  have hr3 := hc.set_ 1 (.int .i64 (off : Int))
  simp only [List.setIfInBounds_toArray, List.set_cons_zero, List.set_cons_succ] at hr3
  have hF : Fr w.heap.size (· = r) w (w.setCell ⟨r, 1, none⟩ (.int .i64 (off : Int))) := (Fr.refl w.heap.size (· = r) w).setCell (p := ⟨r, 1, none⟩) (.inr rfl) _
  have hB : BR (w.setCell ⟨r, 1, none⟩ (.int .i64 (off : Int))) r dk A c dt off := h.at_ hr3 (fun k hk => hF.block k (h.dl k hk) (fun e => h.nr (e ▸ hk)))
  have H := Lib.hid (And.intro hB hF)
  have h0 : (0 : Int) ≤ (off : Int) := by omega
  have hd : decide ((off : Int) < 0) = false := decide_eq_false (by omega)
  clear h hc hr3 hF hB
  go_enter Try.func118, Try.ntmps118
  go_wp2_with fail
  go_ret2
  exact ⟨rfl, H.out.1, H.out.2⟩

theorem errNew_walk (w : World) (s : ByteArray) : Calls Try.prog 54 #[.string s] w fun e w' => (∃ z, e = .returned (.iface 145 z)) ∧ Below w.heap.size w w' := by
  go_enter Try.func54, Try.ntmps54
  go_wp2_with fail
  go_ret
  exact ⟨⟨_, rfl⟩, (Below.refl _ _).alloc (Nat.le_refl _) _⟩

theorem byteOf_nat2 (n k : Nat) : (byteOf (n : Int) k).toNat = n / 2 ^ k % 256 := by
  unfold byteOf
  rw [UInt8.toNat_ofNat']
  have e : ((n : Int) / 2 ^ k % 256).toNat = n / 2 ^ k % 256 := by
    have : ((n : Int) / 2 ^ k % 256) = ((n / 2 ^ k % 256 : Nat) : Int) := by simp
    rw [this, Int.toNat_natCast]
  rw [e]
  omega

theorem be32_byteOf (n : Nat) (h : n < 4294967296) : be32 (byteOf n 24) (byteOf n 16) (byteOf n 8) (byteOf n 0) = n := by
  simp only [be32, byteOf_nat2]
  omega

/-- The bytes of numbers, the highest byte first. -/
def beN (ns : List Nat) : List UInt8 := ns.flatMap fun n : Nat => be4 (n : Int)

theorem beN_len (ns : List Nat) : (beN ns).length = 4 * ns.length := by
  induction ns with
  | nil => rfl
  | cons n ns ih =>
    have : beN (n :: ns) = be4 (n : Int) ++ beN ns := rfl
    rw [this, List.length_append, ih, show (be4 (n : Int)).length = 4 from rfl]
    simp; omega

theorem beN_get : ∀ (ns : List Nat) (i : Nat) (n : Nat), ns[i]? = some n → (beN ns)[4 * i]? = some (byteOf n 24) ∧ (beN ns)[4 * i + 1]? = some (byteOf n 16) ∧ (beN ns)[4 * i + 2]? = some (byteOf n 8) ∧ (beN ns)[4 * i + 3]? = some (byteOf n 0)
  | [], i, n, h => by simp at h
  | x :: ns, 0, n, h => by
    simp at h
    subst h
    exact ⟨rfl, rfl, rfl, rfl⟩
  | x :: ns, i + 1, n, h => by
    have := beN_get ns i n (by simpa using h)
    have e : beN (x :: ns) = be4 (x : Int) ++ beN ns := rfl
    have e4 : ∀ k, (beN (x :: ns))[4 * (i + 1) + k]? = (beN ns)[4 * i + k]? := fun k => by
      rw [e, List.getElem?_append_right (by show 4 ≤ _; omega)]
      congr 1
      show 4 * (i + 1) + k - 4 = _
      omega
    have e0 := e4 0
    simp only [Nat.add_zero] at e0
    rw [e0, e4 1, e4 2, e4 3]
    exact this

theorem splice_snoc {α : Type} (L : List α) (o : Nat) (xs : List α) (v : α) (h : o + xs.length < L.length) : splice L o (xs ++ [v]) = (splice L o xs).set (o + xs.length) v := by
  unfold splice
  rw [← List.append_assoc (L.take o) xs, List.set_append_right _ _ (by simp; omega)]
  have e : o + xs.length - (L.take o ++ xs).length = 0 := by simp; omega
  rw [e]
  rw [List.drop_eq_getElem_cons h]
  simp only [List.set_cons_zero, List.length_append, List.length_cons, List.length_nil]
  simp [Nat.add_assoc]

def B32Post (St : World → List UInt8 → Prop) (X : Nat → Prop) (w : World) (rest : List UInt8) (q : Nat) (cs : List Value) (o n : Nat) (ns : List Nat) (rest' : List UInt8) (e : Ending) (w' : World) : Prop :=
  Fr w.heap.size (fun k => k = q ∨ X k) w w' ∧
  ((rest.length < 4 * n ∧ (∃ s, e = .returned (.iface 207 (.string s))) ∧ Cs w' q cs.toArray ∧ ∃ r2, St w' r2) ∨
   (rest = beN ns ++ rest' ∧ e = .returned .nilIface ∧ Cs w' q (splice cs o (ns.map fun m : Nat => .int .u32 (m : Int))).toArray ∧ St w' rest'))

set_option maxHeartbeats 2000000 in
theorem be32s_walk {tid fid z : Nat} {X : Nat → Prop} {St : World → List UInt8 → Prop} (R : RdK tid fid z X St) (w : World) (rest : List UInt8) (hst : St w rest) (q : Nat) (cs : List Value) (hq : Cs w q cs.toArray) (hqX : ¬ X q) (o n : Nat) (ho : o + n ≤ cs.length) (hn : n ≤ 10)
    (gl : Nat) (hgl : ∀ j, j < n → w.cell? ⟨gl, j, none⟩ = some (.pointer (some ⟨q, o + j, none⟩))) (hgq : gl ≠ q) (hgX : ¬ X gl) (hglt : gl < w.heap.size) (ns : List Nat) (rest' : List UInt8) (hns : ns.length = n) (hnb : ∀ m ∈ ns, m < 4294967296) (hr : rest.length < 4 * n ∨ rest = beN ns ++ rest') :
    Calls Try.prog 94 #[.iface tid (.pointer (some ⟨z, 0, none⟩)), .slice (some ⟨gl, 0, none⟩) n n] w (B32Post St X w rest q cs o n ns rest') := by
  obtain ⟨m, hm⟩ : ∃ m, m = 4 * n := ⟨_, rfl⟩
  have hmw : IntKind.i64.wrap (4 * (n : Int)) = (m : Int) := by rw [hm]; simp only [IntKind.wrap, IntKind.bits, IntKind.signed]; simp; omega
  have hmi : (4 : Int) * (n : Int) = (m : Int) := by omega
  have hmk := make5 w m (by omega)
  have hm40 : m ≤ 40 := by omega
  have hqw := hq.lt
  have hXw := R.xl w rest hst
  obtain ⟨W, hW⟩ : ∃ W, W = w.alloc (.cells (Array.replicate m (.int .u8 0)) 5) := ⟨_, rfl⟩
  have hWb : Below w.heap.size w W := by rw [hW]; exact (Below.refl _ _).alloc (Nat.le_refl _) _
  have hWc : Cs W w.heap.size (List.replicate m (Value.int .u8 0)).toArray := by
    rw [hW]
    have := Cs.new w 5 (Array.replicate m (Value.int .u8 0))
    rw [show (List.replicate m (Value.int .u8 0)).toArray = Array.replicate m (Value.int .u8 0) by simp]
    exact this
  have hWs : W.heap.size = w.heap.size + 1 := by rw [hW]; simp
  have HF := Lib.hid (full_walk R W rest w.heap.size 0 m m (List.replicate m (Value.int .u8 0)) (R.keep _ _ _ hst (fun k hk => hWb.block k (hXw k hk))) hWc (fun hx => by have := hXw _ hx; omega) (by omega) (by simp) (Nat.le_refl _) (by simp only [maxLen]; omega))
  rw [← hW] at hmk
  have HWb := Lib.hid hWb
  have Hq := Lib.hid hq
  have Hgl := Lib.hid hgl
  have HR := Lib.hid (And.intro R (And.intro hXw hr))
  have Hnb := Lib.hid hnb
  have Hns := Lib.hid hns
  have Hm := Lib.hid hm
  have HWs := Lib.hid hWs
  clear hst hq hgl R hr hnb hns hW hWb hWc hWs hm
  go_enter Try.func94, Try.ntmps94
  go_wp2_with fail
  refine HF.out.mono ?_
  rintro e w1 ⟨l, r1, hl1, hs1, hc1, hf1, hor⟩
  have hFw : Fr w.heap.size (fun k => k = q ∨ X k) w w1 := (Fr.of_below HWb.out).trans (hf1.mono (by have := HWs.out; omega) (fun k hk h => h.elim (fun h => by omega) .inr))
  have hq1 : Cs w1 q cs.toArray := (Hq.out.below HWb.out hqw).fr2 hf1 (fun h => h.elim (fun h => by omega) hqX)
  rcases hor with ⟨hll, rfl⟩ | ⟨hll, s, rfl⟩
  case inr =>
    have HFIN := Lib.hid (show B32Post St X w rest q cs o n ns rest' (.returned (.iface 207 (.string s))) w1 from ⟨hFw, .inl ⟨by have := Hm.out; omega, ⟨s, rfl⟩, hq1, r1, hs1⟩⟩)
    clear hFw hq1 hl1 hs1 hc1 hf1 hll
    go_wp2_with fail
    go_ret
    exact HFIN.out
  have hr2 : rest = beN ns ++ rest' := HR.out.2.2.resolve_left (fun h => by
    have h2 := congrArg List.length hl1
    rw [List.length_append] at h2
    have := Hm.out
    omega)
  have hlb : l = beN ns ∧ r1 = rest' := by
    have h2 : l ++ r1 = beN ns ++ rest' := hl1.symm.trans hr2
    exact List.append_inj h2 (by rw [beN_len, Hns.out, hll, Hm.out])
  obtain ⟨rfl, rfl⟩ := hlb
  rw [splice_all _ _ (by simp [hll])] at hc1
  have hgl1 : ∀ j, j < n → w1.cell? ⟨gl, j, none⟩ = some (.pointer (some ⟨q, o + j, none⟩)) := fun j hj => by
    rw [hFw.cell hglt (fun h => h.elim hgq hgX)]
    exact Hgl.out j hj
  have hw1s : w.heap.size < w1.heap.size := hc1.lt
  have Hc1 := Lib.hid hc1
  have Hgl1 := Lib.hid hgl1
  have HF1 := Lib.hid hFw
  have Hq1 := Lib.hid hq1
  have Hs1 := Lib.hid (And.intro hs1 hr2)
  have Hll := Lib.hid hll
  clear hc1 hgl1 hFw hq1 hs1 hr2 hl1 hf1 hll HF
  go_wp2_with fail
  go_loopw [25] (fun i wr => ∃ k : Nat, k ≤ n ∧ i = .int .i64 k ∧ Cs wr q (splice cs o ((ns.take k).map fun m : Nat => .int .u32 (m : Int))).toArray ∧ Fr w1.heap.size (· = q) w1 wr) (fun i _ => n - (intOf i).toNat)
  case atStart => exact ⟨0, by omega, by go_num, by rw [List.take_zero, List.map_nil, splice_nil]; exact Hq1.out, Fr.refl _ _ _⟩
  case round =>
    obtain ⟨k, hk, rfl, hqr, hfr⟩ := hrel
    obtain ⟨wo, rfl⟩ : ∃ wo : World, wo = wr := ⟨_, rfl⟩
    have hfs := hfr.size
    by_cases hlt : k < n
    · have hkn : k < ns.length := by rw [Hns.out]; exact hlt
      have hnk := Hnb.out ns[k] (List.getElem_mem hkn)
      have hbg := beN_get ns k ns[k] (List.getElem?_eq_getElem hkn)
      have htk : ns.take (k + 1) = ns.take k ++ [ns[k]] := by rw [List.take_succ_eq_append_getElem hkn]
      generalize ns[k] = nk at *
      obtain ⟨b0, b1, b2, b3⟩ := hbg
      have hbuf : ∀ j b, (beN ns)[j]? = some b → wo.cell? ⟨w.heap.size, j, none⟩ = some (bv b) := fun j b hb => by
        rw [hfr.cell (by omega) (by omega), Hc1.out.cell]
        simp [hb]
      have c0 := hbuf _ _ b0
      have c1 := hbuf _ _ b1
      have c2 := hbuf _ _ b2
      have c3 := hbuf _ _ b3
      have p0 : wo.cell? ⟨gl, k, none⟩ = some (.pointer (some ⟨q, o + k, none⟩)) := by
        rw [hfr.cell (by omega) hgq]
        exact Hgl1.out k hlt
      have hlen : (splice cs o ((ns.take k).map fun m : Nat => Value.int .u32 (m : Int))).length = cs.length := length_splice _ _ _ (by simp; omega)
      obtain ⟨old, hold⟩ : ∃ old, wo.cell? ⟨q, o + k, none⟩ = some old := ⟨_, (hqr.cell (o + k)).trans (by rw [List.getElem?_toArray]; exact List.getElem?_eq_getElem (by omega))⟩
      have fz := hqr.frozen (o + k)
      have hki : (0 : Int) ≤ (k : Int) := by omega
      obtain ⟨k4, hk4⟩ : ∃ k4, k4 = 4 * k := ⟨_, rfl⟩
      have hk4i : (4 : Int) * (k : Int) = (k4 : Int) := by omega
      have hk4w : IntKind.i64.wrap (4 * (k : Int)) = (k4 : Int) := by rw [hk4]; simp only [IntKind.wrap, IntKind.bits, IntKind.signed]; simp; omega
      have hk4m : (k4 : Int) ≤ (m : Int) := by have := Hm.out; omega
      have hk40 : (0 : Int) ≤ (k4 : Int) := by omega
      have hk4ne : ¬ m = k4 := by have := Hm.out; omega
      rw [← hk4] at c0 c1 c2 c3
      have HU := Lib.hid (beU32 wo w.heap.size k4 (m - k4) (m - k4) (byteOf nk 24) (byteOf nk 16) (byteOf nk 8) (byteOf nk 0) (by have := Hm.out; omega) (Nat.le_refl _) (by omega) c0 c1 c2 c3)
      rw [be32_byteOf nk hnk] at HU
      have Hqr := Lib.hid hqr
      have Hfr := Lib.hid hfr
      have Htk := Lib.hid htk
      have hglw : gl < wo.heap.size := by omega
      have hqwo : q < wo.heap.size := hqr.lt
      clear hqr hfr hbuf c0 c1 c2 c3 htk hk4 b0 b1 b2 b3
      go_wp2_with fail
      refine HU.out.mono ?_
      rintro e w2 ⟨rfl, kk, rfl⟩
      go_wp2_with fail
      have hsn := splice_snoc cs o ((ns.take k).map fun m : Nat => Value.int .u32 (m : Int)) (.int .u32 (nk : Int)) (by simp; omega)
      have hlk : ((ns.take k).map fun m : Nat => Value.int .u32 (m : Int)).length = k := by simp; omega
      rw [hlk] at hsn
      refine ⟨⟨k + 1, by omega, by go_num, ?_, (Hfr.out.drewN kk).setCell (p := ⟨q, o + k, none⟩) (.inr rfl) _⟩, by simp [intOf]; omega⟩
      rw [Htk.out, List.map_append, List.map_cons, List.map_nil, hsn]
      have := (Hqr.out.drewN kk).set_ (o + k) (.int .u32 (nk : Int))
      rw [List.setIfInBounds_toArray] at this
      exact this
    · obtain rfl : k = n := by omega
      rw [List.take_of_length_le (by have := Hns.out; omega)] at hqr
      have hst : St wo r1 := HR.out.1.keep _ _ _ Hs1.out.1 (fun x hx => hfr.block x (by have := HR.out.2.1 x hx; omega) (fun e => hqX (e ▸ hx)))
      have HFIN := Lib.hid (show B32Post St X w rest q cs o k ns r1 (.returned .nilIface) wo from ⟨HF1.out.trans (hfr.mono (by omega) (fun _ _ h => .inl h)), .inr ⟨Hs1.out.2, rfl, hqr, hst⟩⟩)
      clear hqr hfr hst
      go_wp2_with fail
      go_ret
      exact HFIN.out

/-- readToken -/
theorem readToken_walk {tid fid z : Nat} {X : Nat → Prop} {St : World → List UInt8 → Prop} (R : RdK tid fid z X St) (w : World) (rest : List UInt8) (hst : St w rest) (q : Nat) (x : Value) (hq : Cs w q #[x]) (hqX : ¬ X q) (n : Nat) (rest' : List UInt8) (hnb : n < 4294967296) (hr : rest = be4 (n : Int) ++ rest') :
    Calls Try.prog 88 #[.iface tid (.pointer (some ⟨z, 0, none⟩)), .pointer (some ⟨q, 0, none⟩)] w fun e w' => e = .returned .nilIface ∧ Cs w' q #[.int .u32 n] ∧ St w' rest' ∧ Fr w.heap.size (fun k => k = q ∨ X k) w w' := by
  have hqw := hq.lt
  have hXw := R.xl w rest hst
  have hb : Below w.heap.size w (w.alloc (.cells #[.pointer (some ⟨q, 0, none⟩)] 193)) := (Below.refl _ _).alloc (Nat.le_refl _) _
  have hc := Cs.new w 193 #[.pointer (some ⟨q, 0, none⟩)]
  have H := Lib.hid (be32s_walk R (w.alloc (.cells #[.pointer (some ⟨q, 0, none⟩)] 193)) rest (R.keep _ _ _ hst (fun k hk => hb.block k (hXw k hk))) q [x] (hq.alloc _) hqX 0 1 (by simp) (by omega) w.heap.size (fun j hj => by
      obtain rfl : j = 0 := by omega
      exact (hc.cell 0).trans rfl) (by omega) (fun hx => by have := hXw _ hx; omega) (by simp) [n] rest' rfl (by simpa using hnb) (.inr (by rw [hr]; simp [beN])))
  have Hr := Lib.hid hr
  clear hst hq R hc hb hr
  go_enter Try.func88, Try.ntmps88
  go_wp2_with fail
  refine H.out.mono ?_
  rintro e w1 ⟨hf, h⟩
  rcases h with ⟨h, -⟩ | ⟨-, rfl, hcs, hs⟩
  · exfalso
    rw [Hr.out] at h
    simp [be4] at h
    omega
  · have HA := Lib.hid (And.intro hf (And.intro hcs hs))
    clear hf hcs hs
    go_wp2_with fail
    go_ret
    obtain ⟨hf, hcs, hs⟩ := HA.out
    exact ⟨rfl, hcs, hs, ((Fr.refl w.heap.size (fun k => k = q ∨ X k) w).alloc (Nat.le_refl _) _).trans (hf.mono (by simp) (fun _ _ h => h))⟩

/-- readTwo -/
theorem readTwo_walk {tid fid z : Nat} {X : Nat → Prop} {St : World → List UInt8 → Prop} (R : RdK tid fid z X St) (w : World) (rest : List UInt8) (hst : St w rest) (q : Nat) (x y : Value) (hq : Cs w q #[x, y]) (hqX : ¬ X q) (n m : Nat) (rest' : List UInt8) (hnb : n < 4294967296) (hmb : m < 4294967296) (hr : rest = be4 (n : Int) ++ be4 (m : Int) ++ rest') :
    Calls Try.prog 90 #[.iface tid (.pointer (some ⟨z, 0, none⟩)), .pointer (some ⟨q, 0, none⟩), .pointer (some ⟨q, 1, none⟩)] w fun e w' => e = .returned .nilIface ∧ Cs w' q #[.int .u32 n, .int .u32 m] ∧ St w' rest' ∧ Fr w.heap.size (fun k => k = q ∨ X k) w w' := by
  have hqw := hq.lt
  have hXw := R.xl w rest hst
  have hb : Below w.heap.size w (w.alloc (.cells #[.pointer (some ⟨q, 0, none⟩), .pointer (some ⟨q, 1, none⟩)] 193)) := (Below.refl _ _).alloc (Nat.le_refl _) _
  have hc := Cs.new w 193 #[.pointer (some ⟨q, 0, none⟩), .pointer (some ⟨q, 1, none⟩)]
  have H := Lib.hid (be32s_walk R (w.alloc (.cells #[.pointer (some ⟨q, 0, none⟩), .pointer (some ⟨q, 1, none⟩)] 193)) rest (R.keep _ _ _ hst (fun k hk => hb.block k (hXw k hk))) q [x, y] (hq.alloc _) hqX 0 2 (by simp) (by omega) w.heap.size (fun j hj => by
      rcases (by omega : j = 0 ∨ j = 1) with rfl | rfl
      · exact (hc.cell 0).trans rfl
      · exact (hc.cell 1).trans rfl) (by omega) (fun hx => by have := hXw _ hx; omega) (by simp) [n, m] rest' rfl (by simp; omega) (.inr (by rw [hr]; simp [beN])))
  have Hr := Lib.hid hr
  clear hst hq R hc hb hr
  go_enter Try.func90, Try.ntmps90
  go_wp2_with fail
  refine H.out.mono ?_
  rintro e w1 ⟨hf, h⟩
  rcases h with ⟨h, -⟩ | ⟨-, rfl, hcs, hs⟩
  · exfalso
    rw [Hr.out] at h
    simp [be4] at h
    omega
  · have HA := Lib.hid (And.intro hf (And.intro hcs hs))
    clear hf hcs hs
    go_wp2_with fail
    go_ret
    obtain ⟨hf, hcs, hs⟩ := HA.out
    exact ⟨rfl, hcs, hs, ((Fr.refl w.heap.size (fun k => k = q ∨ X k) w).alloc (Nat.le_refl _) _).trans (hf.mono (by simp) (fun _ _ h => h))⟩
end Go.Proofs.Ytlbhadggfipckaa
