/-
  Readers: one contract for each Read; ReadAtLeast, ReadFull; bytesReader.Seek.
-/
import Derived.Test.YtlbhadggfipckaaPa
import Derived.Test.YtlbhadggfipckaaSq
set_option linter.unusedVariables false
set_option linter.unusedSimpArgs false
namespace Go.Proofs.Ytlbhadggfipckaa
open Go.RowKit

def rErr : List UInt8 → Value
  | [] => eofV
  | _ :: _ => .nilIface

def RdPost (St : World → List UInt8 → Prop) (X : Nat → Prop) (w : World) (rest : List UInt8) (g off m : Nat) (cur : List Value) (e : Ending) (w' : World) : Prop :=
  ∃ l rest', rest = l ++ rest' ∧ l.length ≤ m ∧ (rest ≠ [] → l ≠ []) ∧ e = .returned (.tuple #[.int .i64 l.length, rErr rest]) ∧ St w' rest' ∧ Cs w' g (splice cur off (l.map bv)).toArray ∧ Fr w.heap.size (fun k => k = g ∨ X k) w w'

/-- A reader: an interface of type tid over the block z; St: its state, with the bytes that are left; X: its blocks. -/
structure RdK (tid fid z : Nat) (X : Nat → Prop) (St : World → List UInt8 → Prop) : Prop where
  mth : ∀ w, (method 332 tid (.pointer (some ⟨z, 0, none⟩)) "Read").run Try.prog w = .ok (fid, .pointer (some ⟨z, 0, none⟩)) w
  nil : ∀ w, (nilAhead 332 tid (.pointer (some ⟨z, 0, none⟩)) "Read").run Try.prog w = .ok (some false) w
  cll : ∀ (cap : Array Value) w, (callFunc fid cap).run Try.prog w = .ok (.enter fid cap) w
  keep : ∀ w w' rest, St w rest → Same X w w' → St w' rest
  xl : ∀ w rest, St w rest → ∀ k, X k → k < w.heap.size
  read : ∀ w rest g off m cP cur, St w rest → Cs w g cur.toArray → ¬ X g → 0 < m → m ≤ 4000 → off + m ≤ cur.length → Calls Try.prog fid #[.pointer (some ⟨z, 0, none⟩), .slice (some ⟨g, off, none⟩) m cP] w (RdPost St X w rest g off m cur)

def FullPost (St : World → List UInt8 → Prop) (X : Nat → Prop) (w : World) (rest : List UInt8) (g off m : Nat) (cur : List Value) (e : Ending) (w' : World) : Prop :=
  ∃ l rest', rest = l ++ rest' ∧ St w' rest' ∧ Cs w' g (splice cur off (l.map bv)).toArray ∧ Fr w.heap.size (fun k => k = g ∨ X k) w w' ∧
    ((l.length = m ∧ e = .returned (.tuple #[.int .i64 m, .nilIface])) ∨ (rest.length < m ∧ ∃ s, e = .returned (.tuple #[.int .i64 l.length, .iface 207 (.string s)])))

theorem eof_same (w : World) : (binOp .eql 72 (.iface 207 (.string ⟨#[69, 79, 70]⟩)) (.iface 207 (.string ⟨#[69, 79, 70]⟩))).run Try.prog w = .ok (.bool true) w := by kernel_rfl

def errRank : Value → Nat
  | .nilIface => 1
  | _ => 0

set_option maxHeartbeats 1000000 in
theorem atLeast_walk {tid fid z : Nat} {X : Nat → Prop} {St : World → List UInt8 → Prop} (R : RdK tid fid z X St) (w : World) (rest : List UInt8) (g off m cP : Nat) (cur : List Value) (hst : St w rest) (hg : Cs w g cur.toArray) (hgX : ¬ X g) (hm : m ≤ 4000) (hfit : off + m ≤ cur.length) (hc : m ≤ cP) (hcm : cP ≤ maxLen) :
    Calls Try.prog 96 #[.iface tid (.pointer (some ⟨z, 0, none⟩)), .slice (some ⟨g, off, none⟩) m cP, .int .i64 m] w (FullPost St X w rest g off m cur) := by
  have hmt := R.mth
  have hnl := R.nil
  have hcf := R.cll
  have hmf : ∀ (fn : Fn) (first cap : Array Value) (w : World), (Instr.makeFunc fn first cap).run Try.prog w = .ok (.func fn first cap) w := fun _ _ _ _ => rfl
  simp only [maxLen] at hcm
  have HR := Lib.hid R
  have H0 := Lib.hid (And.intro hst hg)
  clear R hst hg
  go_enter Try.func96, Try.ntmps96
  go_wp2_with fail
  go_loopw [6, 7] (fun n x wr => ∃ l rest', rest = l ++ rest' ∧ l.length ≤ m ∧ n = .int .i64 l.length ∧ St wr rest' ∧ Cs wr g (splice cur off (l.map bv)).toArray ∧ Fr w.heap.size (fun k => k = g ∨ X k) w wr ∧ (x = .nilIface ∨ (x = eofV ∧ rest' = [] ∧ l.length < m))) (fun n x _ => 2 * (m - (intOf n).toNat) + errRank x)
  case atStart => exact ⟨[], rest, rfl, by simp, by go_num, H0.out.1, by rw [List.map_nil, splice_nil]; exact H0.out.2, Fr.refl _ _ _, .inl rfl⟩
  case round =>
    obtain ⟨l, rest', hre, hlm, rfl, hs, hg, hF, hx⟩ := hrel
    obtain ⟨wo, rfl⟩ : ∃ wo : World, wo = wr := ⟨_, rfl⟩
    have hgl : g < w.heap.size := H0.out.2.lt
    have hl0 : (0 : Int) ≤ (l.length : Int) := by omega
    by_cases hlt : l.length < m
    · rcases hx with rfl | ⟨rfl, hrn, -⟩
      · have hlc : (l.length : Int) ≤ (cP : Int) := by omega
        have hlm2 : (l.length : Int) ≤ (m : Int) := by omega
        have hne : ¬ cP = l.length := by omega
        have hlen : (splice cur off (l.map bv)).length = cur.length := length_splice _ _ _ (by simp; omega)
        have Hrd := Lib.hid (HR.out.read wo.drew rest' g (off + l.length) (m - l.length) (cP - l.length) (splice cur off (l.map bv)) (HR.out.keep _ _ _ hs (fun _ _ => rfl)) hg.drew hgX (by omega) (by omega) (by rw [hlen]; omega))
        have Hre := Lib.hid hre
        have HF := Lib.hid hF
        clear hre hs hg hF hlen
        go_wp2_with fail
        refine wp_region_seq (fun w' => True) 12
          [(0, true), (1, true), (2, true), (3, true), (4, true), (5, true), (6, true), (7, false), (8, true), (9, true), (10, true), (11, true), (12, false)] (by kernel_rfl) (by kernel_rfl) trivial ?_
        simp only [opsIn, List.map_cons, List.map_nil, List.getElem?_toArray, List.getElem?_cons_zero, List.getElem?_cons_succ, Option.getD_some, Nat.reduceBEq]
        iterate 7
          refine' Seq.quiet (by rfl) ?_ ?_
          rotate_left
          · rintro w' hS1
            go_simp
            try with_reducible rfl
          try simp only [Act.put, List.setIfInBounds_toArray, List.set_cons_zero, List.set_cons_succ]
        refine Seq.eff ?_ ?_
        · rfl
        intro K hK
        go_simp
        refine Hrd.out.mono ?_
        rintro e w1 ⟨l2, rest2, hr2, hl2, hne2, rfl, hs2, hg2, hf2⟩
        have Hr2 := Lib.hid (And.intro hr2 hne2)
        clear hr2 hne2
        obtain ⟨er, her⟩ : ∃ er, rErr rest' = er := ⟨_, rfl⟩
        rw [her]
        have Her := Lib.hid her
        clear her
        refine hK.out _ _ (.inr trivial) ?_
        clear hK K
        try simp only [Act.put, List.setIfInBounds_toArray, List.set_cons_zero, List.set_cons_succ]
        iterate 4
          refine' Seq.quiet (by rfl) ?_ ?_
          rotate_left
          · rintro w' hS1
            go_simp
            try with_reducible rfl
          try simp only [Act.put, List.setIfInBounds_toArray, List.set_cons_zero, List.set_cons_succ]
        refine Seq.last ?_ ?_
        · rfl
        intro K hK
        go_simp
        refine hK.out _ _ ?_
        clear hK K
        have hlen3 : (l ++ l2).length = l.length + l2.length := by simp
        have hbl : l.length + l2.length ≤ m := by omega
        have hsum : IntKind.i64.wrap ((l.length : Int) + (l2.length : Int)) = (l.length : Int) + (l2.length : Int) := by simp only [IntKind.wrap, IntKind.bits, IntKind.signed]; simp; omega
        have e1 : off + l.length = off + (l.map bv).length := by simp
        rw [e1, splice_splice _ _ _ _ (by simp; omega), ← List.map_append] at hg2
        have hF2 : Fr w.heap.size (fun k => k = g ∨ X k) w w1 := HF.out.trans (((Fr.refl wo.heap.size (fun k => k = g ∨ X k) wo).drew.trans hf2).mono HF.out.size (fun _ _ h => h))
        have hrank : er = .nilIface ∧ l2 ≠ [] ∨ er = eofV ∧ l2 = [] ∧ rest2 = [] := by
          obtain ⟨hr2, hne2⟩ := Hr2.out
          rw [← Her.out]
          rcases rest' with _ | ⟨x, r⟩
          · have := List.append_eq_nil_iff.1 hr2.symm
            exact .inr ⟨rfl, this.1, this.2⟩
          · exact .inl ⟨rfl, hne2 (by simp)⟩
        have HA := Lib.hid (And.intro hg2 (And.intro hF2 (And.intro hs2 (And.intro hrank Hr2.out.1))))
        clear hg2 hF2 hs2 hrank hf2
        go_wp2_with fail
        obtain ⟨hg2, hF2, hs2, hrank, hr2⟩ := HA.out
        refine ⟨⟨l ++ l2, rest2, by rw [Hre.out, hr2, List.append_assoc], by omega, by rw [hlen3]; simp, hs2, hg2, hF2, ?_⟩, ?_⟩
        · rcases hrank with ⟨e, -⟩ | ⟨e, e2, e3⟩
          · exact .inl e
          · exact .inr ⟨e, e3, by rw [e2]; simpa using hlt⟩
        · rcases hrank with ⟨e, hn⟩ | ⟨e, e2, e3⟩
          · have : 1 ≤ l2.length := List.length_pos_iff.2 hn
            simp [intOf, e, errRank]
            omega
          · subst e2
            simp [intOf, e, errRank, eofV]
      · subst hrn
        rw [List.append_nil] at hre
        have HA := Lib.hid (And.intro hg (And.intro hF (And.intro hs hre)))
        have hge : decide ((m : Int) ≤ (l.length : Int)) = false := decide_eq_false (by omega)
        clear hre hs hg hF
        unfold eofV
        by_cases h0 : l = []
        · subst h0
          go_wp2_with fail
          go_ret2
          obtain ⟨hg, hF, hs, hre⟩ := HA.out
          exact ⟨[], [], hre, hs, hg, hF, .inr ⟨by rw [hre]; simpa using hlt, _, rfl⟩⟩
        · have hl1 : 0 < (l.length : Int) := by have := List.length_pos_iff.2 h0; omega
          have hl2 : decide (0 < (l.length : Int)) = true := decide_eq_true hl1
          have heq := eof_same
          go_wp2_with fail
          go_ret2
          obtain ⟨hg, hF, hs, hre⟩ := HA.out
          exact ⟨l, [], by simpa using hre, hs, hg, hF, .inr ⟨by rw [hre]; exact hlt, _, rfl⟩⟩
    · obtain rfl : l.length = m := by omega
      rcases hx with rfl | ⟨-, -, hx⟩
      case inr => omega
      have HA := Lib.hid (And.intro hg (And.intro hF (And.intro hs hre)))
      clear hre hs hg hF
      go_wp2_with fail
      go_ret2
      obtain ⟨hg, hF, hs, hre⟩ := HA.out
      exact ⟨l, rest', hre, hs, hg, hF, .inl ⟨rfl, rfl⟩⟩

/-- ReadFull -/
theorem full_walk {tid fid z : Nat} {X : Nat → Prop} {St : World → List UInt8 → Prop} (R : RdK tid fid z X St) (w : World) (rest : List UInt8) (g off m cP : Nat) (cur : List Value) (hst : St w rest) (hg : Cs w g cur.toArray) (hgX : ¬ X g) (hm : m ≤ 4000) (hfit : off + m ≤ cur.length) (hc : m ≤ cP) (hcm : cP ≤ maxLen) :
    Calls Try.prog 92 #[.iface tid (.pointer (some ⟨z, 0, none⟩)), .slice (some ⟨g, off, none⟩) m cP] w (FullPost St X w rest g off m cur) := by
  have H := Lib.hid (atLeast_walk R w rest g off m cP cur hst hg hgX hm hfit hc hcm)
  clear R hst hg
  go_enter Try.func92, Try.ntmps92
  go_wp2_with fail
  refine H.out.mono ?_
  rintro e w1 ⟨l, rest', h1, h2, h3, h4, h5⟩
  have HA := Lib.hid (And.intro h1 (And.intro h2 (And.intro h3 h4)))
  clear h1 h2 h3 h4
  rcases h5 with ⟨hl, rfl⟩ | ⟨hl, s, rfl⟩
  · go_wp2_with fail
    go_ret2
    obtain ⟨h1, h2, h3, h4⟩ := HA.out
    exact ⟨l, rest', h1, h2, h3, h4, .inl ⟨hl, rfl⟩⟩
  · go_wp2_with fail
    go_ret2
    obtain ⟨h1, h2, h3, h4⟩ := HA.out
    exact ⟨l, rest', h1, h2, h3, h4, .inr ⟨hl, s, rfl⟩⟩
end Go.Proofs.Ytlbhadggfipckaa
