/-
  A node is opened.
  A name's bytes, one by one.
  The loop of readStructBlock: the root is opened.
-/
import Derived.Test.YtlbhadggfipckaaMa27
import Derived.Test.YtlbhadggfipckaaMa17
import Derived.Test.YtlbhadggfipckaaMa28
set_option linter.unusedVariables false
set_option linter.unusedSimpArgs false
namespace Go.Proofs.Ytlbhadggfipckaa
open Go.RowKit

theorem FraC.fresh {w : World} {col : Nat → Nat} {d q : Nat} {kn : ByteArray} {kp : List Pr} {kk : List Nd} (hq : col q = 3 * d + 4) (hc : Cs w q #[.string kn, .slice none 0 0, .slice none 0 0]) : FraC w col d ⟨q, kn, [], [], kp, kk⟩ [] :=
  ⟨_, _, [], hq, hc, ⟨⟨rfl, .inl ⟨rfl, rfl⟩⟩, fun g hg => by simp [Value.ownBlock] at hg⟩, .nil, ⟨⟨rfl, .inl ⟨rfl, rfl⟩⟩, fun g hg => by simp [Value.ownBlock] at hg⟩, fun k hk => by simp at hk⟩

theorem loo_root {W : Nat} {w w9 : World} {col : Nat → Nat} {st st' : Value} {q : Nat} {kn : ByteArray} {kp : List Pr} {kk : List Nd} (hW : W ≤ w.heap.size) (h : Loo W w col st []) (hq : w.heap.size ≤ q) (hcs : Cs w9 q #[.string kn, .slice none 0 0, .slice none 0 0])
    (hown : w9.ownsRow 0 87 1 st' 1 [ptr q]) (hat : st'.ownBlock = st.ownBlock ∨ ∃ k, st'.ownBlock = some k ∧ w.heap.size ≤ k ∧ k < w9.heap.size ∧ k ≠ q) (hsz : w.heap.size ≤ w9.heap.size) : ∃ col', Loo W w9 col' st' [⟨q, kn, [], [], kp, kk⟩] := by
  obtain ⟨hn, ho, hst, -⟩ := h
  have hrow : ∀ g, st'.ownBlock = some g → g ≠ q ∧ W ≤ g ∧ g < w9.heap.size := fun g hg => by
    rcases hat with h | ⟨k, h, h1, h2, h3⟩
    · have h1 := hst.2 g (h.symm.trans hg)
      have h2 : g < w.heap.size := by
        rcases Nat.lt_or_ge g w.heap.size with h | h
        · exact h
        · exact absurd (hn g h) (by omega)
      refine ⟨by omega, ?_, by omega⟩
      rcases Nat.lt_or_ge g W with h3 | h3
      · exact absurd (ho g h3) (by omega)
      · exact h3
    · rw [h] at hg
      injection hg with hg
      subst hg
      exact ⟨h3, by omega, h2⟩
  have hqlt := hcs.lt
  obtain ⟨col', hcol'⟩ : ∃ col' : Nat → Nat, ∀ k, col' k = if k = q then 4 else if some k = st'.ownBlock then 3 else if k < w.heap.size then (if col k = 3 then 0 else col k) else 1 := ⟨_, fun _ => rfl⟩
  refine ⟨col', fun k hk => ?_, fun k hk => ?_, ⟨?_, fun g hg => ?_⟩, FraC.fresh ?_ hcs, trivial⟩
  · rw [hcol', if_neg (show ¬ k = q by omega), if_neg (fun e => by have := (hrow k e.symm).2.2; omega), if_neg (by omega)]
  · rw [hcol', if_neg (show ¬ k = q by omega), if_neg (fun e => by have := (hrow k e.symm).2.1; omega), if_pos (by omega), if_neg (by rw [ho k hk]; decide)]
    exact ho k hk
  · simpa using hown
  · rw [hcol', if_neg (hrow g hg).1, if_pos hg.symm]
  · rw [hcol', if_pos rfl]; rfl

theorem loo_kid {W : Nat} {w w9 : World} {col : Nat → Nat} {st st' vp vk vk' : Value} {fr : Fra} {fs : List Fra} {ts : List (Value × Value)} {q : Nat} {kn : ByteArray} {kp : List Pr} {kk rk : List Nd} (hW : W ≤ w.heap.size) (hn : ∀ k, w.heap.size ≤ k → col k = 1) (ho : ∀ k, k < W → col k = 1)
    (hst : RowC w col 3 87 1 st (fr :: fs).length (((fr :: fs).map Fra.b).reverse.map ptr)) (b1 : col fr.b = 3 * fs.length + 4) (b3 : RowC w col (3 * fs.length + 5) 70 2 vp fr.ps.length (ts.flatMap duo)) (b4 : Each (PrC w (Done col)) fr.ps ts)
    (b5 : RowC w col (3 * fs.length + 6) 87 1 vk (fr.ks.map LT.b ++ []).length ((fr.ks.map LT.b ++ []).map ptr)) (b6 : ∀ k ∈ fr.ks, PN w (Done col) k) (hsp : Spine w col [fr.b] fs)
    (hq : w.heap.size ≤ q) (hcq : Cs w9 q #[.string kn, .slice none 0 0, .slice none 0 0])
    (hown : w9.ownsRow 0 87 1 st' ((fr :: fs).length + 1) (((fr :: fs).map Fra.b).reverse.map ptr ++ [ptr q])) (hat : st'.ownBlock = st.ownBlock ∨ ∃ k, st'.ownBlock = some k ∧ w.heap.size ≤ k ∧ k < w9.heap.size ∧ k ≠ q)
    (hownk : w9.ownsRow 0 87 1 vk' (fr.ks.length + 1) ((fr.ks.map LT.b).map ptr ++ [ptr q])) (hatk : vk'.ownBlock = vk.ownBlock ∨ ∃ k, vk'.ownBlock = some k ∧ w.heap.size ≤ k ∧ k < w9.heap.size ∧ k ≠ q ∧ st'.ownBlock ≠ some k)
    (hcs : Cs w9 fr.b #[.string fr.nm, vp, vk']) (hsz : w.heap.size ≤ w9.heap.size)
    (hfr : ∀ k, k < w.heap.size → col k ≠ 1 → some k ≠ st.ownBlock → some k ≠ vk.ownBlock → k ≠ fr.b → w9.heap[k]? = w.heap[k]?) : ∃ col', Loo W w9 col' st' (⟨q, kn, [], [], kp, kk⟩ :: { fr with rk := rk } :: fs) := by
  obtain ⟨d, hd⟩ : ∃ d, d = fs.length := ⟨_, rfl⟩
  rw [← hd] at b1 b3 b5
  have lt : ∀ k, col k ≠ 1 → k < w.heap.size := fun k hk => by
    rcases Nat.lt_or_ge k w.heap.size with h | h
    · exact h
    · exact absurd (hn k h) hk
  have hqlt := hcq.lt
  have hrow : ∀ g, st'.ownBlock = some g → g ≠ q ∧ W ≤ g ∧ g < w9.heap.size ∧ (g < w.heap.size → col g = 3) := fun g hg => by
    rcases hat with h | ⟨k, h, h1, h2, h3⟩
    · have h1 := hst.2 g (h.symm.trans hg)
      have h2 := lt g (by omega)
      refine ⟨by omega, ?_, by omega, fun _ => h1⟩
      rcases Nat.lt_or_ge g W with h3 | h3
      · exact absurd (ho g h3) (by omega)
      · exact h3
    · rw [h] at hg
      injection hg with hg
      subst hg
      exact ⟨h3, by omega, h2, by omega⟩
  have hrowk : ∀ g, vk'.ownBlock = some g → g ≠ q ∧ W ≤ g ∧ g < w9.heap.size ∧ (g < w.heap.size → col g = 3 * d + 6) ∧ st'.ownBlock ≠ some g := fun g hg => by
    rcases hatk with h | ⟨k, h, h1, h2, h3, h4⟩
    · have h1 := b5.2 g (h.symm.trans hg)
      have h2 := lt g (by omega)
      refine ⟨by omega, ?_, by omega, fun _ => h1, fun e => by have := (hrow g e).2.2.2 h2; omega⟩
      rcases Nat.lt_or_ge g W with h3 | h3
      · exact absurd (ho g h3) (by omega)
      · exact h3
    · rw [h] at hg
      injection hg with hg
      subst hg
      exact ⟨h3, by omega, h2, by omega, h4⟩
  obtain ⟨col', hcol'⟩ : ∃ col' : Nat → Nat, ∀ k, col' k = if k = q then 3 * (d + 1) + 4 else if some k = st'.ownBlock then 3 else if some k = vk'.ownBlock then 3 * d + 6 else col k := ⟨_, fun _ => rfl⟩
  have hc : ∀ k, col k ≠ 1 → col' k = col k := fun k hk => by
    have hlt := lt k hk
    rw [hcol', if_neg (show ¬ k = q by omega)]
    split
    · rename_i h
      exact ((hrow k h.symm).2.2.2 hlt).symm
    · split
      · rename_i h
        exact ((hrowk k h.symm).2.2.2.1 hlt).symm
      · rfl
  have hh : ∀ k, col k ≠ 1 → col k ≠ 3 → col k ≠ 3 * d + 4 → col k ≠ 3 * d + 6 → w9.heap[k]? = w.heap[k]? := fun k h1 h2 h3 h4 =>
    hfr k (lt k h1) h1 (fun e => h2 (hst.2 k e.symm)) (fun e => h4 (b5.2 k e.symm)) (fun e => h3 (by rw [e]; exact b1))
  have hs : Same (Done col) w w9 := fun k hk => hh k (by rw [show col k = 0 from hk]; omega) (by rw [show col k = 0 from hk]; omega) (by rw [show col k = 0 from hk]; omega) (by rw [show col k = 0 from hk]; omega)
  have hdn : ∀ k, Done col k → Done col' k := fun k hk => (hc k (by rw [show col k = 0 from hk]; omega)).trans hk
  refine ⟨col', fun k hk => ?_, fun k hk => ?_, ⟨?_, fun g hg => ?_⟩, FraC.fresh ?_ hcq, ⟨vp, vk', ts, ?_, hcs, ?_, b4.imp fun _ _ h => h.mono hs hdn, ⟨?_, fun g hg => ?_⟩, fun k hk => (b6 k hk).mono hs hdn⟩, ?_⟩
  · rw [hcol', if_neg (show ¬ k = q by omega), if_neg (fun e => by have := (hrow k e.symm).2.2.1; omega), if_neg (fun e => by have := (hrowk k e.symm).2.2.1; omega)]
    exact hn k (by omega)
  · rw [hcol', if_neg (show ¬ k = q by omega), if_neg (fun e => by have := (hrow k e.symm).2.1; omega), if_neg (fun e => by have := (hrowk k e.symm).2.1; omega)]
    exact ho k hk
  · simpa using hown
  · rw [hcol', if_neg (hrow g hg).1, if_pos hg.symm]
  · rw [hcol', if_pos rfl, List.length_cons, ← hd]
  · rw [← hd]
    exact (hc fr.b (by omega)).trans b1
  · rw [← hd]
    exact b3.keep fun k hk => ⟨(hc k (by omega)).trans hk, hh k (by omega) (by omega) (by omega) (by omega)⟩
  · simpa using hownk
  · rw [← hd, hcol', if_neg (hrowk g hg).1, if_neg (fun e => (hrowk g hg).2.2.2.2 e.symm), if_pos hg.symm]
  · exact hsp.keep fun k hk => ⟨hc k (by omega), hh k (by omega) (by omega) (by omega) (by omega)⟩
end Go.Proofs.Ytlbhadggfipckaa

set_option linter.unusedVariables false
set_option linter.unusedSimpArgs false
namespace Go.Proofs.Ytlbhadggfipckaa
open Go.RowKit

theorem enc_byte (x : UInt8) (y : Nat) (hy : y = x.toNat) (h : y < 128) : Utf8.encode (y : Int) = ⟨#[x]⟩ := by
  have hv : Utf8.valid (y : Int) = true := by simp [Utf8.valid]; omega
  unfold Utf8.encode
  simp only [hv, if_true]
  rw [if_pos (by simpa using h)]
  rw [Int.toNat_natCast, hy]
  simp

theorem cv_byte (x : UInt8) (y : Nat) (hy : y = x.toNat) (h : y < 128) (w : World) : (convert 5 9 (.int .u8 (y : Int))).run Try.prog w = .ok (.string ⟨#[x]⟩) w := by
  rw [run_convert_int_string (P := Try.prog) w 5 9 .u8 (y : Int) (by rw [Try.underlying5]; rfl) Try.underlying9, enc_byte x y hy h]

theorem str_snoc (l : List UInt8) (j : Nat) (h : j < l.length) : strOf (l.take j) ++ ⟨#[l[j]]⟩ = strOf (l.take (j + 1)) := by
  rw [List.take_succ_eq_append_getElem h]
  apply ByteArray.ext
  simp [strOf]
theorem str_size (l : List UInt8) (j : Nat) (h : j ≤ l.length) : (strOf (l.take j)).size = j := by
  simp [strOf, ByteArray.size]; omega

theorem add_byte (l : List UInt8) (j : Nat) (h : j < l.length) (hl : l.length ≤ 100) (w : World) : (Op.stringOp .add (strOf (l.take j)) ⟨#[l[j]]⟩).run Try.prog w = .ok (.string (strOf (l.take (j + 1)))) w := by
  rw [run_string_add (P := Try.prog) (w := w) (strOf (l.take j)) ⟨#[l[j]]⟩ (by rw [str_size l j (by omega)]; omega) (by show ((1 : Nat) : Int) ≤ _; omega), str_snoc l j h]
end Go.Proofs.Ytlbhadggfipckaa

set_option linter.unusedVariables false
set_option linter.unusedSimpArgs false
namespace Go.Proofs.Ytlbhadggfipckaa
open Go.RowKit
section
variable {a b bb lr r : Nat} {dk : Nat → Prop} {A : Option Addr} {c : Nat} {dt : List UInt8} {tot f g sl n0 n1 n2 n3 n4 n5 n6 n7 n8 : Nat} {s : Value} {strs : List UInt8} {nop : Nat} {root : Nd} {w0 : World}

theorem pad_lt (n : Nat) : (pad 4 n).length < 4 := by
  unfold pad
  split
  · simp
  · rw [zeros_len]; omega

set_option maxRecDepth 20000 in
set_option maxHeartbeats 4000000 in
theorem case_root (E : Env a b bb lr r dk tot f g sl strs nop root w0) {w : World} {A0 : Option Addr} {c0 : Nat} {col : Nat → Nat} {rest bp bk : List UInt8} {kn : ByteArray} {kp : List Pr} {kk : List Nd} {Q0 : Exit → Act → World → Prop}
    (er0 : root = .mk kn kp kk) (ebp : EncP strs nop kp bp) (ebk : EncL strs nop kk bk) (er : rest = be4 1 ++ (pad4 (bytesOf kn ++ [0]) ++ (bp ++ bk ++ tok nop 2 ++ tok nop 9)))
    (e3 : (tot - rest.length) % 4 = 0) (e4 : ASt a b bb lr r dk A c dt tot w rest) (e5 : Loo w0.heap.size w col (.slice A0 0 c0) []) (e6 : Fr w0.heap.size (fun k => k = f ∨ AX a b bb lr r dk k) w0 w)
    (e7 : Cs w f (fdtC n0 n1 n2 n3 n4 n5 n6 n7 n8 tot s (.pointer none))) (u3 u4 u5 u6 u7 u8 u11 u12 u13 u14 u15 u16 u17 u18 u19 u20 u21 u22 u23 u24 u25 u26 u27 u28 u29 u30 u31 u32 u33 u34 u35 u36 u37 u38 u39 u40 u41 u42 u43 u44 u45 u46 u47 u48 u49 u50 u51 u52 u53 u54 u55 u56 u57 u58 u59 u60 u61 u62 u63 u64 u65 u66 u67 u68 u69 u70 u71 u72 u73 u74 u75 u76 u77 u78 u79 u80 u81 u82 u83 u84 u85 u86 u87 u88 u89 u90 u91 u92 u93 u94 u95 u96 u97 u98 u99 u100 u101 u102 u103 u104 u105 u106 u107 u108 u109 u110 u111 u112 u113 u114 u115 u116 u117 u118 u119 u120 u121 u122 u123 u124 u125 u126 u127 u128 u129 u130 u131 u132 u133 u134 u135 u136 u137 u138 u139 u140 u141 u142 u143 u144 u145 u146 u147 u148 u149 u150 u151 u152 u153 u154 u155 u156 u157 u158 u159 u160 u161 u162 u163 u164 u165 u166 u167 u168 u169 u170 u171 u172 u173 u174 u175 u176 u177 u178 u179 u180 u181 u182 u183 u184 u185 u186 u187 u188 u189 u190 u191 u192 u193 u194 u195 u196 u197 u198 u199 u200 u201 u202 u203 u204 u205 u206 u207 u208 u209 u210 u211 u212 u213 u214 u215 u216 u217 u218 u219 u220 u221 u222 u223 u224 u225 u226 u227 u228 u229 u230 u231 u232 u233 u234 u235 u236 u237 u238 u239 u240 u241 u242 u243 u244 : Value) :
    Code.wp Try.prog body83 (loopQ a b bb lr r dk A c dt tot f g sl n0 n1 n2 n3 n4 n5 n6 n7 n8 s strs nop root w0 rest Q0) ⟨#[.pointer (some ⟨f, 0, none⟩), .iface 142 (.pointer (some ⟨r, 0, none⟩)), .slice (some ⟨g, 0, none⟩) sl sl, u3, u4, u5, u6, u7, u8, .pointer (some ⟨a, 0, none⟩), .slice A0 0 c0, u11, u12, u13, u14, u15, u16, u17, u18, u19, u20, u21, u22, u23, u24, u25, u26, u27, u28, u29, u30, u31, u32, u33, u34, u35, u36, u37, u38, u39, u40, u41, u42, u43, u44, u45, u46, u47, u48, u49, u50, u51, u52, u53, u54, u55, u56, u57, u58, u59, u60, u61, u62, u63, u64, u65, u66, u67, u68, u69, u70, u71, u72, u73, u74, u75, u76, u77, u78, u79, u80, u81, u82, u83, u84, u85, u86, u87, u88, u89, u90, u91, u92, u93, u94, u95, u96, u97, u98, u99, u100, u101, u102, u103, u104, u105, u106, u107, u108, u109, u110, u111, u112, u113, u114, u115, u116, u117, u118, u119, u120, u121, u122, u123, u124, u125, u126, u127, u128, u129, u130, u131, u132, u133, u134, u135, u136, u137, u138, u139, u140, u141, u142, u143, u144, u145, u146, u147, u148, u149, u150, u151, u152, u153, u154, u155, u156, u157, u158, u159, u160, u161, u162, u163, u164, u165, u166, u167, u168, u169, u170, u171, u172, u173, u174, u175, u176, u177, u178, u179, u180, u181, u182, u183, u184, u185, u186, u187, u188, u189, u190, u191, u192, u193, u194, u195, u196, u197, u198, u199, u200, u201, u202, u203, u204, u205, u206, u207, u208, u209, u210, u211, u212, u213, u214, u215, u216, u217, u218, u219, u220, u221, u222, u223, u224, u225, u226, u227, u228, u229, u230, u231, u232, u233, u234, u235, u236, u237, u238, u239, u240, u241, u242, u243, u244], []⟩ w := by
  have hok := E.ok
  rw [er0] at hok
  simp only [Nd.okk] at hok
  have hasc := hok.1
  obtain ⟨l, hl⟩ : ∃ l, l = bytesOf kn := ⟨_, rfl⟩
  have hll : l.length = kn.size := by rw [hl]; simp [bytesOf]
  have hlz : ∀ j, ∀ h : j < l.length, l[j] ≠ 0 ∧ l[j].toNat < 128 := fun j h => by
    have := hasc.2 j (by omega)
    subst hl
    exact this
  have Hl100 := Lib.hid (show l.length ≤ 100 by have := hasc.1; omega)
  have hstr : strOf l = kn := by rw [hl]; exact strOf_toList kn
  obtain ⟨tl, htl⟩ : ∃ tl, tl = bp ++ bk ++ tok nop 2 ++ tok nop 9 := ⟨_, rfl⟩
  obtain ⟨P, hP⟩ : ∃ P, P = pad 4 (l ++ [0]).length := ⟨_, rfl⟩
  obtain ⟨pr, hpr⟩ : ∃ pr, pr = P ++ tl := ⟨_, rfl⟩
  have hp4 : pad4 (bytesOf kn ++ [0]) ++ tl = l ++ 0 :: pr := by
    rw [← hl, hpr, hP]
    show (l ++ [0] ++ pad 4 (l ++ [0]).length) ++ tl = _
    simp only [List.append_assoc, List.cons_append, List.nil_append]
  have hpm := pad4_mod (bytesOf kn ++ [0])
  have hlenA : (pad4 (bytesOf kn ++ [0])).length + tl.length = l.length + 1 + pr.length := by
    have := congrArg List.length hp4
    rw [List.length_append, List.length_append, List.length_cons] at this
    omega
  rw [← htl, hp4] at er
  have hlen : rest.length = (l.length + 1 + pr.length) + 4 := by rw [er]; simp only [List.length_append, List.length_cons]; simp only [be4, List.length_cons, List.length_nil]; omega
  have e4' := e4
  rw [er] at e4'
  have HT := Lib.hid (tok_step w 1 _ e4' (by omega))
  clear e4'
  have hrt := e4.2.2.1
  rw [hlen] at e3 hrt
  have hal : (tot - tl.length) % 4 = 0 := by omega
  have hPl : P.length < 4 := by rw [hP]; exact pad_lt _
  have Hcode := Lib.hid (And.intro er0 (And.intro ebp (And.intro ebk (And.intro htl (And.intro hpr hstr)))))
  have HL := Lib.hid (show tl.length < rest.length by omega)
  have HS := Lib.hid (And.intro e5 (And.intro e6 e7))
  have HE := Lib.hid E
  clear hok hasc hl hll hstr htl hP hpr hp4 hpm hlenA hlen hrt er0 ebp ebk er e3 e4 e5 e6 e7 E
  conv => arg 2; whnf
  unfold loopQ
  go_wp2_with fail
  refine HT.out.mono ?_
  rintro e w1 ⟨rfl, hc1, hs1, hf1⟩
  have x0 : w1.cell? ⟨w.heap.size, 0, none⟩ = some (.int .u32 1) := (hc1.cell 0).trans rfl
  obtain ⟨g5, g6, g7⟩ := keep3 HE.out HS.out.1 HS.out.2.1 HS.out.2.2 hf1
  have hrow0 : w1.ownsRow 0 87 1 (.slice A0 0 c0) 0 [] := by simpa using g5.stk.1
  have hq1 := Cs.new w1 130 #[.string ⟨#[]⟩, .slice none 0 0, .slice none 0 0]
  have HG := Lib.hid (And.intro hs1 (And.intro hf1 (And.intro g5 (And.intro g6 g7))))
  clear hc1 hs1 hf1 g5 g6 g7
  go_wp2_with (at_builtin; go_must (refine wpList_append_el el128 rfl (.tmp 78) (.tmp 80) rfl 0 (.slice A0 0 c0) 0 [] rfl ((hrow0.alloc _).alloc _) (some ⟨w1.heap.size + 1, 0, none⟩) 1 1 [.pointer (some ⟨w1.heap.size, 0, none⟩)] rfl (by simp) ((Cs.new' _ _ _ _ (by simp)).rd rfl) (by simp [Value.oneCell']) (by omega) (by omega) (by simp) ?_); intro v' w2 hown2 hgrow2 hnil2 hat2; clear hnil2; obtain ⟨A8, c8, rfl⟩ := own_slice hown2; have hq2 := (hq1.alloc (.cells #[.pointer (some ⟨w1.heap.size, 0, none⟩)] 87)).grown hgrow2 (fun e => by have := (hrow0.lt _ e.symm).2; omega); have hfd2 := ((HG.out.2.2.2.2.alloc _).alloc _).grown hgrow2 (fun e => by have h1 := HG.out.2.2.1.stk.2 _ e.symm; have h2 := HG.out.2.2.1.old f HE.out.fl; omega); have k11 : w2.cell? ⟨f, 11, none⟩ = some (.pointer none) := (hfd2.cell 11).trans rfl; have fz11 := hfd2.frozen 11)
  obtain ⟨w3, hw3⟩ : ∃ w3, w3 = w2.setCell ⟨f, 11, none⟩ (.pointer (some ⟨w1.heap.size, 0, none⟩)) := ⟨_, rfl⟩
  rw [← hw3]
  obtain ⟨hs1, hf1, g5, g6, g7⟩ := HG.out
  have hw1 := hf1.size
  have hw01 := g6.size
  have hz2 : w1.heap.size + 2 ≤ w2.heap.size := by have := hgrow2.size; simpa using this
  have hz3 : w3.heap.size = w2.heap.size := by rw [hw3]; simp [World.setCell]
  have hfl := g7.lt
  have hfq : f ≠ w1.heap.size := by omega
  have hqn : Cs w3 w1.heap.size #[.string ⟨#[]⟩, .slice none 0 0, .slice none 0 0] := by rw [hw3]; exact hq2.far (p := ⟨f, 11, none⟩) (Ne.symm hfq) _
  have hg2 : w1.grownBy w2 ((Value.slice A0 0 c0).ownBlock) := grown_below (((Below.refl w1.heap.size w1).alloc (Nat.le_refl _) (.cells #[.string ⟨#[]⟩, .slice none 0 0, .slice none 0 0] 130)).alloc (by simp) (.cells #[.pointer (some ⟨w1.heap.size, 0, none⟩)] 87)) hgrow2
  have hrc : ∀ k, col k = 1 → some k ≠ (Value.slice A0 0 c0).ownBlock := fun k hk e => by have := g5.stk.2 k e.symm; omega
  have hWr : ∀ k, (Value.slice A0 0 c0).ownBlock = some k → w0.heap.size ≤ k := fun k hk => by
    rcases Nat.lt_or_ge k w0.heap.size with h | h
    · exact absurd hk.symm (hrc k (g5.old k h))
    · exact h
  have hfr3 : ∀ k, k < w1.heap.size → some k ≠ (Value.slice A0 0 c0).ownBlock → k ≠ f → w3.heap[k]? = w1.heap[k]? := fun k h1 h2 h3 => by
    rw [hw3, Below.heap_setCell _ _ _ _ h3]
    exact hg2.block k h1 h2
  have R := al_rdk a b bb lr r dk A c dt tot
  have hXl := R.xl w1 _ hs1
  have hs3 : ASt a b bb lr r dk A c dt tot w3 (l ++ 0 :: pr) := R.keep w1 w3 _ hs1 fun k hk => hfr3 k (hXl k hk) (hrc k (g5.old k (HE.out.xl k hk))) (fun e => HE.out.fX (e ▸ hk))
  have hf3 : Cs w3 f (fdtC n0 n1 n2 n3 n4 n5 n6 n7 n8 tot s (ptr w1.heap.size)) := by
    rw [hw3]
    have := hfd2.set_ 11 (.pointer (some ⟨w1.heap.size, 0, none⟩))
    simpa [fdtC, ptr] using this
  have hF3 : Fr w0.heap.size (fun k => k = f ∨ AX a b bb lr r dk k) w0 w3 := by
    rw [hw3]
    exact g6.trans (((Fr.refl w0.heap.size _ w1).grown hg2 hw01 (fun k hk => .inl (hWr k hk))).setCell (p := ⟨f, 11, none⟩) (.inr (.inl rfl)) _)
  have hqX : ¬ AX a b bb lr r dk w1.heap.size := fun hX => by have := hXl _ hX; omega
  have hat3 : (Value.slice A8 1 c8).ownBlock = (Value.slice A0 0 c0).ownBlock ∨ (Value.slice A8 1 c8).ownBlock = some (w1.heap.size + 2) := by simpa using hat2
  have hown2' : w2.ownsRow 0 87 1 (.slice A8 1 c8) 1 [ptr w1.heap.size] := by simpa [ptr] using hown2
  have hA8 : ∀ g, (Value.slice A8 1 c8).ownBlock = some g → g ≠ f ∧ g ≠ w1.heap.size ∧ ¬ AX a b bb lr r dk g ∧ g < w2.heap.size := fun g hg => by
    have h2 := (hown2'.lt g hg).2
    rcases hat3 with h | h
    · have h1 := (hrow0.lt g (h.symm.trans hg)).2
      exact ⟨fun e => hrc f (g5.old f HE.out.fl) (by rw [← e, ← h, hg]), by omega, fun hX => hrc g (g5.old g (HE.out.xl g hX)) (by rw [← h, hg]), h2⟩
    · rw [h] at hg
      injection hg with hg
      exact ⟨by omega, by omega, fun hX => by have := hXl _ hX; omega, h2⟩
  have hown3 : w3.ownsRow 0 87 1 (.slice A8 1 c8) 1 [ptr w1.heap.size] := own_keep hown2' fun g hg => by rw [hw3]; exact Below.heap_setCell _ _ _ _ (hA8 g hg).1
  have HN := Lib.hid (And.intro hqn hs3)
  have H3 := Lib.hid (And.intro hf3 (And.intro hF3 (And.intro hown3 (And.intro hA8 (And.intro hat3 (And.intro hz3 (And.intro hz2 (And.intro hw01 (And.intro g5 hfq)))))))))
  clear hw3 hs1 hf1 g5 g6 g7 hw1 hw01 hz2 hz3 hfl hfq hqn hg2 hrc hWr hfr3 R hXl hs3 hf3 hF3 hat3 hown2' hA8 hown3 hown2 hgrow2 hat2 hq2 hfd2 k11 fz11 hrow0 hq1 HG x0
  have Hl := Lib.hid hlz
  go_loopw [15] (fun _ wr => ∃ j : Nat, j ≤ l.length ∧ Cs wr w1.heap.size #[.string (strOf (l.take j)), .slice none 0 0, .slice none 0 0] ∧ ASt a b bb lr r dk A c dt tot wr (l.drop j ++ 0 :: pr) ∧ Fr w3.heap.size (fun k => k = w1.heap.size ∨ AX a b bb lr r dk k) w3 wr) (fun _ wr => leftOf tot a wr)
  case atStart => exact ⟨0, Nat.zero_le _, HN.out.1, HN.out.2, Fr.refl _ _ _⟩
  case round =>
    obtain ⟨j, hj, hc, hs, hf⟩ := hrel
    by_cases hlt : j < l.length
    · have hdr : l.drop j = l[j] :: l.drop (j + 1) := List.drop_eq_getElem_cons hlt
      rw [hdr] at hs
      have hs : ASt a b bb lr r dk A c dt tot wr (l[j] :: (l.drop (j + 1) ++ 0 :: pr)) := hs
      have HB := Lib.hid (readByte_walk wr l[j] (l.drop (j + 1) ++ 0 :: pr) hs)
      have hx := Hl.out j hlt
      have hadd := add_byte l j hlt Hl100.out
      obtain ⟨x, hxe⟩ : ∃ x, x = l[j] := ⟨_, rfl⟩
      rw [← hxe] at HB hx hadd
      obtain ⟨y, hy⟩ : ∃ y, y = x.toNat := ⟨_, rfl⟩
      have hcv := cv_byte x y hy (by omega)
      have hen := enc_byte x y hy (by omega)
      obtain ⟨s0, hs0⟩ : ∃ s0, s0 = strOf (l.take j) := ⟨_, rfl⟩
      obtain ⟨s1, hs1⟩ : ∃ s1, s1 = strOf (l.take (j + 1)) := ⟨_, rfl⟩
      rw [← hs0, ← hs1] at hadd
      rw [← hs0] at hc
      have hyn : ((y : Int) == 0) = false := by
        have : y ≠ 0 := fun e => hx.1 (UInt8.toNat.inj (by rw [← hy, e]; rfl))
        simp; omega
      have hlo := leftOf_eq hs
      have HS1 := Lib.hid (And.intro hc (And.intro hf (And.intro hlo (And.intro hs1 (And.intro hj hxe)))))
      have HY := Lib.hid hy
      clear hc hf hlo hs1 hs hdr hj hxe hs0 hx hy
      go_wp2_with fail
      refine HB.out.mono ?_
      rintro e w' ⟨rfl, hs', hf'⟩
      obtain ⟨hc, hf, hlo, hs1, hj, hxe⟩ := HS1.out
      have hc' := hc.fr2 hf' hqX
      have k0 : w'.cell? ⟨w1.heap.size, 0, none⟩ = some (.string s0) := (hc'.cell 0).trans rfl
      have fz := hc'.frozen 0
      have HS2 := Lib.hid (And.intro hc' (And.intro hs' (hf.trans (hf'.mono hf.size (fun k _ h => .inr h)))))
      unfold bv
      rw [← HY.out]
      clear hc hf hlo hs1 hj hs' hf' hc' HB hxe
      go_wp2_with fail
      go_roundw
      case rel =>
        obtain ⟨hc', hs', hf'⟩ := HS2.out
        obtain ⟨-, -, -, hs1, hj, -⟩ := HS1.out
        refine ⟨j + 1, hlt, ?_, (al_rdk a b bb lr r dk A c dt tot).keep w' _ _ hs' (fun k hk => Below.heap_setCell _ _ _ _ (fun e => hqX (by simp at e; rw [← e]; exact hk))), hf'.setCell (p := ⟨w1.heap.size, 0, none⟩) (.inr (.inl rfl)) _⟩
        rw [← hs1]
        simpa using hc'.set_ 0 (.string s1)
      case measure =>
        obtain ⟨hc', hs', hf'⟩ := HS2.out
        rw [HS1.out.2.2.1, leftOf_eq ((al_rdk a b bb lr r dk A c dt tot).keep w' _ _ hs' (fun k hk => Below.heap_setCell _ ⟨w1.heap.size, 0, none⟩ _ _ (fun e => hqX (by simp at e; rw [← e]; exact hk))))]
        simp
    · obtain rfl : j = l.length := by omega
      rw [List.drop_length] at hs
      rw [List.take_length] at hc
      have HB := Lib.hid (readByte_walk wr 0 pr hs)
      have HS1 := Lib.hid (And.intro hc hf)
      clear hc hf hs
      go_wp2_with fail
      refine HB.out.mono ?_
      rintro e wE ⟨rfl, hsE, hf'⟩
      obtain ⟨hc, hf⟩ := HS1.out
      have hcE := hc.fr2 hf' hqX
      have hfE := hf.trans (hf'.mono hf.size (fun k _ h => .inr h))
      have hb0 : bv 0 = .int .u8 0 := rfl
      rw [hb0]
      clear hc hf hf' HB HS1
      obtain ⟨hf3, hF3, hown3, hA8, hat3, hz3, hz2, hw01, g5, hfq⟩ := H3.out
      obtain ⟨er0, ebp, ebk, htl, hpr, hstr⟩ := Hcode.out
      have hzE := hfE.size
      have hownE : wE.ownsRow 0 87 1 (.slice A8 1 c8) 1 [ptr w1.heap.size] := own_keep hown3 fun g hg => hfE.block g (by rw [hz3]; exact (hA8 g hg).2.2.2) (fun h => h.elim (hA8 g hg).2.1 (hA8 g hg).2.2.1)
      obtain ⟨col', L9⟩ := loo_root (W := w0.heap.size) (w := w1) (w9 := wE) (st' := .slice A8 1 c8) (q := w1.heap.size) (kn := kn) (kp := kp) (kk := kk) hw01 g5 (Nat.le_refl _) (by rw [← hstr]; exact hcE) hownE (hat3.imp id fun h => ⟨_, h, by omega, by have := (hA8 _ h).2.2.2; omega, by omega⟩) (by omega)
      have hsE' : ASt a b bb lr r dk A c dt tot wE (P ++ tl) := by rw [← hpr]; exact hsE
      have HA := Lib.hid (align_step wE P tl hsE' hal hPl)
      have hfE' := hf3.fr2 hfE (fun h => h.elim hfq HE.out.fX)
      have hFE : Fr w0.heap.size (fun k => k = f ∨ AX a b bb lr r dk k) w0 wE := hF3.trans (hfE.mono (by omega) (fun k hk h => h.elim (fun e => by omega) .inr))
      have hph : Pha strs nop root wE col' [⟨w1.heap.size, kn, [], [], kp, kk⟩] (ptr w1.heap.size) tl := Pha.mid (f := ⟨w1.heap.size, kn, [], [], kp, kk⟩) (fs := []) ⟨bp, bk, tok nop 9, ebp, ebk, rfl, htl⟩ (by rw [er0]; simp [whole, plug, eraseL])
      have HFIN := Lib.hid (And.intro L9 (And.intro hFE (And.intro hfE' hph)))
      clear hf3 hF3 hown3 hA8 hat3 hz3 hz2 hw01 g5 hfq er0 ebp ebk htl hpr hstr hzE hownE L9 hsE' hfE' hFE hph hcE hfE hsE
      go_wp2_with fail
      refine HA.out.mono ?_
      rintro e w10 ⟨⟨pp, rfl⟩, hs10, hf10⟩
      obtain ⟨L9, hFE, hfE', hph⟩ := HFIN.out
      obtain ⟨g5, g6, g7, g8⟩ := keep_fr HE.out L9 hFE hfE' hph hf10
      have HR := Lib.hid (show Rel a b bb lr r dk A c dt tot f n0 n1 n2 n3 n4 n5 n6 n7 n8 s strs nop root w0 (.slice A8 1 c8) w10 tl _ from
        ⟨col', 0, tl, _, by simp [nops], by omega, hal, hs10, g5, g6, g7, g8⟩)
      clear L9 hFE hfE' hph g5 g6 g7 g8 hs10 hf10
      go_wp2_with fail
      exact WI_intro rfl rfl rfl rfl rfl rfl HR.out HL.out
end
end Go.Proofs.Ytlbhadggfipckaa
