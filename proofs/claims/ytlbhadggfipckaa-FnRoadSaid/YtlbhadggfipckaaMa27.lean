/-
  The loop of readStructBlock: its body, its relation.
  The loop of readStructBlock: a token of nothing; the end.
  The loop of readStructBlock: the end of a node.
-/
import Derived.Test.YtlbhadggfipckaaMa26
import Derived.WalkSmall
set_option linter.unusedVariables false
set_option linter.unusedSimpArgs false
namespace Go.Proofs.Ytlbhadggfipckaa
open Go.RowKit

def firstLoop : Code → Option Code
  | .loop c => some c
  | .seq a b => match firstLoop a with
    | some c => some c
    | none => firstLoop b
  | .block _ c => firstLoop c
  | .scope c => firstLoop c
  | .cond _ a b => match firstLoop a with
    | some c => some c
    | none => firstLoop b
  | _ => none
noncomputable def body83 : Code := ((Try.f83.body.bind firstLoop).getD .skip)

set_option maxRecDepth 1000000 in
theorem frame_lit (t : Array Value) (h : t.size = 245) : ∃ u : Nat → Value, t = #[u 0, u 1, u 2, u 3, u 4, u 5, u 6, u 7, u 8, u 9, u 10, u 11, u 12, u 13, u 14, u 15, u 16, u 17, u 18, u 19, u 20, u 21, u 22, u 23, u 24, u 25, u 26, u 27, u 28, u 29, u 30, u 31, u 32, u 33, u 34, u 35, u 36, u 37, u 38, u 39, u 40, u 41, u 42, u 43, u 44, u 45, u 46, u 47, u 48, u 49, u 50, u 51, u 52, u 53, u 54, u 55, u 56, u 57, u 58, u 59, u 60, u 61, u 62, u 63, u 64, u 65, u 66, u 67, u 68, u 69, u 70, u 71, u 72, u 73, u 74, u 75, u 76, u 77, u 78, u 79, u 80, u 81, u 82, u 83, u 84, u 85, u 86, u 87, u 88, u 89, u 90, u 91, u 92, u 93, u 94, u 95, u 96, u 97, u 98, u 99, u 100, u 101, u 102, u 103, u 104, u 105, u 106, u 107, u 108, u 109, u 110, u 111, u 112, u 113, u 114, u 115, u 116, u 117, u 118, u 119, u 120, u 121, u 122, u 123, u 124, u 125, u 126, u 127, u 128, u 129, u 130, u 131, u 132, u 133, u 134, u 135, u 136, u 137, u 138, u 139, u 140, u 141, u 142, u 143, u 144, u 145, u 146, u 147, u 148, u 149, u 150, u 151, u 152, u 153, u 154, u 155, u 156, u 157, u 158, u 159, u 160, u 161, u 162, u 163, u 164, u 165, u 166, u 167, u 168, u 169, u 170, u 171, u 172, u 173, u 174, u 175, u 176, u 177, u 178, u 179, u 180, u 181, u 182, u 183, u 184, u 185, u 186, u 187, u 188, u 189, u 190, u 191, u 192, u 193, u 194, u 195, u 196, u 197, u 198, u 199, u 200, u 201, u 202, u 203, u 204, u 205, u 206, u 207, u 208, u 209, u 210, u 211, u 212, u 213, u 214, u 215, u 216, u 217, u 218, u 219, u 220, u 221, u 222, u 223, u 224, u 225, u 226, u 227, u 228, u 229, u 230, u 231, u 232, u 233, u 234, u 235, u 236, u 237, u 238, u 239, u 240, u 241, u 242, u 243, u 244] := by
  obtain ⟨l⟩ := t
  refine ⟨fun i => l.getD i undef, ?_⟩
  have e : l = (List.range 245).map (fun i => l.getD i undef) := by
    apply List.ext_getElem
    · simpa using h
    · intro i h1 h2
      simp [List.getD_eq_getElem?_getD, List.getElem?_eq_getElem h1]
  have e2 := congrArg List.toArray e
  exact e2

section
variable {a b bb lr r : Nat} {dk : Nat → Prop} {A : Option Addr} {c : Nat} {dt : List UInt8} {tot f g sl n0 n1 n2 n3 n4 n5 n6 n7 n8 : Nat} {s : Value} {strs : List UInt8} {nop : Nat} {root : Nd} {w0 : World}

structure Env (a b bb lr r : Nat) (dk : Nat → Prop) (tot f g sl : Nat) (strs : List UInt8) (nop : Nat) (root : Nd) (w0 : World) : Prop where
  fg : f ≠ g
  fX : ¬ AX a b bb lr r dk f
  gX : ¬ AX a b bb lr r dk g
  fl : f < w0.heap.size
  gc : Cs w0 g (strs.map bv).toArray
  xl : ∀ k, AX a b bb lr r dk k → k < w0.heap.size
  sl1 : sl = strs.length
  sl2 : sl ≤ 100000
  np : nop ≤ 3
  ok : root.okk
  cost : root.costQ ≤ 2000
  tt : tot ≤ 2000000

/-- What holds at the loop's head. -/
def Rel (a b bb lr r : Nat) (dk : Nat → Prop) (A : Option Addr) (c : Nat) (dt : List UInt8) (tot f n0 n1 n2 n3 n4 n5 n6 n7 n8 : Nat) (s : Value) (strs : List UInt8) (nop : Nat) (root : Nd) (w0 : World) (st : Value) (w : World) (rest : List UInt8) (fs : List Fra) : Prop :=
  ∃ col i full pv, full = nops i ++ rest ∧ i ≤ nop ∧ (tot - rest.length) % 4 = 0 ∧ ASt a b bb lr r dk A c dt tot w rest ∧ Loo w0.heap.size w col st fs ∧ Fr w0.heap.size (fun k => k = f ∨ AX a b bb lr r dk k) w0 w ∧
    Cs w f (fdtC n0 n1 n2 n3 n4 n5 n6 n7 n8 tot s pv) ∧ Pha strs nop root w col fs pv full

def WI (a b bb lr r : Nat) (dk : Nat → Prop) (A : Option Addr) (c : Nat) (dt : List UInt8) (tot f g sl n0 n1 n2 n3 n4 n5 n6 n7 n8 : Nat) (s : Value) (strs : List UInt8) (nop : Nat) (root : Nd) (w0 : World) (x : Act) (w : World) : Prop :=
  x.defers = [] ∧ x.tmps.size = 245 ∧ x.tmps[0]? = some (.pointer (some ⟨f, 0, none⟩)) ∧ x.tmps[1]? = some (.iface 142 (.pointer (some ⟨r, 0, none⟩))) ∧ x.tmps[2]? = some (.slice (some ⟨g, 0, none⟩) sl sl) ∧ x.tmps[9]? = some (.pointer (some ⟨a, 0, none⟩)) ∧
    ∃ st rest fs, x.tmps[10]? = some st ∧ Rel a b bb lr r dk A c dt tot f n0 n1 n2 n3 n4 n5 n6 n7 n8 s strs nop root w0 st w rest fs

def leftOf (tot a : Nat) (w : World) : Nat := tot - (intOf ((w.cell? ⟨a, 1, none⟩).getD undef)).toNat

theorem leftOf_eq {w : World} {rest : List UInt8} (h : ASt a b bb lr r dk A c dt tot w rest) : leftOf tot a w = rest.length := by
  have c1 : w.cell? ⟨a, 1, none⟩ = some (.int .i64 ((tot - rest.length : Nat) : Int)) := (h.1.cell 1).trans rfl
  have := h.2.2.1
  unfold leftOf
  rw [c1]
  simp only [Option.getD_some, intOf]
  omega

/-- The round's end. -/
theorem WI_intro {tmps : Array Value} {w : World} {st : Value} {rest rest0 : List UInt8} {fs : List Fra} (h : tmps.size = 245) (h0 : tmps[0]? = some (.pointer (some ⟨f, 0, none⟩))) (h1 : tmps[1]? = some (.iface 142 (.pointer (some ⟨r, 0, none⟩)))) (h2 : tmps[2]? = some (.slice (some ⟨g, 0, none⟩) sl sl)) (h9 : tmps[9]? = some (.pointer (some ⟨a, 0, none⟩))) (h10 : tmps[10]? = some st)
    (hr : Rel a b bb lr r dk A c dt tot f n0 n1 n2 n3 n4 n5 n6 n7 n8 s strs nop root w0 st w rest fs) (hl : rest.length < rest0.length) :
    WI a b bb lr r dk A c dt tot f g sl n0 n1 n2 n3 n4 n5 n6 n7 n8 s strs nop root w0 ⟨tmps, []⟩ w ∧ leftOf tot a w < rest0.length := by
  obtain ⟨col, i, full, pv, e1, e2, e3, e4, e5⟩ := id hr
  exact ⟨⟨rfl, h, h0, h1, h2, h9, st, rest, fs, h10, hr⟩, by rw [leftOf_eq e4]; exact hl⟩

/-- The token's reading. -/
theorem tok_step (w : World) (n : Nat) (rest : List UInt8) (h : ASt a b bb lr r dk A c dt tot w (be4 (n : Int) ++ rest)) (hn : n < 4294967296) :
    Calls Try.prog 88 #[.iface 177 (.pointer (some ⟨a, 0, none⟩)), .pointer (some ⟨w.heap.size, 0, none⟩)] (w.alloc (.cells #[.int .u32 0] 163)) fun e w' => e = .returned .nilIface ∧ Cs w' w.heap.size #[.int .u32 n] ∧ ASt a b bb lr r dk A c dt tot w' rest ∧ Fr w.heap.size (AX a b bb lr r dk) w w' := by
  have R := al_rdk a b bb lr r dk A c dt tot
  have hb : Below w.heap.size w (w.alloc (.cells #[.int .u32 0] 163)) := (Below.refl _ _).alloc (Nat.le_refl _) _
  have hX := R.xl w _ h
  refine (readToken_walk R _ _ (R.keep _ _ _ h (fun k hk => hb.block k (hX k hk))) w.heap.size (.int .u32 0) (Cs.new w 163 _) (fun e => by have := hX _ e; omega) n rest hn rfl).mono ?_
  rintro e w1 ⟨rfl, h1, h2, h3⟩
  exact ⟨rfl, h1, h2, (Fr.of_below hb).trans (h3.mono (by simp) (fun k hk e => e.elim (fun e => by omega) id))⟩

/-- Align after a token alone. -/
theorem align_step (w : World) (l rest : List UInt8) (h : ASt a b bb lr r dk A c dt tot w (l ++ rest)) (hl : (tot - rest.length) % 4 = 0) (hl4 : l.length < 4) :
    Calls Try.prog 93 #[.pointer (some ⟨a, 0, none⟩), .int .i64 4] w fun e w' => (∃ p, e = .returned (.tuple #[p, .nilIface])) ∧ ASt a b bb lr r dk A c dt tot w' rest ∧ Fr w.heap.size (AX a b bb lr r dk) w w' :=
  al_align w l rest h (by
    have := h.2.2.1
    rw [List.length_append] at this ⊢
    rw [show tot - (l.length + rest.length) + l.length = tot - rest.length by omega]
    exact hl) hl4

def loopQ (a b bb lr r : Nat) (dk : Nat → Prop) (A : Option Addr) (c : Nat) (dt : List UInt8) (tot f g sl n0 n1 n2 n3 n4 n5 n6 n7 n8 : Nat) (s : Value) (strs : List UInt8) (nop : Nat) (root : Nd) (w0 : World) (rest : List UInt8) (Q0 : Exit → Act → World → Prop) : Exit → Act → World → Prop :=
  Exit.then (fun a' w' => WI a b bb lr r dk A c dt tot f g sl n0 n1 n2 n3 n4 n5 n6 n7 n8 s strs nop root w0 a' w' ∧ leftOf tot a w' < rest.length) Q0

def FinP (a b bb lr r : Nat) (dk : Nat → Prop) (tot f n0 n1 n2 n3 n4 n5 n6 n7 n8 : Nat) (s : Value) (root : Nd) (w0 w : World) : Prop :=
  ∃ lt : LT, lt.erase = root ∧ Cs w f (fdtC n0 n1 n2 n3 n4 n5 n6 n7 n8 tot s (ptr lt.b)) ∧ PN w (Rng w0 w) lt ∧ Fr w0.heap.size (fun k => k = f ∨ AX a b bb lr r dk k) w0 w
end
end Go.Proofs.Ytlbhadggfipckaa

set_option linter.unusedVariables false
set_option linter.unusedSimpArgs false
namespace Go.Proofs.Ytlbhadggfipckaa
open Go.RowKit
section
variable {a b bb lr r : Nat} {dk : Nat → Prop} {A : Option Addr} {c : Nat} {dt : List UInt8} {tot f g sl n0 n1 n2 n3 n4 n5 n6 n7 n8 : Nat} {s : Value} {strs : List UInt8} {nop : Nat} {root : Nd} {w0 : World}

theorem done_same (E : Env a b bb lr r dk tot f g sl strs nop root w0) {w w2 : World} {st : Value} {fs : List Fra} {col : Nat → Nat} (e5 : Loo w0.heap.size w col st fs) (hf : Fr w.heap.size (AX a b bb lr r dk) w w2) : Same (Done col) w w2 := fun k hk => by
  refine hf.block k ?_ (fun hx => ?_)
  · rcases Nat.lt_or_ge k w.heap.size with h | h
    · exact h
    · exact absurd (e5.new k h) (by rw [show col k = 0 from hk]; decide)
  · exact absurd (e5.old k (E.xl k hx)) (by rw [show col k = 0 from hk]; decide)

theorem done_rng {w : World} {st : Value} {fs : List Fra} {col : Nat → Nat} (e5 : Loo w0.heap.size w col st fs) (k : Nat) (hk : Done col k) : Rng w0 w k := by
  constructor
  · rcases Nat.lt_or_ge k w0.heap.size with h | h
    · exact absurd (e5.old k h) (by rw [show col k = 0 from hk]; decide)
    · exact h
  · rcases Nat.lt_or_ge k w.heap.size with h | h
    · exact h
    · exact absurd (e5.new k h) (by rw [show col k = 0 from hk]; decide)

theorem keep_fr (E : Env a b bb lr r dk tot f g sl strs nop root w0) {w w2 : World} {st : Value} {fs : List Fra} {col : Nat → Nat} {full : List UInt8} {pv : Value} (e5 : Loo w0.heap.size w col st fs) (e6 : Fr w0.heap.size (fun k => k = f ∨ AX a b bb lr r dk k) w0 w)
    (e7 : Cs w f (fdtC n0 n1 n2 n3 n4 n5 n6 n7 n8 tot s pv)) (e8 : Pha strs nop root w col fs pv full) (hf : Fr w.heap.size (AX a b bb lr r dk) w w2) :
    Loo w0.heap.size w2 col st fs ∧ Fr w0.heap.size (fun k => k = f ∨ AX a b bb lr r dk k) w0 w2 ∧ Cs w2 f (fdtC n0 n1 n2 n3 n4 n5 n6 n7 n8 tot s pv) ∧ Pha strs nop root w2 col fs pv full := by
  exact ⟨e5.fr hf (fun k hk => .inl (E.xl k hk)), e6.trans (hf.mono e6.size (fun k hk h => .inr h)), e7.fr2 hf E.fX, e8.keep (done_same E e5 hf)⟩

set_option maxRecDepth 20000 in
set_option maxHeartbeats 4000000 in
theorem case_nop (E : Env a b bb lr r dk tot f g sl strs nop root w0) {w : World} {st : Value} {fs : List Fra} {col : Nat → Nat} {i : Nat} {full rest : List UInt8} {pv : Value} {Q0 : Exit → Act → World → Prop}
    (e1 : full = nops i ++ (be4 4 ++ rest)) (e2 : i < nop) (e3 : (tot - (be4 4 ++ rest).length) % 4 = 0) (e4 : ASt a b bb lr r dk A c dt tot w (be4 4 ++ rest)) (e5 : Loo w0.heap.size w col st fs) (e6 : Fr w0.heap.size (fun k => k = f ∨ AX a b bb lr r dk k) w0 w)
    (e7 : Cs w f (fdtC n0 n1 n2 n3 n4 n5 n6 n7 n8 tot s pv)) (e8 : Pha strs nop root w col fs pv full) (u3 u4 u5 u6 u7 u8 u11 u12 u13 u14 u15 u16 u17 u18 u19 u20 u21 u22 u23 u24 u25 u26 u27 u28 u29 u30 u31 u32 u33 u34 u35 u36 u37 u38 u39 u40 u41 u42 u43 u44 u45 u46 u47 u48 u49 u50 u51 u52 u53 u54 u55 u56 u57 u58 u59 u60 u61 u62 u63 u64 u65 u66 u67 u68 u69 u70 u71 u72 u73 u74 u75 u76 u77 u78 u79 u80 u81 u82 u83 u84 u85 u86 u87 u88 u89 u90 u91 u92 u93 u94 u95 u96 u97 u98 u99 u100 u101 u102 u103 u104 u105 u106 u107 u108 u109 u110 u111 u112 u113 u114 u115 u116 u117 u118 u119 u120 u121 u122 u123 u124 u125 u126 u127 u128 u129 u130 u131 u132 u133 u134 u135 u136 u137 u138 u139 u140 u141 u142 u143 u144 u145 u146 u147 u148 u149 u150 u151 u152 u153 u154 u155 u156 u157 u158 u159 u160 u161 u162 u163 u164 u165 u166 u167 u168 u169 u170 u171 u172 u173 u174 u175 u176 u177 u178 u179 u180 u181 u182 u183 u184 u185 u186 u187 u188 u189 u190 u191 u192 u193 u194 u195 u196 u197 u198 u199 u200 u201 u202 u203 u204 u205 u206 u207 u208 u209 u210 u211 u212 u213 u214 u215 u216 u217 u218 u219 u220 u221 u222 u223 u224 u225 u226 u227 u228 u229 u230 u231 u232 u233 u234 u235 u236 u237 u238 u239 u240 u241 u242 u243 u244 : Value) :
    Code.wp Try.prog body83 (loopQ a b bb lr r dk A c dt tot f g sl n0 n1 n2 n3 n4 n5 n6 n7 n8 s strs nop root w0 (be4 4 ++ rest) Q0) ⟨#[.pointer (some ⟨f, 0, none⟩), .iface 142 (.pointer (some ⟨r, 0, none⟩)), .slice (some ⟨g, 0, none⟩) sl sl, u3, u4, u5, u6, u7, u8, .pointer (some ⟨a, 0, none⟩), st, u11, u12, u13, u14, u15, u16, u17, u18, u19, u20, u21, u22, u23, u24, u25, u26, u27, u28, u29, u30, u31, u32, u33, u34, u35, u36, u37, u38, u39, u40, u41, u42, u43, u44, u45, u46, u47, u48, u49, u50, u51, u52, u53, u54, u55, u56, u57, u58, u59, u60, u61, u62, u63, u64, u65, u66, u67, u68, u69, u70, u71, u72, u73, u74, u75, u76, u77, u78, u79, u80, u81, u82, u83, u84, u85, u86, u87, u88, u89, u90, u91, u92, u93, u94, u95, u96, u97, u98, u99, u100, u101, u102, u103, u104, u105, u106, u107, u108, u109, u110, u111, u112, u113, u114, u115, u116, u117, u118, u119, u120, u121, u122, u123, u124, u125, u126, u127, u128, u129, u130, u131, u132, u133, u134, u135, u136, u137, u138, u139, u140, u141, u142, u143, u144, u145, u146, u147, u148, u149, u150, u151, u152, u153, u154, u155, u156, u157, u158, u159, u160, u161, u162, u163, u164, u165, u166, u167, u168, u169, u170, u171, u172, u173, u174, u175, u176, u177, u178, u179, u180, u181, u182, u183, u184, u185, u186, u187, u188, u189, u190, u191, u192, u193, u194, u195, u196, u197, u198, u199, u200, u201, u202, u203, u204, u205, u206, u207, u208, u209, u210, u211, u212, u213, u214, u215, u216, u217, u218, u219, u220, u221, u222, u223, u224, u225, u226, u227, u228, u229, u230, u231, u232, u233, u234, u235, u236, u237, u238, u239, u240, u241, u242, u243, u244], []⟩ w := by
  have HT := Lib.hid (tok_step w 4 rest e4 (by omega))
  have hlen : (be4 4 ++ rest).length = rest.length + 4 := by rw [List.length_append]; show 4 + rest.length = _; omega
  have hrt := e4.2.2.1
  rw [hlen] at e3 hrt
  have hal : (tot - rest.length) % 4 = 0 := by omega
  have HH := Lib.hid (And.intro e1 (And.intro e2 (And.intro e5 (And.intro e6 (And.intro e7 (And.intro e8 hlen))))))
  have HE := Lib.hid E
  clear e1 e2 e3 e4 e5 e6 e7 e8 E hlen hrt
  conv => arg 2; whnf
  unfold loopQ
  go_wp2_with fail
  refine HT.out.mono ?_
  rintro e w1 ⟨rfl, hc1, hs1, hf1⟩
  have c0 : w1.cell? ⟨w.heap.size, 0, none⟩ = some (.int .u32 4) := (hc1.cell 0).trans rfl
  have HA := Lib.hid (align_step w1 [] rest hs1 hal (by simp))
  have HF := Lib.hid hf1
  clear hc1 hs1 hf1
  go_wp2_with fail
  refine HA.out.mono ?_
  rintro e w2 ⟨⟨p, rfl⟩, hs2, hf2⟩
  have hF : Fr w.heap.size (AX a b bb lr r dk) w w2 := HF.out.trans (hf2.mono HF.out.size (fun _ _ h => h))
  obtain ⟨e1, e2, e5, e6, e7, e8, hlen⟩ := HH.out
  obtain ⟨g5, g6, g7, g8⟩ := keep_fr HE.out e5 e6 e7 e8 hF
  have HR := Lib.hid (show Rel a b bb lr r dk A c dt tot f n0 n1 n2 n3 n4 n5 n6 n7 n8 s strs nop root w0 st w2 rest fs from
    ⟨col, i + 1, full, pv, by rw [e1, nops_succ, List.append_assoc], e2, hal, hs2, g5, g6, g7, g8⟩)
  have HL := Lib.hid (show rest.length < (be4 4 ++ rest).length by omega)
  clear e1 e2 e5 e6 e7 e8 hlen g5 g6 g7 g8 hF hs2 hf2
  go_wp2_with fail
  exact WI_intro rfl rfl rfl rfl rfl rfl HR.out HL.out

set_option maxRecDepth 20000 in
set_option maxHeartbeats 4000000 in
theorem case_end (E : Env a b bb lr r dk tot f g sl strs nop root w0) {w : World} {st : Value} {lt : LT} {col : Nat → Nat} {Q0 : Exit → Act → World → Prop}
    (hq : ∀ t w', t[6]? = some .nilIface → FinP a b bb lr r dk tot f n0 n1 n2 n3 n4 n5 n6 n7 n8 s root w0 w' → Q0 .ret ⟨t, []⟩ w')
    (e4 : ASt a b bb lr r dk A c dt tot w (be4 9 ++ [])) (e5 : Loo w0.heap.size w col st []) (e6 : Fr w0.heap.size (fun k => k = f ∨ AX a b bb lr r dk k) w0 w)
    (e7 : Cs w f (fdtC n0 n1 n2 n3 n4 n5 n6 n7 n8 tot s (ptr lt.b))) (e8 : PN w (Done col) lt) (e9 : lt.erase = root) (u3 u4 u5 u6 u7 u8 u11 u12 u13 u14 u15 u16 u17 u18 u19 u20 u21 u22 u23 u24 u25 u26 u27 u28 u29 u30 u31 u32 u33 u34 u35 u36 u37 u38 u39 u40 u41 u42 u43 u44 u45 u46 u47 u48 u49 u50 u51 u52 u53 u54 u55 u56 u57 u58 u59 u60 u61 u62 u63 u64 u65 u66 u67 u68 u69 u70 u71 u72 u73 u74 u75 u76 u77 u78 u79 u80 u81 u82 u83 u84 u85 u86 u87 u88 u89 u90 u91 u92 u93 u94 u95 u96 u97 u98 u99 u100 u101 u102 u103 u104 u105 u106 u107 u108 u109 u110 u111 u112 u113 u114 u115 u116 u117 u118 u119 u120 u121 u122 u123 u124 u125 u126 u127 u128 u129 u130 u131 u132 u133 u134 u135 u136 u137 u138 u139 u140 u141 u142 u143 u144 u145 u146 u147 u148 u149 u150 u151 u152 u153 u154 u155 u156 u157 u158 u159 u160 u161 u162 u163 u164 u165 u166 u167 u168 u169 u170 u171 u172 u173 u174 u175 u176 u177 u178 u179 u180 u181 u182 u183 u184 u185 u186 u187 u188 u189 u190 u191 u192 u193 u194 u195 u196 u197 u198 u199 u200 u201 u202 u203 u204 u205 u206 u207 u208 u209 u210 u211 u212 u213 u214 u215 u216 u217 u218 u219 u220 u221 u222 u223 u224 u225 u226 u227 u228 u229 u230 u231 u232 u233 u234 u235 u236 u237 u238 u239 u240 u241 u242 u243 u244 : Value) :
    Code.wp Try.prog body83 (loopQ a b bb lr r dk A c dt tot f g sl n0 n1 n2 n3 n4 n5 n6 n7 n8 s strs nop root w0 (be4 9 ++ []) Q0) ⟨#[.pointer (some ⟨f, 0, none⟩), .iface 142 (.pointer (some ⟨r, 0, none⟩)), .slice (some ⟨g, 0, none⟩) sl sl, u3, u4, u5, u6, u7, u8, .pointer (some ⟨a, 0, none⟩), st, u11, u12, u13, u14, u15, u16, u17, u18, u19, u20, u21, u22, u23, u24, u25, u26, u27, u28, u29, u30, u31, u32, u33, u34, u35, u36, u37, u38, u39, u40, u41, u42, u43, u44, u45, u46, u47, u48, u49, u50, u51, u52, u53, u54, u55, u56, u57, u58, u59, u60, u61, u62, u63, u64, u65, u66, u67, u68, u69, u70, u71, u72, u73, u74, u75, u76, u77, u78, u79, u80, u81, u82, u83, u84, u85, u86, u87, u88, u89, u90, u91, u92, u93, u94, u95, u96, u97, u98, u99, u100, u101, u102, u103, u104, u105, u106, u107, u108, u109, u110, u111, u112, u113, u114, u115, u116, u117, u118, u119, u120, u121, u122, u123, u124, u125, u126, u127, u128, u129, u130, u131, u132, u133, u134, u135, u136, u137, u138, u139, u140, u141, u142, u143, u144, u145, u146, u147, u148, u149, u150, u151, u152, u153, u154, u155, u156, u157, u158, u159, u160, u161, u162, u163, u164, u165, u166, u167, u168, u169, u170, u171, u172, u173, u174, u175, u176, u177, u178, u179, u180, u181, u182, u183, u184, u185, u186, u187, u188, u189, u190, u191, u192, u193, u194, u195, u196, u197, u198, u199, u200, u201, u202, u203, u204, u205, u206, u207, u208, u209, u210, u211, u212, u213, u214, u215, u216, u217, u218, u219, u220, u221, u222, u223, u224, u225, u226, u227, u228, u229, u230, u231, u232, u233, u234, u235, u236, u237, u238, u239, u240, u241, u242, u243, u244], []⟩ w := by
  have HT := Lib.hid (tok_step w 9 [] e4 (by omega))
  have HH := Lib.hid (And.intro e5 (And.intro e6 (And.intro e7 (And.intro e8 e9))))
  have HE := Lib.hid E
  have HQ := Lib.hid hq
  have htt := E.tt
  clear e4 e5 e6 e7 e8 e9 E hq
  conv => arg 2; whnf
  unfold loopQ
  go_wp2_with fail
  refine HT.out.mono ?_
  rintro e w1 ⟨rfl, hc1, hs1, hf1⟩
  have c0 : w1.cell? ⟨w.heap.size, 0, none⟩ = some (.int .u32 9) := (hc1.cell 0).trans rfl
  obtain ⟨g5, g6, g7, g8⟩ := keep_fr HE.out HH.out.1 HH.out.2.1 HH.out.2.2.1 (.fin (nop := nop) (strs := strs) HH.out.2.2.2.1 HH.out.2.2.2.2) hf1
  have k1 : w1.cell? ⟨a, 1, none⟩ = some (.int .i64 (tot : Int)) := (hs1.1.cell 1).trans rfl
  have k9 : w1.cell? ⟨f, 9, none⟩ = some (.int .u32 (tot : Nat)) := (g7.cell 9).trans rfl
  have k11 : w1.cell? ⟨f, 11, none⟩ = some (.pointer (some ⟨lt.b, 0, none⟩)) := (g7.cell 11).trans rfl
  have hw32 : IntKind.u32.wrap (tot : Int) = (tot : Int) := by simp only [IntKind.wrap, IntKind.bits, IntKind.signed]; simp; omega
  have HF := Lib.hid (show FinP a b bb lr r dk tot f n0 n1 n2 n3 n4 n5 n6 n7 n8 s root w0 w1.drew from ⟨lt, HH.out.2.2.2.2, g7.drew, HH.out.2.2.2.1.mono (w' := w1.drew) (fun k hk => done_same HE.out HH.out.1 hf1 k hk) (done_rng g5), g6.drew⟩)
  clear hc1 hs1 hf1 g5 g6 g7 g8
  go_wp2_with fail
  refine wp_region_plan (fun w' => w'.cell? ⟨a, 1, none⟩ = some (.int .i64 (tot : Int)) ∧ w'.cell? ⟨f, 9, none⟩ = some (.int .u32 (tot : Nat))) 11 (.quiet 0 (.quiet 1 (.quiet 2 (.quiet 3 (.quiet 4 (.quiet 5 (.quiet 6 (.quiet 7 (.quiet 8 (.quiet 9 (.quiet 10 .done))))))))))) (by kernel_rfl) (by kernel_rfl) ⟨k1, k9⟩ ?_
  simp only [planO, opAt, List.getElem?_toArray, List.getElem?_cons_zero, List.getElem?_cons_succ, Option.getD_some, Nat.reduceBEq]
  iterate 11
    refine' SeqT.quiet (by rfl) ?_ ?_
    rotate_left
    · rintro w' ⟨hS1, hS2⟩
      go_simp
      try with_reducible rfl
    try simp only [Act.put, List.setIfInBounds_toArray, List.set_cons_zero, List.set_cons_succ]
  refine SeqT.done ?_
  go_wp2_with fail
  exact HQ.out _ _ rfl HF.out
end
end Go.Proofs.Ytlbhadggfipckaa

set_option linter.unusedVariables false
set_option linter.unusedSimpArgs false
namespace Go.Proofs.Ytlbhadggfipckaa
open Go.RowKit

/-- An open node, closed. -/
def clo (f : Fra) : LT := .mk f.b f.nm f.ps f.ks

def popF (f : Fra) : List Fra → List Fra
  | [] => []
  | p :: r => { p with ks := p.ks ++ [clo f] } :: r

theorem popF_b (f : Fra) (fs : List Fra) : (popF f fs).map Fra.b = fs.map Fra.b := by cases fs <;> rfl
theorem popF_len (f : Fra) (fs : List Fra) : (popF f fs).length = fs.length := by cases fs <;> rfl

theorem FraC.close {w : World} {col : Nat → Nat} {d : Nat} {f : Fra} (h : FraC w col d f []) (hn : f.nm.size ≤ 31) (hp : f.ps.length ≤ 250) (hk : f.ks.length ≤ 250) : PN w (fun k => col k = 0 ∨ 3 * d + 4 ≤ col k) (clo f) := by
  obtain ⟨vp, vk, ts, h1, h2, h3, h4, h5, h6⟩ := h
  obtain ⟨A, c, rfl⟩ := own_slice h3.1
  simp only [List.append_nil, List.length_map] at h5
  obtain ⟨A2, c2, rfl⟩ := own_slice h5.1
  obtain ⟨o1, o2, o3⟩ := own_form h5.1
  refine PN.mk (.inr (by omega)) (by omega) h2 (props_of_own70 h3.1 h4 rfl (by omega) (fun b hb => .inl hb) (fun g hg => .inr (by have := h3.2 g hg; omega))) (by omega) o1 o2 (fun k hk => (h6 k hk).mono (Same.refl _ _) fun _ h => .inl h) ?_
  rcases o3 with o3 | ⟨g, rfl⟩
  · exact .inl (List.length_eq_zero_iff.1 o3)
  · refine .inr ⟨g, 0, rfl, .inr (by have := h5.2 g rfl; omega), fun i k hi => ?_⟩
    have hil := (List.getElem?_eq_some_iff.1 hi).1
    rw [Nat.zero_add, h5.1.cellAt i (by simpa using hil)]
    simp [hi, ptr]

theorem FraC.adopt {w : World} {col : Nat → Nat} {d b : Nat} {f : Fra} {lt : LT} (h : FraC w col d f [b]) (hl : PN w (Done col) lt) (hb : lt.b = b) : FraC w col d { f with ks := f.ks ++ [lt] } [] := by
  obtain ⟨vp, vk, ts, h1, h2, h3, h4, h5, h6⟩ := h
  refine ⟨vp, vk, ts, h1, h2, h3, h4, ?_, fun k hk => ?_⟩
  · subst hb
    simpa using h5
  · rcases List.mem_append.1 hk with hk | hk
    · exact h6 k hk
    · rw [List.mem_singleton.1 hk]; exact hl

theorem loo_pop {W : Nat} {w : World} {col : Nat → Nat} {gs cap : Nat} {f : Fra} {fs : List Fra} (h : Loo W w col (.slice (some ⟨gs, 0, none⟩) (fs.length + 1) cap) (f :: fs)) (hn : f.nm.size ≤ 31) (hp : f.ps.length ≤ 250) (hk : f.ks.length ≤ 250) :
    ∃ col', Loo W w col' (.slice (some ⟨gs, 0, none⟩) fs.length cap) (popF f fs) ∧ PN w (Done col') (clo f) := by
  obtain ⟨h1, h2, h3, h4, h5⟩ := h
  have hc := h4.close hn hp hk
  obtain ⟨D, hD⟩ : ∃ D, D = 3 * fs.length + 4 := ⟨_, rfl⟩
  rw [← hD] at hc
  refine ⟨fun k => if D ≤ col k then 0 else col k, ?_, ?_⟩
  · have e0 : ∀ k, ¬ D ≤ col k → (if D ≤ col k then 0 else col k) = col k := fun k hk => if_neg hk
    have hPN : PN w (Done fun k => if D ≤ col k then 0 else col k) (clo f) := hc.mono (Same.refl _ _) fun k hk => by
      show (if D ≤ col k then 0 else col k) = 0
      rcases hk with hk | hk
      · rw [if_neg (by omega)]; exact hk
      · rw [if_pos hk]
    refine ⟨fun k hk => ?_, fun k hk => ?_, ?_, ?_⟩
    · show (if D ≤ col k then 0 else col k) = 1
      rw [if_neg (by rw [h1 k hk]; omega)]; exact h1 k hk
    · show (if D ≤ col k then 0 else col k) = 1
      rw [if_neg (by rw [h2 k hk]; omega)]; exact h2 k hk
    · rw [popF_b, popF_len]
      refine ⟨ownsRow_pop (last := [ptr f.b]) (by simp) ?_, fun g hg => ?_⟩
      · have := h3.1
        simp only [List.map_cons, List.reverse_cons, List.map_append, List.map_nil, List.length_cons] at this
        exact this
      · have := h3.2 g hg
        show (if D ≤ col g then 0 else col g) = 3
        rw [if_neg (by omega)]; exact this
    · cases fs with
      | nil => exact trivial
      | cons p r =>
        simp only [List.length_cons] at hD
        refine ⟨FraC.adopt (b := f.b) (h5.1.keep fun k hk => ⟨e0 k (by omega), rfl⟩) hPN rfl, ?_⟩
        exact h5.2.keep fun k hk => ⟨e0 k (by omega), rfl⟩
  · exact hc.mono (Same.refl _ _) fun k hk => by
      show (if D ≤ col k then 0 else col k) = 0
      rcases hk with hk | hk
      · rw [if_neg (by omega)]; exact hk
      · rw [if_pos hk]

theorem pha_pop {strs : List UInt8} {nop : Nat} {root : Nd} {w : World} {col' : Nat → Nat} {f : Fra} {fs : List Fra} {more : List UInt8} (h : Rem strs nop fs more) (hw : whole (f :: fs) = root) (hp : f.rp = []) (hk : f.rk = []) (hc : PN w (Done col') (clo f)) : Pha strs nop root w col' (popF f fs) (ptr (bot (f :: fs))) more := by
  cases fs with
  | nil =>
    have h : more = tok nop 9 := h
    subst h
    refine Pha.fin (lt := clo f) hc ?_
    rw [← hw]
    simp [whole, plug, clo, LT.erase, hp, hk]
  | cons p r =>
    rw [bot_cons, bot_head p { p with ks := p.ks ++ [clo f] } r rfl]
    refine Pha.mid h ?_
    rw [← hw]
    simp [whole, plug, clo, LT.erase, hp, hk, eraseL_snocF]

section
variable {a b bb lr r : Nat} {dk : Nat → Prop} {A : Option Addr} {c : Nat} {dt : List UInt8} {tot f g sl n0 n1 n2 n3 n4 n5 n6 n7 n8 : Nat} {s : Value} {strs : List UInt8} {nop : Nat} {root : Nd} {w0 : World}

set_option maxRecDepth 20000 in
set_option maxHeartbeats 4000000 in
theorem case_pop (E : Env a b bb lr r dk tot f g sl strs nop root w0) {w : World} {gs m cap : Nat} {fr : Fra} {fs : List Fra} {col : Nat → Nat} {rest : List UInt8} {Q0 : Exit → Act → World → Prop}
    (e1 : Rem strs nop fs rest) (ew : whole (fr :: fs) = root) (ep : fr.rp = []) (ek : fr.rk = []) (e3 : (tot - (be4 2 ++ rest).length) % 4 = 0) (e4 : ASt a b bb lr r dk A c dt tot w (be4 2 ++ rest)) (em : m = fs.length + 1) (e5 : Loo w0.heap.size w col (.slice (some ⟨gs, 0, none⟩) m cap) (fr :: fs)) (e6 : Fr w0.heap.size (fun k => k = f ∨ AX a b bb lr r dk k) w0 w)
    (e7 : Cs w f (fdtC n0 n1 n2 n3 n4 n5 n6 n7 n8 tot s (ptr (bot (fr :: fs))))) (u3 u4 u5 u6 u7 u8 u11 u12 u13 u14 u15 u16 u17 u18 u19 u20 u21 u22 u23 u24 u25 u26 u27 u28 u29 u30 u31 u32 u33 u34 u35 u36 u37 u38 u39 u40 u41 u42 u43 u44 u45 u46 u47 u48 u49 u50 u51 u52 u53 u54 u55 u56 u57 u58 u59 u60 u61 u62 u63 u64 u65 u66 u67 u68 u69 u70 u71 u72 u73 u74 u75 u76 u77 u78 u79 u80 u81 u82 u83 u84 u85 u86 u87 u88 u89 u90 u91 u92 u93 u94 u95 u96 u97 u98 u99 u100 u101 u102 u103 u104 u105 u106 u107 u108 u109 u110 u111 u112 u113 u114 u115 u116 u117 u118 u119 u120 u121 u122 u123 u124 u125 u126 u127 u128 u129 u130 u131 u132 u133 u134 u135 u136 u137 u138 u139 u140 u141 u142 u143 u144 u145 u146 u147 u148 u149 u150 u151 u152 u153 u154 u155 u156 u157 u158 u159 u160 u161 u162 u163 u164 u165 u166 u167 u168 u169 u170 u171 u172 u173 u174 u175 u176 u177 u178 u179 u180 u181 u182 u183 u184 u185 u186 u187 u188 u189 u190 u191 u192 u193 u194 u195 u196 u197 u198 u199 u200 u201 u202 u203 u204 u205 u206 u207 u208 u209 u210 u211 u212 u213 u214 u215 u216 u217 u218 u219 u220 u221 u222 u223 u224 u225 u226 u227 u228 u229 u230 u231 u232 u233 u234 u235 u236 u237 u238 u239 u240 u241 u242 u243 u244 : Value) :
    Code.wp Try.prog body83 (loopQ a b bb lr r dk A c dt tot f g sl n0 n1 n2 n3 n4 n5 n6 n7 n8 s strs nop root w0 (be4 2 ++ rest) Q0) ⟨#[.pointer (some ⟨f, 0, none⟩), .iface 142 (.pointer (some ⟨r, 0, none⟩)), .slice (some ⟨g, 0, none⟩) sl sl, u3, u4, u5, u6, u7, u8, .pointer (some ⟨a, 0, none⟩), .slice (some ⟨gs, 0, none⟩) m cap, u11, u12, u13, u14, u15, u16, u17, u18, u19, u20, u21, u22, u23, u24, u25, u26, u27, u28, u29, u30, u31, u32, u33, u34, u35, u36, u37, u38, u39, u40, u41, u42, u43, u44, u45, u46, u47, u48, u49, u50, u51, u52, u53, u54, u55, u56, u57, u58, u59, u60, u61, u62, u63, u64, u65, u66, u67, u68, u69, u70, u71, u72, u73, u74, u75, u76, u77, u78, u79, u80, u81, u82, u83, u84, u85, u86, u87, u88, u89, u90, u91, u92, u93, u94, u95, u96, u97, u98, u99, u100, u101, u102, u103, u104, u105, u106, u107, u108, u109, u110, u111, u112, u113, u114, u115, u116, u117, u118, u119, u120, u121, u122, u123, u124, u125, u126, u127, u128, u129, u130, u131, u132, u133, u134, u135, u136, u137, u138, u139, u140, u141, u142, u143, u144, u145, u146, u147, u148, u149, u150, u151, u152, u153, u154, u155, u156, u157, u158, u159, u160, u161, u162, u163, u164, u165, u166, u167, u168, u169, u170, u171, u172, u173, u174, u175, u176, u177, u178, u179, u180, u181, u182, u183, u184, u185, u186, u187, u188, u189, u190, u191, u192, u193, u194, u195, u196, u197, u198, u199, u200, u201, u202, u203, u204, u205, u206, u207, u208, u209, u210, u211, u212, u213, u214, u215, u216, u217, u218, u219, u220, u221, u222, u223, u224, u225, u226, u227, u228, u229, u230, u231, u232, u233, u234, u235, u236, u237, u238, u239, u240, u241, u242, u243, u244], []⟩ w := by
  have HT := Lib.hid (tok_step w 2 rest e4 (by omega))
  have hlen : (be4 2 ++ rest).length = rest.length + 4 := by rw [List.length_append]; show 4 + rest.length = _; omega
  have hrt := e4.2.2.1
  rw [hlen] at e3 hrt
  have hal : (tot - rest.length) % 4 = 0 := by omega
  obtain ⟨wf1, wf2, wf3, wf4, wf5, wf6, wf7⟩ := whole_facts ew E.ok E.cost
  obtain ⟨oc, -⟩ := own_cap e5.stk.1
  obtain ⟨n, hn⟩ : ∃ n, n = fs.length := ⟨_, rfl⟩
  rw [← hn] at em
  have hmn : m ≤ cap := by rw [em, hn]; simpa using oc
  have hnc : (n : Int) ≤ (cap : Int) := by omega
  have hm0 : ((m : Int) == 0) = false := by simp; omega
  have hms : (m : Int) - 1 = (n : Int) := by omega
  have hsw : IntKind.i64.wrap (n : Int) = (n : Int) := by simp only [IntKind.wrap, IntKind.bits, IntKind.signed]; simp; omega
  have hn0 : (0 : Int) ≤ (n : Int) := by omega
  have hpop := loo_pop (by rw [← hn, ← em]; exact e5) wf1.1 (by omega) (by omega)
  rw [← hn] at hpop
  have HH := Lib.hid (And.intro e1 (And.intro ew (And.intro ep (And.intro ek (And.intro e6 (And.intro e7 (And.intro hpop hlen)))))))
  have HE := Lib.hid E
  clear e1 e3 e4 e5 e6 e7 E hlen hrt wf1 wf2 wf3 wf4 wf5 wf6 wf7 ew ep ek hpop oc hn em
  conv => arg 2; whnf
  unfold loopQ
  go_wp2_with fail
  refine HT.out.mono ?_
  rintro e w1 ⟨rfl, hc1, hs1, hf1⟩
  have c0 : w1.cell? ⟨w.heap.size, 0, none⟩ = some (.int .u32 2) := (hc1.cell 0).trans rfl
  have HA := Lib.hid (align_step w1 [] rest hs1 hal (by simp))
  have HF := Lib.hid hf1
  clear hc1 hs1 hf1
  go_wp2_with fail
  refine HA.out.mono ?_
  rintro e w2 ⟨⟨p, rfl⟩, hs2, hf2⟩
  have hF : Fr w.heap.size (AX a b bb lr r dk) w w2 := HF.out.trans (hf2.mono HF.out.size (fun _ _ h => h))
  obtain ⟨e1, ew, ep, ek, e6, e7, ⟨col', e5, ec⟩, hlen⟩ := HH.out
  obtain ⟨g5, g6, g7, g8⟩ := keep_fr HE.out e5 e6 e7 (pha_pop e1 ew ep ek ec) hF
  have HR := Lib.hid (show Rel a b bb lr r dk A c dt tot f n0 n1 n2 n3 n4 n5 n6 n7 n8 s strs nop root w0 (.slice (some ⟨gs, 0, none⟩) n cap) w2 rest _ from
    ⟨col', 0, rest, _, by simp [nops], by omega, hal, hs2, g5, g6, g7, g8⟩)
  have HL := Lib.hid (show rest.length < (be4 2 ++ rest).length by omega)
  clear e1 e5 e6 e7 ec hlen g5 g6 g7 g8 hF hs2 hf2 ew ep ek
  go_wp2_with fail
  exact WI_intro rfl rfl rfl rfl rfl rfl HR.out HL.out
end
end Go.Proofs.Ytlbhadggfipckaa
