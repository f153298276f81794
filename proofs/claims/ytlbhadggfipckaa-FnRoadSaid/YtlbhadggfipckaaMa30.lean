/-
  The loop of readStructBlock: a child is opened.
  The loop of readStructBlock: a round; the loop.
-/
import Derived.Test.YtlbhadggfipckaaMa29
import Derived.Deep.DeepCutAuto
set_option linter.unusedVariables false
set_option linter.unusedSimpArgs false
namespace Go.Proofs.Ytlbhadggfipckaa
open Go.RowKit
section
variable {a b bb lr r : Nat} {dk : Nat → Prop} {A : Option Addr} {c : Nat} {dt : List UInt8} {tot f g sl n0 n1 n2 n3 n4 n5 n6 n7 n8 : Nat} {s : Value} {strs : List UInt8} {nop : Nat} {root : Nd} {w0 : World}

set_option maxRecDepth 20000 in
set_option maxHeartbeats 4000000 in
theorem case_child (E : Env a b bb lr r dk tot f g sl strs nop root w0) {w : World} {gs m cap : Nat} {fr : Fra} {fs : List Fra} {col : Nat → Nat} {rest bp bk more : List UInt8} {kn : ByteArray} {kp : List Pr} {kk rk : List Nd} {Q0 : Exit → Act → World → Prop}
    (ep : fr.rp = []) (ek : fr.rk = .mk kn kp kk :: rk) (ebp : EncP strs nop kp bp) (ebk : EncL strs nop kk bk) (e1 : Rem strs nop ({ fr with rk := rk } :: fs) more) (er : rest = be4 1 ++ (pad4 (bytesOf kn ++ [0]) ++ (bp ++ bk ++ tok nop 2 ++ more))) (ew : whole (fr :: fs) = root)
    (e3 : (tot - rest.length) % 4 = 0) (e4 : ASt a b bb lr r dk A c dt tot w rest) (em : m = fs.length + 1) (e5 : Loo w0.heap.size w col (.slice (some ⟨gs, 0, none⟩) m cap) (fr :: fs)) (e6 : Fr w0.heap.size (fun k => k = f ∨ AX a b bb lr r dk k) w0 w)
    (e7 : Cs w f (fdtC n0 n1 n2 n3 n4 n5 n6 n7 n8 tot s (ptr (bot (fr :: fs))))) (u3 u4 u5 u6 u7 u8 u11 u12 u13 u14 u15 u16 u17 u18 u19 u20 u21 u22 u23 u24 u25 u26 u27 u28 u29 u30 u31 u32 u33 u34 u35 u36 u37 u38 u39 u40 u41 u42 u43 u44 u45 u46 u47 u48 u49 u50 u51 u52 u53 u54 u55 u56 u57 u58 u59 u60 u61 u62 u63 u64 u65 u66 u67 u68 u69 u70 u71 u72 u73 u74 u75 u76 u77 u78 u79 u80 u81 u82 u83 u84 u85 u86 u87 u88 u89 u90 u91 u92 u93 u94 u95 u96 u97 u98 u99 u100 u101 u102 u103 u104 u105 u106 u107 u108 u109 u110 u111 u112 u113 u114 u115 u116 u117 u118 u119 u120 u121 u122 u123 u124 u125 u126 u127 u128 u129 u130 u131 u132 u133 u134 u135 u136 u137 u138 u139 u140 u141 u142 u143 u144 u145 u146 u147 u148 u149 u150 u151 u152 u153 u154 u155 u156 u157 u158 u159 u160 u161 u162 u163 u164 u165 u166 u167 u168 u169 u170 u171 u172 u173 u174 u175 u176 u177 u178 u179 u180 u181 u182 u183 u184 u185 u186 u187 u188 u189 u190 u191 u192 u193 u194 u195 u196 u197 u198 u199 u200 u201 u202 u203 u204 u205 u206 u207 u208 u209 u210 u211 u212 u213 u214 u215 u216 u217 u218 u219 u220 u221 u222 u223 u224 u225 u226 u227 u228 u229 u230 u231 u232 u233 u234 u235 u236 u237 u238 u239 u240 u241 u242 u243 u244 : Value) :
    Code.wp Try.prog body83 (loopQ a b bb lr r dk A c dt tot f g sl n0 n1 n2 n3 n4 n5 n6 n7 n8 s strs nop root w0 rest Q0) ⟨#[.pointer (some ⟨f, 0, none⟩), .iface 142 (.pointer (some ⟨r, 0, none⟩)), .slice (some ⟨g, 0, none⟩) sl sl, u3, u4, u5, u6, u7, u8, .pointer (some ⟨a, 0, none⟩), .slice (some ⟨gs, 0, none⟩) m cap, u11, u12, u13, u14, u15, u16, u17, u18, u19, u20, u21, u22, u23, u24, u25, u26, u27, u28, u29, u30, u31, u32, u33, u34, u35, u36, u37, u38, u39, u40, u41, u42, u43, u44, u45, u46, u47, u48, u49, u50, u51, u52, u53, u54, u55, u56, u57, u58, u59, u60, u61, u62, u63, u64, u65, u66, u67, u68, u69, u70, u71, u72, u73, u74, u75, u76, u77, u78, u79, u80, u81, u82, u83, u84, u85, u86, u87, u88, u89, u90, u91, u92, u93, u94, u95, u96, u97, u98, u99, u100, u101, u102, u103, u104, u105, u106, u107, u108, u109, u110, u111, u112, u113, u114, u115, u116, u117, u118, u119, u120, u121, u122, u123, u124, u125, u126, u127, u128, u129, u130, u131, u132, u133, u134, u135, u136, u137, u138, u139, u140, u141, u142, u143, u144, u145, u146, u147, u148, u149, u150, u151, u152, u153, u154, u155, u156, u157, u158, u159, u160, u161, u162, u163, u164, u165, u166, u167, u168, u169, u170, u171, u172, u173, u174, u175, u176, u177, u178, u179, u180, u181, u182, u183, u184, u185, u186, u187, u188, u189, u190, u191, u192, u193, u194, u195, u196, u197, u198, u199, u200, u201, u202, u203, u204, u205, u206, u207, u208, u209, u210, u211, u212, u213, u214, u215, u216, u217, u218, u219, u220, u221, u222, u223, u224, u225, u226, u227, u228, u229, u230, u231, u232, u233, u234, u235, u236, u237, u238, u239, u240, u241, u242, u243, u244], []⟩ w := by
  obtain ⟨wf1, wf2, wf3, wf4, wf5, wf6, wf7⟩ := whole_facts ew E.ok E.cost
  rw [ek] at wf3 wf5
  simp only [okkL, Nd.okk] at wf3
  simp only [List.length_cons] at wf5
  have hasc := wf3.1.1
  obtain ⟨l, hl⟩ : ∃ l, l = bytesOf kn := ⟨_, rfl⟩
  have hll : l.length = kn.size := by rw [hl]; simp [bytesOf]
  have hlz : ∀ j, ∀ h : j < l.length, l[j] ≠ 0 ∧ l[j].toNat < 128 := fun j h => by
    have := hasc.2 j (by omega)
    subst hl
    exact this
  have Hl100 := Lib.hid (show l.length ≤ 100 by have := hasc.1; omega)
  have hstr : strOf l = kn := by rw [hl]; exact strOf_toList kn
  obtain ⟨tl, htl⟩ : ∃ tl, tl = bp ++ bk ++ tok nop 2 ++ more := ⟨_, rfl⟩
  obtain ⟨P, hP⟩ : ∃ P, P = pad 4 (l ++ [0]).length := ⟨_, rfl⟩
  obtain ⟨pr, hpr⟩ : ∃ pr, pr = P ++ tl := ⟨_, rfl⟩
  have hp4 : pad4 (bytesOf kn ++ [0]) ++ tl = l ++ 0 :: pr := by
    rw [← hl, hpr, hP]
    show (l ++ [0] ++ pad 4 (l ++ [0]).length) ++ tl = _
    simp only [List.append_assoc, List.cons_append, List.nil_append]
  have hpm := pad4_mod (bytesOf kn ++ [0])
  have hlenA : (pad4 (bytesOf kn ++ [0])).length + tl.length = l.length + 1 + pr.length := by
    have := congrArg List.length hp4
    rw [List.length_append, List.length_append, List.length_cons] at this
    omega
  rw [← htl, hp4] at er
  have hlen : rest.length = (l.length + 1 + pr.length) + 4 := by rw [er]; simp only [List.length_append, List.length_cons]; simp only [be4, List.length_cons, List.length_nil]; omega
  have e4' := e4
  rw [er] at e4'
  have HT := Lib.hid (tok_step w 1 _ e4' (by omega))
  clear e4'
  have hrt := e4.2.2.1
  rw [hlen] at e3 hrt
  have hal : (tot - tl.length) % 4 = 0 := by omega
  have hPl : P.length < 4 := by rw [hP]; exact pad_lt _
  have hm250 : m ≤ 251 := by omega
  obtain ⟨M, hM⟩ : ∃ M, M = m + 1 := ⟨_, rfl⟩
  obtain ⟨n, hn⟩ : ∃ n, n = fs.length := ⟨_, rfl⟩
  have hM1 : ((M : Int) == 1) = false := by simp; omega
  have h1M : (1 : Int) < (M : Int) := by omega
  have hM2 : (M : Int) - 2 = (n : Int) := by omega
  have hsw : IntKind.i64.wrap (n : Int) = (n : Int) := by simp only [IntKind.wrap, IntKind.bits, IntKind.signed]; simp; omega
  have hn0 : (0 : Int) ≤ (n : Int) := by omega
  have hnM : (n : Int) < (M : Int) := by omega
  have hks : fr.ks.length ≤ 249 := by omega
  have Hcode := Lib.hid (And.intro ep (And.intro ek (And.intro ebp (And.intro ebk (And.intro e1 (And.intro htl (And.intro hpr (And.intro hstr (And.intro ew (And.intro em (And.intro hM hn)))))))))))
  have HL := Lib.hid (show tl.length < rest.length by omega)
  have HS := Lib.hid (And.intro e5 (And.intro e6 e7))
  have HE := Lib.hid E
  clear hasc hl hll hstr htl hP hpr hp4 hpm hlenA hlen hrt ep ek ebp ebk er e1 e3 e4 e5 e6 e7 E wf1 wf2 wf3 wf4 wf5 wf6 wf7 ew em hM hn
  conv => arg 2; whnf
  unfold loopQ
  go_wp2_with fail
  refine HT.out.mono ?_
  rintro e w1 ⟨rfl, hc1, hs1, hf1⟩
  have x0 : w1.cell? ⟨w.heap.size, 0, none⟩ = some (.int .u32 1) := (hc1.cell 0).trans rfl
  obtain ⟨g5, g6, g7⟩ := keep3 HE.out HS.out.1 HS.out.2.1 HS.out.2.2 hf1
  obtain ⟨vp, vk, ts, b1, b2, b3, b4, b5, b6⟩ := g5.sp.1
  obtain ⟨xs, hxs⟩ : ∃ xs, xs = ((fr :: fs).map Fra.b).reverse.map ptr := ⟨_, rfl⟩
  have hrow0 : w1.ownsRow 0 87 1 (.slice (some ⟨gs, 0, none⟩) m cap) m xs := by
    have := g5.stk.1
    have hmf : (fr :: fs).length = m := by rw [Hcode.out.2.2.2.2.2.2.2.2.2.1]; rfl
    rw [hmf] at this
    rw [hxs]
    exact this
  simp only [List.append_nil, List.length_map] at b5
  obtain ⟨kl, hkl⟩ : ∃ kl, kl = fr.ks.length := ⟨_, rfl⟩
  rw [← hkl] at b5 hks
  obtain ⟨Ak, ck, hvk⟩ := own_slice b5.1
  subst hvk
  have hq1 := Cs.new w1 130 #[.string ⟨#[]⟩, .slice none 0 0, .slice none 0 0]
  have hstc := g5.stk.2
  have hneq : ∀ g, (Value.slice Ak kl ck).ownBlock = some g → some g ≠ (Value.slice (some ⟨gs, 0, none⟩) m cap).ownBlock := fun g hg e => by have h1 := b5.2 g hg; have h2 := hstc g e.symm; omega
  have hb0 : some fr.b ≠ (Value.slice (some ⟨gs, 0, none⟩) m cap).ownBlock := fun e => by have h2 := hstc _ e.symm; omega
  have hbk : some fr.b ≠ (Value.slice Ak kl ck).ownBlock := fun e => by have h2 := b5.2 _ e.symm; omega
  have HG := Lib.hid (And.intro hs1 (And.intro hf1 (And.intro g5 (And.intro g6 (And.intro g7 (And.intro b1 (And.intro b2 (And.intro b3 (And.intro b4 (And.intro b5 (And.intro b6 (And.intro hxs (And.intro hkl (And.intro hneq (And.intro hb0 (And.intro hbk hstc))))))))))))))))
  have HB2 := Lib.hid b2
  have HB5 := Lib.hid b5
  clear hc1 hs1 hf1 g5 g6 g7 b1 b2 b3 b4 b5 b6 hxs hkl
  go_upto_region 22 with (at_builtin; go_must (refine wpList_append_el el128 rfl (.tmp 78) (.tmp 80) rfl 0 (.slice (some ⟨gs, 0, none⟩) m cap) m xs rfl ((hrow0.alloc _).alloc _) (some ⟨w1.heap.size + 1, 0, none⟩) 1 1 [.pointer (some ⟨w1.heap.size, 0, none⟩)] rfl (by simp) ((Cs.new' _ _ _ _ (by simp)).rd rfl) (by simp [Value.oneCell']) (by omega) (by omega) (by simp) ?_); intro v' w2 hown2 hgrow2 hnil2 hat2; clear hnil2; rw [← Hcode.out.2.2.2.2.2.2.2.2.2.2.1] at hown2; obtain ⟨A8, c8, rfl⟩ := own_slice hown2)
  obtain ⟨g8, rfl⟩ := own_some hown2 (by omega)
  have hat8 : (Value.slice (some ⟨g8, 0, none⟩) M c8).ownBlock = (Value.slice (some ⟨gs, 0, none⟩) m cap).ownBlock ∨ (Value.slice (some ⟨g8, 0, none⟩) M c8).ownBlock = some (w1.heap.size + 2) := by simpa using hat2
  have hg2 : w1.grownBy w2 ((Value.slice (some ⟨gs, 0, none⟩) m cap).ownBlock) := grown_below (((Below.refl w1.heap.size w1).alloc (Nat.le_refl _) (.cells #[.string ⟨#[]⟩, .slice none 0 0, .slice none 0 0] 130)).alloc (by simp) (.cells #[.pointer (some ⟨w1.heap.size, 0, none⟩)] 87)) hgrow2
  have hq2 := (hq1.alloc (.cells #[.pointer (some ⟨w1.heap.size, 0, none⟩)] 87)).grown hgrow2 (fun e => by have := (hrow0.lt _ e.symm).2; omega)
  have hz2 : w1.heap.size + 2 ≤ w2.heap.size := by have := hgrow2.size; simpa using this
  have x14 : w2.cell? ⟨g8, n, none⟩ = some (.pointer (some ⟨fr.b, 0, none⟩)) := by
    have hxs := HG.out.2.2.2.2.2.2.2.2.2.2.2.1
    have hn := Hcode.out.2.2.2.2.2.2.2.2.2.2.2
    have := hown2.cellAt n (by omega)
    rw [this, hxs]
    simp [hn, ptr]
  have b2' := HB2.out.grown hg2 hb0
  have y2 : w2.cell? ⟨fr.b, 2, none⟩ = some (.slice Ak kl ck) := (b2'.cell 2).trans rfl
  have hrk2 : w2.ownsRow 0 87 1 (.slice Ak kl ck) kl ((fr.ks.map LT.b).map ptr) := own_keep HB5.out.1 fun g hg => hg2.block g (HB5.out.1.lt g hg).2 (hneq g hg)
  have H2 := Lib.hid (And.intro hown2 (And.intro hat8 (And.intro hg2 (And.intro hq2 hz2))))
  have Hnq := Lib.hid hneq
  clear hown2 hat8 hg2 hq2 hgrow2 hat2 hq1 hrow0 hneq
  go_wp2_with (at_builtin; go_must (refine wpList_append_el el128 rfl (.tmp 108) (.tmp 110) rfl 0 (.slice Ak kl ck) kl ((fr.ks.map LT.b).map ptr) rfl (hrk2.alloc _) (some ⟨w2.heap.size, 0, none⟩) 1 1 [.pointer (some ⟨w1.heap.size, 0, none⟩)] rfl (by simp) ((Cs.new w2 87 _).rd rfl) (by simp [Value.oneCell']) (by omega) (by omega) (by simp) ?_); intro v' w3 hown3 hgrow3 hnil3 hat3; clear hnil3; obtain ⟨A9, c9, rfl⟩ := own_slice hown3; have hg3 := grown_below ((Below.refl w2.heap.size w2).alloc (Nat.le_refl _) (.cells #[.pointer (some ⟨w1.heap.size, 0, none⟩)] 87)) hgrow3; have b2x := b2'.grown hg3 hbk; have z2 : w3.cell? ⟨fr.b, 2, none⟩ = some (.slice Ak kl ck) := (b2x.cell 2).trans rfl; have fz2 := b2x.frozen 2)
  obtain ⟨w4, hw4⟩ : ∃ w4, w4 = w3.setCell ⟨fr.b, 2, none⟩ (.slice A9 (kl + 1) c9) := ⟨_, rfl⟩
  rw [← hw4]
  obtain ⟨hs1, hf1, g5, g6, g7, b1, b2, b3, b4, b5, b6, hxs, hkl, hneq, hb0', hbk', hstc'⟩ := HG.out
  obtain ⟨hown2, hat8, hg2, hq2, hz2⟩ := H2.out
  have hw01 := g6.size
  have hz3 : w2.heap.size + 1 ≤ w3.heap.size := by have := hgrow3.size; simpa using this
  have hz4 : w4.heap.size = w3.heap.size := by rw [hw4]; simp [World.setCell]
  have hfl := g7.lt
  have hcl : ∀ k, col k ≠ 1 → k < w1.heap.size ∧ w0.heap.size ≤ k := fun k hk => by
    constructor
    · rcases Nat.lt_or_ge k w1.heap.size with h | h
      · exact h
      · exact absurd (g5.new k h) hk
    · rcases Nat.lt_or_ge k w0.heap.size with h | h
      · exact absurd (g5.old k h) hk
      · exact h
  have hbb := hcl fr.b (by omega)
  have hrs : ∀ k, (Value.slice (some ⟨gs, 0, none⟩) m cap).ownBlock = some k → k < w1.heap.size ∧ w0.heap.size ≤ k := fun k hk => hcl k (by have := hstc' k hk; omega)
  have hrk : ∀ k, (Value.slice Ak kl ck).ownBlock = some k → k < w1.heap.size ∧ w0.heap.size ≤ k := fun k hk => hcl k (by have := b5.2 k hk; omega)
  have hAXc : ∀ k, AX a b bb lr r dk k → col k = 1 := fun k hk => g5.old k (HE.out.xl k hk)
  have hAXl : ∀ k, AX a b bb lr r dk k → k < w0.heap.size := HE.out.xl
  have hat9 : (Value.slice A9 (kl + 1) c9).ownBlock = (Value.slice Ak kl ck).ownBlock ∨ (Value.slice A9 (kl + 1) c9).ownBlock = some (w2.heap.size + 1) := by simpa using hat3
  have hA8 : ∀ g, (Value.slice (some ⟨g8, 0, none⟩) M c8).ownBlock = some g → g ≠ fr.b ∧ g ≠ w1.heap.size ∧ ¬ AX a b bb lr r dk g ∧ g < w2.heap.size ∧ some g ≠ (Value.slice Ak kl ck).ownBlock := fun g hg => by
    have h2 := (hown2.lt g hg).2
    rcases hat8 with h | h
    · have h3 := hstc' g (h.symm.trans hg)
      have h1 := hcl g (by omega)
      exact ⟨fun e => by rw [e] at h3; omega, by omega, fun hX => by have := hAXc g hX; omega, h2, fun e => by have := b5.2 g e.symm; omega⟩
    · rw [h] at hg
      injection hg with hg
      exact ⟨by omega, by omega, fun hX => by have := hAXl _ hX; omega, h2, fun e => by have := hrk g e.symm; omega⟩
  have hA9 : ∀ g, (Value.slice A9 (kl + 1) c9).ownBlock = some g → g ≠ fr.b ∧ g ≠ w1.heap.size ∧ ¬ AX a b bb lr r dk g ∧ g < w3.heap.size ∧ (Value.slice (some ⟨g8, 0, none⟩) M c8).ownBlock ≠ some g := fun g hg => by
    have h2 := (hown3.lt g hg).2
    rcases hat9 with h | h
    · have h3 := b5.2 g (h.symm.trans hg)
      have h1 := hcl g (by omega)
      exact ⟨fun e => by rw [e] at h3; omega, by omega, fun hX => by have := hAXc g hX; omega, h2, fun e => (hA8 g e).2.2.2.2 (hg.symm.trans h)⟩
    · rw [h] at hg
      injection hg with hg
      exact ⟨by omega, by omega, fun hX => by have := hAXl _ hX; omega, h2, fun e => by have := (hA8 g e).2.2.2.1; omega⟩
  have hq4 : Cs w4 w1.heap.size #[.string ⟨#[]⟩, .slice none 0 0, .slice none 0 0] := by
    rw [hw4]
    exact (hq2.grown hg3 (fun e => by have := (hrk _ e.symm).1; omega)).far (p := ⟨fr.b, 2, none⟩) (by show w1.heap.size ≠ fr.b; omega) _
  have hown8 : w4.ownsRow 0 87 1 (.slice (some ⟨g8, 0, none⟩) M c8) M (xs ++ [.pointer (some ⟨w1.heap.size, 0, none⟩)]) := own_keep hown2 fun g hg => by
    rw [hw4, Below.heap_setCell _ _ _ _ (hA8 g hg).1]
    exact hg3.block g (hA8 g hg).2.2.2.1 (hA8 g hg).2.2.2.2
  have hown9 : w4.ownsRow 0 87 1 (.slice A9 (kl + 1) c9) (kl + 1) ((fr.ks.map LT.b).map ptr ++ [.pointer (some ⟨w1.heap.size, 0, none⟩)]) := own_keep hown3 fun g hg => by
    rw [hw4]
    exact Below.heap_setCell _ _ _ _ (hA9 g hg).1
  have hfr4 : ∀ k, k < w1.heap.size → some k ≠ (Value.slice (some ⟨gs, 0, none⟩) m cap).ownBlock → some k ≠ (Value.slice Ak kl ck).ownBlock → k ≠ fr.b → w4.heap[k]? = w1.heap[k]? := fun k h1 h2 h3 h4 => by
    rw [hw4, Below.heap_setCell _ _ _ _ h4, hg3.block k (by omega) h3]
    exact hg2.block k h1 h2
  have hc1 : ∀ k, col k = 1 → k < w1.heap.size → w4.heap[k]? = w1.heap[k]? := fun k hk hl => hfr4 k hl (fun e => by have := hstc' k e.symm; omega) (fun e => by have := b5.2 k e.symm; omega) (fun e => by rw [e] at hk; omega)
  have hcs4 : Cs w4 fr.b #[.string fr.nm, vp, .slice A9 (kl + 1) c9] := by rw [hw4]; simpa using b2x.set_ 2 (.slice A9 (kl + 1) c9)
  have R := al_rdk a b bb lr r dk A c dt tot
  have hXl := R.xl w1 _ hs1
  have hs4 : ASt a b bb lr r dk A c dt tot w4 (l ++ 0 :: pr) := R.keep w1 w4 _ hs1 fun k hk => hc1 k (hAXc k hk) (hXl k hk)
  have hf4 : Cs w4 f (fdtC n0 n1 n2 n3 n4 n5 n6 n7 n8 tot s (ptr (bot (fr :: fs)))) := g7.keep (hc1 f (g5.old f HE.out.fl) hfl)
  have hF4 : Fr w0.heap.size (fun k => k = f ∨ AX a b bb lr r dk k) w0 w4 := by
    rw [hw4]
    exact g6.trans ((((Fr.refl w0.heap.size _ w1).grown hg2 hw01 (fun k hk => .inl (hrs k hk).2)).grown hg3 (by omega) (fun k hk => .inl (hrk k hk).2)).setCell (p := ⟨fr.b, 2, none⟩) (.inl hbb.2) _)
  have hqX : ¬ AX a b bb lr r dk w1.heap.size := fun hX => by have := hXl _ hX; omega
  have HN := Lib.hid (And.intro hq4 hs4)
  have H3 := Lib.hid (And.intro hf4 (And.intro hF4 (And.intro hown8 (And.intro hown9 (And.intro hA8 (And.intro hA9 (And.intro hat8 (And.intro hat9 (And.intro hz2 (And.intro hz3 (And.intro hz4 (And.intro hfr4 (And.intro hcs4 (And.intro hbb hAXc))))))))))))))
  clear hw4 hs1 hf1 g5 g6 g7 b1 b2 b3 b4 b5 b6 hxs hkl hneq hb0' hbk' hstc' hown2 hat8 hg2 hq2 hz2 hw01 hz3 hz4 hfl hcl hbb hrs hrk hAXc hAXl hat9 hA8 hA9 hq4 hown8 hown9 hfr4 hc1 hcs4 R hXl hs4 hf4 hF4 hown3 hgrow3 hat3 hg3 b2x z2 fz2 hrk2 y2 b2' x14 x0 hstc hb0 hbk
  have Hl := Lib.hid hlz
  go_loopw [15] (fun _ wr => ∃ j : Nat, j ≤ l.length ∧ Cs wr w1.heap.size #[.string (strOf (l.take j)), .slice none 0 0, .slice none 0 0] ∧ ASt a b bb lr r dk A c dt tot wr (l.drop j ++ 0 :: pr) ∧ Fr w4.heap.size (fun k => k = w1.heap.size ∨ AX a b bb lr r dk k) w4 wr) (fun _ wr => leftOf tot a wr)
  case atStart => exact ⟨0, Nat.zero_le _, HN.out.1, HN.out.2, Fr.refl _ _ _⟩
  case round =>
    obtain ⟨j, hj, hc, hs, hf⟩ := hrel
    by_cases hlt : j < l.length
    · have hdr : l.drop j = l[j] :: l.drop (j + 1) := List.drop_eq_getElem_cons hlt
      rw [hdr] at hs
      have hs : ASt a b bb lr r dk A c dt tot wr (l[j] :: (l.drop (j + 1) ++ 0 :: pr)) := hs
      have HB := Lib.hid (readByte_walk wr l[j] (l.drop (j + 1) ++ 0 :: pr) hs)
      have hx := Hl.out j hlt
      have hadd := add_byte l j hlt Hl100.out
      obtain ⟨x, hxe⟩ : ∃ x, x = l[j] := ⟨_, rfl⟩
      rw [← hxe] at HB hx hadd
      obtain ⟨y, hy⟩ : ∃ y, y = x.toNat := ⟨_, rfl⟩
      have hcv := cv_byte x y hy (by omega)
      have hen := enc_byte x y hy (by omega)
      obtain ⟨s0, hs0⟩ : ∃ s0, s0 = strOf (l.take j) := ⟨_, rfl⟩
      obtain ⟨s1, hs1⟩ : ∃ s1, s1 = strOf (l.take (j + 1)) := ⟨_, rfl⟩
      rw [← hs0, ← hs1] at hadd
      rw [← hs0] at hc
      have hyn : ((y : Int) == 0) = false := by
        have : y ≠ 0 := fun e => hx.1 (UInt8.toNat.inj (by rw [← hy, e]; rfl))
        simp; omega
      have hlo := leftOf_eq hs
      have HS1 := Lib.hid (And.intro hc (And.intro hf (And.intro hlo (And.intro hs1 (And.intro hj hxe)))))
      have HY := Lib.hid hy
      clear hc hf hlo hs1 hs hdr hj hxe hs0 hx hy
      go_wp2_with fail
      refine HB.out.mono ?_
      rintro e w' ⟨rfl, hs', hf'⟩
      obtain ⟨hc, hf, hlo, hs1, hj, hxe⟩ := HS1.out
      have hc' := hc.fr2 hf' hqX
      have k0 : w'.cell? ⟨w1.heap.size, 0, none⟩ = some (.string s0) := (hc'.cell 0).trans rfl
      have fz := hc'.frozen 0
      have HS2 := Lib.hid (And.intro hc' (And.intro hs' (hf.trans (hf'.mono hf.size (fun k _ h => .inr h)))))
      unfold bv
      rw [← HY.out]
      clear hc hf hlo hs1 hj hs' hf' hc' HB hxe
      go_wp2_with fail
      go_roundw
      case rel =>
        obtain ⟨hc', hs', hf'⟩ := HS2.out
        obtain ⟨-, -, -, hs1, hj, -⟩ := HS1.out
        refine ⟨j + 1, hlt, ?_, (al_rdk a b bb lr r dk A c dt tot).keep w' _ _ hs' (fun k hk => Below.heap_setCell _ _ _ _ (fun e => hqX (by simp at e; rw [← e]; exact hk))), hf'.setCell (p := ⟨w1.heap.size, 0, none⟩) (.inr (.inl rfl)) _⟩
        rw [← hs1]
        simpa using hc'.set_ 0 (.string s1)
      case measure =>
        obtain ⟨hc', hs', hf'⟩ := HS2.out
        rw [HS1.out.2.2.1, leftOf_eq ((al_rdk a b bb lr r dk A c dt tot).keep w' _ _ hs' (fun k hk => Below.heap_setCell _ ⟨w1.heap.size, 0, none⟩ _ _ (fun e => hqX (by simp at e; rw [← e]; exact hk))))]
        simp
    · obtain rfl : j = l.length := by omega
      rw [List.drop_length] at hs
      rw [List.take_length] at hc
      have HB := Lib.hid (readByte_walk wr 0 pr hs)
      have HS1 := Lib.hid (And.intro hc hf)
      clear hc hf hs
      go_wp2_with fail
      refine HB.out.mono ?_
      rintro e wE ⟨rfl, hsE, hf'⟩
      obtain ⟨hc, hf⟩ := HS1.out
      have hcE := hc.fr2 hf' hqX
      have hfE := hf.trans (hf'.mono hf.size (fun k _ h => .inr h))
      have hb0 : bv 0 = .int .u8 0 := rfl
      rw [hb0]
      clear hc hf hf' HB HS1
      obtain ⟨hf4, hF4, hown8, hown9, hA8, hA9, hat8, hat9, hz2, hz3, hz4, hfr4, hcs4, hbb, hAXc⟩ := H3.out
      obtain ⟨hs1, hf1, g5, g6, g7, b1, b2, b3, b4, b5, b6, hxs, hkl, -, -, -, hstc'⟩ := HG.out
      obtain ⟨ep, ek, ebp, ebk, e1, htl, hpr, hstr, ew, em, hM, hn⟩ := Hcode.out
      have hw01 := g6.size
      have hzE := hfE.size
      have hownE := own_keep hown8 fun g hg => hfE.block g (by have := (hA8 g hg).2.2.2.1; omega) (fun h => h.elim (hA8 g hg).2.1 (hA8 g hg).2.2.1)
      have hownE9 := own_keep hown9 fun g hg => hfE.block g (by have := (hA9 g hg).2.2.2.1; omega) (fun h => h.elim (hA9 g hg).2.1 (hA9 g hg).2.2.1)
      have hcsE := hcs4.fr2 hfE (fun h => h.elim (fun e => by omega) (fun hX => by have := hAXc _ hX; omega))
      obtain ⟨col', L9⟩ := loo_kid (W := w0.heap.size) (w := w1) (w9 := wE) (st' := .slice (some ⟨g8, 0, none⟩) M c8) (vp := vp) (vk := .slice Ak kl ck) (vk' := .slice A9 (kl + 1) c9) (ts := ts) (q := w1.heap.size) (kn := kn) (kp := kp) (kk := kk) (rk := rk) hw01 g5.new g5.old g5.stk b1 b3 b4 (by simp only [List.append_nil, List.length_map]; rw [← hkl]; exact b5) b6 g5.sp.2 (Nat.le_refl _) (by rw [← hstr]; exact hcE)
        (by rw [show (fr :: fs).length + 1 = M by rw [hM, em]; rfl, ← hxs]; exact hownE) (hat8.imp id fun h => ⟨_, h, by omega, by have := (hA8 _ h).2.2.2.1; omega, by omega⟩)
        (by rw [← hkl]; exact hownE9) (hat9.imp id fun h => ⟨_, h, by omega, by have := (hA9 _ h).2.2.2.1; omega, by omega, (hA9 _ h).2.2.2.2⟩) hcsE (by omega)
        (fun k h1 h2 h3 h4 h5 => (hfE.block k (by omega) (fun h => h.elim (fun e => by omega) (fun hX => h2 (hAXc k hX)))).trans (hfr4 k h1 h3 h4 h5))
      have hsE' : ASt a b bb lr r dk A c dt tot wE (P ++ tl) := by rw [← hpr]; exact hsE
      have HA := Lib.hid (align_step wE P tl hsE' hal hPl)
      have hfE' := hf4.fr2 hfE (fun h => h.elim (fun e => by have := g7.lt; omega) HE.out.fX)
      have hFE : Fr w0.heap.size (fun k => k = f ∨ AX a b bb lr r dk k) w0 wE := hF4.trans (hfE.mono (by omega) (fun k hk h => h.elim (fun e => by omega) .inr))
      have hph : Pha strs nop root wE col' (⟨w1.heap.size, kn, [], [], kp, kk⟩ :: { fr with rk := rk } :: fs) (ptr (bot (fr :: fs))) tl := by
        rw [bot_head fr { fr with rk := rk } fs rfl, ← bot_cons ⟨w1.heap.size, kn, [], [], kp, kk⟩ { fr with rk := rk } fs]
        exact Pha.mid ⟨bp, bk, more, ebp, ebk, e1, htl⟩ (by rw [← ew]; simp [whole, plug, ek, eraseL])
      have HFIN := Lib.hid (And.intro L9 (And.intro hFE (And.intro hfE' hph)))
      clear hf4 hF4 hown8 hown9 hA8 hA9 hat8 hat9 hz2 hz3 hz4 hfr4 hcs4 hbb hAXc hs1 hf1 g5 g6 g7 b1 b2 b3 b4 b5 b6 hxs hkl hstc' ep ek ebp ebk e1 htl hpr hstr ew em hM hn hw01 hzE hownE hownE9 hcsE L9 hsE' hfE' hFE hph hcE hfE hsE
      go_wp2_with fail
      refine HA.out.mono ?_
      rintro e w10 ⟨⟨pp, rfl⟩, hs10, hf10⟩
      obtain ⟨L9, hFE, hfE', hph⟩ := HFIN.out
      obtain ⟨g5, g6, g7, g8'⟩ := keep_fr HE.out L9 hFE hfE' hph hf10
      have HR := Lib.hid (show Rel a b bb lr r dk A c dt tot f n0 n1 n2 n3 n4 n5 n6 n7 n8 s strs nop root w0 (.slice (some ⟨g8, 0, none⟩) M c8) w10 tl _ from
        ⟨col', 0, tl, _, by simp [nops], by omega, hal, hs10, g5, g6, g7, g8'⟩)
      clear L9 hFE hfE' hph g5 g6 g7 g8' hs10 hf10
      go_wp2_with fail
      exact WI_intro rfl rfl rfl rfl rfl rfl HR.out HL.out
end
end Go.Proofs.Ytlbhadggfipckaa

set_option linter.unusedVariables false
set_option linter.unusedSimpArgs false
namespace Go.Proofs.Ytlbhadggfipckaa
open Go.RowKit
section
variable {a b bb lr r : Nat} {dk : Nat → Prop} {A : Option Addr} {c : Nat} {dt : List UInt8} {tot f g sl n0 n1 n2 n3 n4 n5 n6 n7 n8 : Nat} {s : Value} {strs : List UInt8} {nop : Nat} {root : Nd} {w0 : World}

set_option maxRecDepth 200000 in
set_option maxHeartbeats 4000000 in
theorem round83 (E : Env a b bb lr r dk tot f g sl strs nop root w0) {x : Act} {w : World} {Q0 : Exit → Act → World → Prop}
    (hq : ∀ t w', t[6]? = some .nilIface → FinP a b bb lr r dk tot f n0 n1 n2 n3 n4 n5 n6 n7 n8 s root w0 w' → Q0 .ret ⟨t, []⟩ w')
    (h : WI a b bb lr r dk A c dt tot f g sl n0 n1 n2 n3 n4 n5 n6 n7 n8 s strs nop root w0 x w) :
    Code.wp Try.prog body83 (Exit.then (fun a' w' => WI a b bb lr r dk A c dt tot f g sl n0 n1 n2 n3 n4 n5 n6 n7 n8 s strs nop root w0 a' w' ∧ leftOf tot a w' < leftOf tot a w) Q0) x w := by
  obtain ⟨hd, hsz, h0, h1, h2, h9, st, rest, fs, h10, hr⟩ := h
  obtain ⟨col, i, full, pv, e1, e2, e3, e4, e5, e6, e7, e8⟩ := hr
  rw [leftOf_eq e4]
  obtain ⟨tmps, defers⟩ := x
  have hd : defers = [] := hd
  subst hd
  have hsz : tmps.size = 245 := hsz
  obtain ⟨u, rfl⟩ := frame_lit tmps hsz
  have q0 : u 0 = .pointer (some ⟨f, 0, none⟩) := Option.some.inj h0
  have q1 : u 1 = .iface 142 (.pointer (some ⟨r, 0, none⟩)) := Option.some.inj h1
  have q2 : u 2 = .slice (some ⟨g, 0, none⟩) sl sl := Option.some.inj h2
  have q9 : u 9 = .pointer (some ⟨a, 0, none⟩) := Option.some.inj h9
  have q10 : u 10 = st := Option.some.inj h10
  clear h0 h1 h2 h9 h10 hsz
  rw [q0, q1, q2, q9, q10]
  clear q0 q1 q2 q9 q10
  by_cases hnop : i < nop ∧ ∃ r, rest = be4 4 ++ r
  · obtain ⟨hi, r', rfl⟩ := hnop
    exact case_nop E e1 hi e3 e4 e5 e6 e7 e8 (u 3) (u 4) (u 5) (u 6) (u 7) (u 8) (u 11) (u 12) (u 13) (u 14) (u 15) (u 16) (u 17) (u 18) (u 19) (u 20) (u 21) (u 22) (u 23) (u 24) (u 25) (u 26) (u 27) (u 28) (u 29) (u 30) (u 31) (u 32) (u 33) (u 34) (u 35) (u 36) (u 37) (u 38) (u 39) (u 40) (u 41) (u 42) (u 43) (u 44) (u 45) (u 46) (u 47) (u 48) (u 49) (u 50) (u 51) (u 52) (u 53) (u 54) (u 55) (u 56) (u 57) (u 58) (u 59) (u 60) (u 61) (u 62) (u 63) (u 64) (u 65) (u 66) (u 67) (u 68) (u 69) (u 70) (u 71) (u 72) (u 73) (u 74) (u 75) (u 76) (u 77) (u 78) (u 79) (u 80) (u 81) (u 82) (u 83) (u 84) (u 85) (u 86) (u 87) (u 88) (u 89) (u 90) (u 91) (u 92) (u 93) (u 94) (u 95) (u 96) (u 97) (u 98) (u 99) (u 100) (u 101) (u 102) (u 103) (u 104) (u 105) (u 106) (u 107) (u 108) (u 109) (u 110) (u 111) (u 112) (u 113) (u 114) (u 115) (u 116) (u 117) (u 118) (u 119) (u 120) (u 121) (u 122) (u 123) (u 124) (u 125) (u 126) (u 127) (u 128) (u 129) (u 130) (u 131) (u 132) (u 133) (u 134) (u 135) (u 136) (u 137) (u 138) (u 139) (u 140) (u 141) (u 142) (u 143) (u 144) (u 145) (u 146) (u 147) (u 148) (u 149) (u 150) (u 151) (u 152) (u 153) (u 154) (u 155) (u 156) (u 157) (u 158) (u 159) (u 160) (u 161) (u 162) (u 163) (u 164) (u 165) (u 166) (u 167) (u 168) (u 169) (u 170) (u 171) (u 172) (u 173) (u 174) (u 175) (u 176) (u 177) (u 178) (u 179) (u 180) (u 181) (u 182) (u 183) (u 184) (u 185) (u 186) (u 187) (u 188) (u 189) (u 190) (u 191) (u 192) (u 193) (u 194) (u 195) (u 196) (u 197) (u 198) (u 199) (u 200) (u 201) (u 202) (u 203) (u 204) (u 205) (u 206) (u 207) (u 208) (u 209) (u 210) (u 211) (u 212) (u 213) (u 214) (u 215) (u 216) (u 217) (u 218) (u 219) (u 220) (u 221) (u 222) (u 223) (u 224) (u 225) (u 226) (u 227) (u 228) (u 229) (u 230) (u 231) (u 232) (u 233) (u 234) (u 235) (u 236) (u 237) (u 238) (u 239) (u 240) (u 241) (u 242) (u 243) (u 244)
  cases e8 with
  | start h =>
    obtain ⟨A0, c0, rfl⟩ := own_slice (n := 0) e5.stk.1
    obtain ⟨root', hroot⟩ : ∃ root', root' = root := ⟨_, rfl⟩
    rw [← hroot] at h
    cases h with
    | @mk kn kp kk bp bk hp hk =>
      have e1' : tok nop 1 ++ (pad4 (bytesOf kn ++ [0]) ++ (bp ++ bk ++ tok nop 2 ++ tok nop 9)) = nops i ++ rest := by rw [← e1]; simp only [List.append_assoc]
      rcases next_tok e1' e2 with ⟨hi, r', hr, -⟩ | hr
      · exact absurd ⟨hi, r', hr⟩ hnop
      · exact case_root E hroot.symm hp hk hr e3 e4 e5 e6 e7 (u 3) (u 4) (u 5) (u 6) (u 7) (u 8) (u 11) (u 12) (u 13) (u 14) (u 15) (u 16) (u 17) (u 18) (u 19) (u 20) (u 21) (u 22) (u 23) (u 24) (u 25) (u 26) (u 27) (u 28) (u 29) (u 30) (u 31) (u 32) (u 33) (u 34) (u 35) (u 36) (u 37) (u 38) (u 39) (u 40) (u 41) (u 42) (u 43) (u 44) (u 45) (u 46) (u 47) (u 48) (u 49) (u 50) (u 51) (u 52) (u 53) (u 54) (u 55) (u 56) (u 57) (u 58) (u 59) (u 60) (u 61) (u 62) (u 63) (u 64) (u 65) (u 66) (u 67) (u 68) (u 69) (u 70) (u 71) (u 72) (u 73) (u 74) (u 75) (u 76) (u 77) (u 78) (u 79) (u 80) (u 81) (u 82) (u 83) (u 84) (u 85) (u 86) (u 87) (u 88) (u 89) (u 90) (u 91) (u 92) (u 93) (u 94) (u 95) (u 96) (u 97) (u 98) (u 99) (u 100) (u 101) (u 102) (u 103) (u 104) (u 105) (u 106) (u 107) (u 108) (u 109) (u 110) (u 111) (u 112) (u 113) (u 114) (u 115) (u 116) (u 117) (u 118) (u 119) (u 120) (u 121) (u 122) (u 123) (u 124) (u 125) (u 126) (u 127) (u 128) (u 129) (u 130) (u 131) (u 132) (u 133) (u 134) (u 135) (u 136) (u 137) (u 138) (u 139) (u 140) (u 141) (u 142) (u 143) (u 144) (u 145) (u 146) (u 147) (u 148) (u 149) (u 150) (u 151) (u 152) (u 153) (u 154) (u 155) (u 156) (u 157) (u 158) (u 159) (u 160) (u 161) (u 162) (u 163) (u 164) (u 165) (u 166) (u 167) (u 168) (u 169) (u 170) (u 171) (u 172) (u 173) (u 174) (u 175) (u 176) (u 177) (u 178) (u 179) (u 180) (u 181) (u 182) (u 183) (u 184) (u 185) (u 186) (u 187) (u 188) (u 189) (u 190) (u 191) (u 192) (u 193) (u 194) (u 195) (u 196) (u 197) (u 198) (u 199) (u 200) (u 201) (u 202) (u 203) (u 204) (u 205) (u 206) (u 207) (u 208) (u 209) (u 210) (u 211) (u 212) (u 213) (u 214) (u 215) (u 216) (u 217) (u 218) (u 219) (u 220) (u 221) (u 222) (u 223) (u 224) (u 225) (u 226) (u 227) (u 228) (u 229) (u 230) (u 231) (u 232) (u 233) (u 234) (u 235) (u 236) (u 237) (u 238) (u 239) (u 240) (u 241) (u 242) (u 243) (u 244)
  | @mid fr fs full h hw =>
    obtain ⟨A0, cap, rfl⟩ := own_slice e5.stk.1
    obtain ⟨gs, rfl⟩ := own_some e5.stk.1 (by simp)
    obtain ⟨bp, bk, more, h1, h2, h3, hfull⟩ := h
    obtain ⟨rp, hrp⟩ : ∃ rp, fr.rp = rp := ⟨_, rfl⟩
    rw [hrp] at h1
    cases h1 with
    | nil =>
      obtain ⟨rk, hrk⟩ : ∃ rk, fr.rk = rk := ⟨_, rfl⟩
      rw [hrk] at h2
      cases h2 with
      | nil =>
        have e1' : tok nop 2 ++ more = nops i ++ rest := by rw [← e1, hfull]; simp only [List.append_assoc, List.nil_append]
        rcases next_tok e1' e2 with ⟨hi, r', hr, -⟩ | hr
        · exact absurd ⟨hi, r', hr⟩ hnop
        · subst hr
          exact case_pop E h3 hw hrp hrk e3 e4 rfl e5 e6 e7 (u 3) (u 4) (u 5) (u 6) (u 7) (u 8) (u 11) (u 12) (u 13) (u 14) (u 15) (u 16) (u 17) (u 18) (u 19) (u 20) (u 21) (u 22) (u 23) (u 24) (u 25) (u 26) (u 27) (u 28) (u 29) (u 30) (u 31) (u 32) (u 33) (u 34) (u 35) (u 36) (u 37) (u 38) (u 39) (u 40) (u 41) (u 42) (u 43) (u 44) (u 45) (u 46) (u 47) (u 48) (u 49) (u 50) (u 51) (u 52) (u 53) (u 54) (u 55) (u 56) (u 57) (u 58) (u 59) (u 60) (u 61) (u 62) (u 63) (u 64) (u 65) (u 66) (u 67) (u 68) (u 69) (u 70) (u 71) (u 72) (u 73) (u 74) (u 75) (u 76) (u 77) (u 78) (u 79) (u 80) (u 81) (u 82) (u 83) (u 84) (u 85) (u 86) (u 87) (u 88) (u 89) (u 90) (u 91) (u 92) (u 93) (u 94) (u 95) (u 96) (u 97) (u 98) (u 99) (u 100) (u 101) (u 102) (u 103) (u 104) (u 105) (u 106) (u 107) (u 108) (u 109) (u 110) (u 111) (u 112) (u 113) (u 114) (u 115) (u 116) (u 117) (u 118) (u 119) (u 120) (u 121) (u 122) (u 123) (u 124) (u 125) (u 126) (u 127) (u 128) (u 129) (u 130) (u 131) (u 132) (u 133) (u 134) (u 135) (u 136) (u 137) (u 138) (u 139) (u 140) (u 141) (u 142) (u 143) (u 144) (u 145) (u 146) (u 147) (u 148) (u 149) (u 150) (u 151) (u 152) (u 153) (u 154) (u 155) (u 156) (u 157) (u 158) (u 159) (u 160) (u 161) (u 162) (u 163) (u 164) (u 165) (u 166) (u 167) (u 168) (u 169) (u 170) (u 171) (u 172) (u 173) (u 174) (u 175) (u 176) (u 177) (u 178) (u 179) (u 180) (u 181) (u 182) (u 183) (u 184) (u 185) (u 186) (u 187) (u 188) (u 189) (u 190) (u 191) (u 192) (u 193) (u 194) (u 195) (u 196) (u 197) (u 198) (u 199) (u 200) (u 201) (u 202) (u 203) (u 204) (u 205) (u 206) (u 207) (u 208) (u 209) (u 210) (u 211) (u 212) (u 213) (u 214) (u 215) (u 216) (u 217) (u 218) (u 219) (u 220) (u 221) (u 222) (u 223) (u 224) (u 225) (u 226) (u 227) (u 228) (u 229) (u 230) (u 231) (u 232) (u 233) (u 234) (u 235) (u 236) (u 237) (u 238) (u 239) (u 240) (u 241) (u 242) (u 243) (u 244)
      | @cons k rk b' r' hk hr' =>
        cases hk with
        | @mk kn kp kk bp' bk' hp' hk' =>
          have e1' : tok nop 1 ++ (pad4 (bytesOf kn ++ [0]) ++ (bp' ++ bk' ++ tok nop 2 ++ (r' ++ tok nop 2 ++ more))) = nops i ++ rest := by rw [← e1, hfull]; simp only [List.append_assoc, List.nil_append]
          rcases next_tok e1' e2 with ⟨hi, r', hr, -⟩ | hr
          · exact absurd ⟨hi, r', hr⟩ hnop
          · exact case_child E hrp hrk hp' hk' (rk := rk) (more := r' ++ tok nop 2 ++ more) ⟨[], r', more, by rw [show ({ fr with rk := rk } : Fra).rp = [] from hrp]; exact .nil, hr', h3, by simp⟩ hr hw e3 e4 rfl e5 e6 e7 (u 3) (u 4) (u 5) (u 6) (u 7) (u 8) (u 11) (u 12) (u 13) (u 14) (u 15) (u 16) (u 17) (u 18) (u 19) (u 20) (u 21) (u 22) (u 23) (u 24) (u 25) (u 26) (u 27) (u 28) (u 29) (u 30) (u 31) (u 32) (u 33) (u 34) (u 35) (u 36) (u 37) (u 38) (u 39) (u 40) (u 41) (u 42) (u 43) (u 44) (u 45) (u 46) (u 47) (u 48) (u 49) (u 50) (u 51) (u 52) (u 53) (u 54) (u 55) (u 56) (u 57) (u 58) (u 59) (u 60) (u 61) (u 62) (u 63) (u 64) (u 65) (u 66) (u 67) (u 68) (u 69) (u 70) (u 71) (u 72) (u 73) (u 74) (u 75) (u 76) (u 77) (u 78) (u 79) (u 80) (u 81) (u 82) (u 83) (u 84) (u 85) (u 86) (u 87) (u 88) (u 89) (u 90) (u 91) (u 92) (u 93) (u 94) (u 95) (u 96) (u 97) (u 98) (u 99) (u 100) (u 101) (u 102) (u 103) (u 104) (u 105) (u 106) (u 107) (u 108) (u 109) (u 110) (u 111) (u 112) (u 113) (u 114) (u 115) (u 116) (u 117) (u 118) (u 119) (u 120) (u 121) (u 122) (u 123) (u 124) (u 125) (u 126) (u 127) (u 128) (u 129) (u 130) (u 131) (u 132) (u 133) (u 134) (u 135) (u 136) (u 137) (u 138) (u 139) (u 140) (u 141) (u 142) (u 143) (u 144) (u 145) (u 146) (u 147) (u 148) (u 149) (u 150) (u 151) (u 152) (u 153) (u 154) (u 155) (u 156) (u 157) (u 158) (u 159) (u 160) (u 161) (u 162) (u 163) (u 164) (u 165) (u 166) (u 167) (u 168) (u 169) (u 170) (u 171) (u 172) (u 173) (u 174) (u 175) (u 176) (u 177) (u 178) (u 179) (u 180) (u 181) (u 182) (u 183) (u 184) (u 185) (u 186) (u 187) (u 188) (u 189) (u 190) (u 191) (u 192) (u 193) (u 194) (u 195) (u 196) (u 197) (u 198) (u 199) (u 200) (u 201) (u 202) (u 203) (u 204) (u 205) (u 206) (u 207) (u 208) (u 209) (u 210) (u 211) (u 212) (u 213) (u 214) (u 215) (u 216) (u 217) (u 218) (u 219) (u 220) (u 221) (u 222) (u 223) (u 224) (u 225) (u 226) (u 227) (u 228) (u 229) (u 230) (u 231) (u 232) (u 233) (u 234) (u 235) (u 236) (u 237) (u 238) (u 239) (u 240) (u 241) (u 242) (u 243) (u 244)
    | @cons p rp off r' hh hr' =>
      have e1' : tok nop 3 ++ (be4 p.val.length ++ be4 off ++ (pad4 p.val ++ (r' ++ bk ++ tok nop 2 ++ more))) = nops i ++ rest := by rw [← e1, hfull]; simp only [List.append_assoc]
      rcases next_tok e1' e2 with ⟨hi, r', hr, -⟩ | hr
      · exact absurd ⟨hi, r', hr⟩ hnop
      · exact case_prop E hh hrp hr' h2 h3 hr hw e3 e4 rfl e5 e6 e7 (u 3) (u 4) (u 5) (u 6) (u 7) (u 8) (u 11) (u 12) (u 13) (u 14) (u 15) (u 16) (u 17) (u 18) (u 19) (u 20) (u 21) (u 22) (u 23) (u 24) (u 25) (u 26) (u 27) (u 28) (u 29) (u 30) (u 31) (u 32) (u 33) (u 34) (u 35) (u 36) (u 37) (u 38) (u 39) (u 40) (u 41) (u 42) (u 43) (u 44) (u 45) (u 46) (u 47) (u 48) (u 49) (u 50) (u 51) (u 52) (u 53) (u 54) (u 55) (u 56) (u 57) (u 58) (u 59) (u 60) (u 61) (u 62) (u 63) (u 64) (u 65) (u 66) (u 67) (u 68) (u 69) (u 70) (u 71) (u 72) (u 73) (u 74) (u 75) (u 76) (u 77) (u 78) (u 79) (u 80) (u 81) (u 82) (u 83) (u 84) (u 85) (u 86) (u 87) (u 88) (u 89) (u 90) (u 91) (u 92) (u 93) (u 94) (u 95) (u 96) (u 97) (u 98) (u 99) (u 100) (u 101) (u 102) (u 103) (u 104) (u 105) (u 106) (u 107) (u 108) (u 109) (u 110) (u 111) (u 112) (u 113) (u 114) (u 115) (u 116) (u 117) (u 118) (u 119) (u 120) (u 121) (u 122) (u 123) (u 124) (u 125) (u 126) (u 127) (u 128) (u 129) (u 130) (u 131) (u 132) (u 133) (u 134) (u 135) (u 136) (u 137) (u 138) (u 139) (u 140) (u 141) (u 142) (u 143) (u 144) (u 145) (u 146) (u 147) (u 148) (u 149) (u 150) (u 151) (u 152) (u 153) (u 154) (u 155) (u 156) (u 157) (u 158) (u 159) (u 160) (u 161) (u 162) (u 163) (u 164) (u 165) (u 166) (u 167) (u 168) (u 169) (u 170) (u 171) (u 172) (u 173) (u 174) (u 175) (u 176) (u 177) (u 178) (u 179) (u 180) (u 181) (u 182) (u 183) (u 184) (u 185) (u 186) (u 187) (u 188) (u 189) (u 190) (u 191) (u 192) (u 193) (u 194) (u 195) (u 196) (u 197) (u 198) (u 199) (u 200) (u 201) (u 202) (u 203) (u 204) (u 205) (u 206) (u 207) (u 208) (u 209) (u 210) (u 211) (u 212) (u 213) (u 214) (u 215) (u 216) (u 217) (u 218) (u 219) (u 220) (u 221) (u 222) (u 223) (u 224) (u 225) (u 226) (u 227) (u 228) (u 229) (u 230) (u 231) (u 232) (u 233) (u 234) (u 235) (u 236) (u 237) (u 238) (u 239) (u 240) (u 241) (u 242) (u 243) (u 244)
  | @fin lt h he =>
    have e1' : tok nop 9 ++ [] = nops i ++ rest := by rw [← e1]; simp only [List.append_nil]
    rcases next_tok e1' e2 with ⟨hi, r', hr, -⟩ | hr
    · exact absurd ⟨hi, r', hr⟩ hnop
    · subst hr
      exact case_end E hq e4 e5 e6 e7 h he (u 3) (u 4) (u 5) (u 6) (u 7) (u 8) (u 11) (u 12) (u 13) (u 14) (u 15) (u 16) (u 17) (u 18) (u 19) (u 20) (u 21) (u 22) (u 23) (u 24) (u 25) (u 26) (u 27) (u 28) (u 29) (u 30) (u 31) (u 32) (u 33) (u 34) (u 35) (u 36) (u 37) (u 38) (u 39) (u 40) (u 41) (u 42) (u 43) (u 44) (u 45) (u 46) (u 47) (u 48) (u 49) (u 50) (u 51) (u 52) (u 53) (u 54) (u 55) (u 56) (u 57) (u 58) (u 59) (u 60) (u 61) (u 62) (u 63) (u 64) (u 65) (u 66) (u 67) (u 68) (u 69) (u 70) (u 71) (u 72) (u 73) (u 74) (u 75) (u 76) (u 77) (u 78) (u 79) (u 80) (u 81) (u 82) (u 83) (u 84) (u 85) (u 86) (u 87) (u 88) (u 89) (u 90) (u 91) (u 92) (u 93) (u 94) (u 95) (u 96) (u 97) (u 98) (u 99) (u 100) (u 101) (u 102) (u 103) (u 104) (u 105) (u 106) (u 107) (u 108) (u 109) (u 110) (u 111) (u 112) (u 113) (u 114) (u 115) (u 116) (u 117) (u 118) (u 119) (u 120) (u 121) (u 122) (u 123) (u 124) (u 125) (u 126) (u 127) (u 128) (u 129) (u 130) (u 131) (u 132) (u 133) (u 134) (u 135) (u 136) (u 137) (u 138) (u 139) (u 140) (u 141) (u 142) (u 143) (u 144) (u 145) (u 146) (u 147) (u 148) (u 149) (u 150) (u 151) (u 152) (u 153) (u 154) (u 155) (u 156) (u 157) (u 158) (u 159) (u 160) (u 161) (u 162) (u 163) (u 164) (u 165) (u 166) (u 167) (u 168) (u 169) (u 170) (u 171) (u 172) (u 173) (u 174) (u 175) (u 176) (u 177) (u 178) (u 179) (u 180) (u 181) (u 182) (u 183) (u 184) (u 185) (u 186) (u 187) (u 188) (u 189) (u 190) (u 191) (u 192) (u 193) (u 194) (u 195) (u 196) (u 197) (u 198) (u 199) (u 200) (u 201) (u 202) (u 203) (u 204) (u 205) (u 206) (u 207) (u 208) (u 209) (u 210) (u 211) (u 212) (u 213) (u 214) (u 215) (u 216) (u 217) (u 218) (u 219) (u 220) (u 221) (u 222) (u 223) (u 224) (u 225) (u 226) (u 227) (u 228) (u 229) (u 230) (u 231) (u 232) (u 233) (u 234) (u 235) (u 236) (u 237) (u 238) (u 239) (u 240) (u 241) (u 242) (u 243) (u 244)

theorem loop83 (E : Env a b bb lr r dk tot f g sl strs nop root w0) {x : Act} {w : World} {Q0 : Exit → Act → World → Prop}
    (hq : ∀ t w', t[6]? = some .nilIface → FinP a b bb lr r dk tot f n0 n1 n2 n3 n4 n5 n6 n7 n8 s root w0 w' → Q0 .ret ⟨t, []⟩ w')
    (h : WI a b bb lr r dk A c dt tot f g sl n0 n1 n2 n3 n4 n5 n6 n7 n8 s strs nop root w0 x w) : Code.wp Try.prog (Code.loop body83) Q0 x w :=
  wp_loop (fun x w => WI a b bb lr r dk A c dt tot f g sl n0 n1 n2 n3 n4 n5 n6 n7 n8 s strs nop root w0 x w) (fun _ w => leftOf tot a w) h (fun x w h => round83 E hq h)
end
end Go.Proofs.Ytlbhadggfipckaa
