/-
  The loop of readStructBlock: a property.
-/
import Derived.Test.YtlbhadggfipckaaMa27
import Derived.Test.YtlbhadggfipckaaMa17
set_option linter.unusedVariables false
set_option linter.unusedSimpArgs false
namespace Go.Proofs.Ytlbhadggfipckaa
open Go.RowKit
/-- A property more. -/
theorem loo_prop {W : Nat} {w w9 : World} {col : Nat → Nat} {st vp vk v' : Value} {fr : Fra} {fs : List Fra} {ts : List (Value × Value)} {p : Pr} {rp : List Pr} {qv : Nat} (hW : W ≤ w.heap.size) (hn : ∀ k, w.heap.size ≤ k → col k = 1) (ho : ∀ k, k < W → col k = 1)
    (hst : RowC w col 3 87 1 st (fr :: fs).length (((fr :: fs).map Fra.b).reverse.map ptr)) (b1 : col fr.b = 3 * fs.length + 4) (b3 : RowC w col (3 * fs.length + 5) 70 2 vp fr.ps.length (ts.flatMap duo)) (b4 : Each (PrC w (Done col)) fr.ps ts)
    (b5 : RowC w col (3 * fs.length + 6) 87 1 vk (fr.ks.map LT.b ++ []).length ((fr.ks.map LT.b ++ []).map ptr)) (b6 : ∀ k ∈ fr.ks, PN w (Done col) k) (hsp : Spine w col [fr.b] fs)
    (hqv : Cs w qv (p.val.map bv).toArray) (hqc : col qv = 1) (hqW : W ≤ qv) (hpv : p.val.length ≤ 2000) (hpn : p.name.size ≤ 31)
    (hown : w9.ownsRow 0 70 2 v' (fr.ps.length + 1) (ts.flatMap duo ++ [.string p.name, .slice (some ⟨qv, 0, none⟩) p.val.length p.val.length]))
    (hat : v'.ownBlock = vp.ownBlock ∨ ∃ k, v'.ownBlock = some k ∧ w.heap.size ≤ k ∧ k < w9.heap.size) (hcs : Cs w9 fr.b #[.string fr.nm, v', vk]) (hsz : w.heap.size ≤ w9.heap.size)
    (hfr : ∀ k, k < w.heap.size → some k ≠ vp.ownBlock → k ≠ fr.b → w9.heap[k]? = w.heap[k]?) : ∃ col', Loo W w9 col' st ({ fr with ps := fr.ps ++ [p], rp := rp } :: fs) := by
  obtain ⟨d, hd⟩ : ∃ d, d = fs.length := ⟨_, rfl⟩
  rw [← hd] at b1 b3 b5
  have lt : ∀ k, col k ≠ 1 → k < w.heap.size := fun k hk => by
    rcases Nat.lt_or_ge k w.heap.size with h | h
    · exact h
    · exact absurd (hn k h) hk
  have hqlt := hqv.lt
  obtain ⟨col', hcol'⟩ : ∃ col' : Nat → Nat, ∀ k, col' k = if k = qv then 0 else if some k = v'.ownBlock then 3 * d + 5 else col k := ⟨_, fun _ => rfl⟩
  have hrow : ∀ g, v'.ownBlock = some g → g ≠ qv ∧ W ≤ g ∧ g < w9.heap.size ∧ (g < w.heap.size → col g = 3 * d + 5) := fun g hg => by
    rcases hat with h | ⟨k, h, h1, h2⟩
    · have h1 := b3.2 g (h.symm.trans hg)
      have h2 := lt g (by omega)
      refine ⟨fun e => by rw [e] at h1; omega, ?_, by omega, fun _ => h1⟩
      rcases Nat.lt_or_ge g W with h3 | h3
      · exact absurd (ho g h3) (by omega)
      · exact h3
    · rw [h] at hg
      injection hg with hg
      exact ⟨by omega, by omega, by omega, by omega⟩
  have hc : ∀ k, col k ≠ 1 → col' k = col k := fun k hk => by
    rw [hcol', if_neg (fun e => hk (by rw [e]; exact hqc))]
    split
    · rename_i h
      exact ((hrow k h.symm).2.2.2 (lt k hk)).symm
    · rfl
  have hh : ∀ k, col k ≠ 1 → col k ≠ 3 * d + 4 → col k ≠ 3 * d + 5 → w9.heap[k]? = w.heap[k]? := fun k h1 h2 h3 =>
    hfr k (lt k h1) (fun e => h3 (b3.2 k e.symm)) (fun e => h2 (by rw [e]; exact b1))
  have hs : Same (Done col) w w9 := fun k hk => hh k (by rw [show col k = 0 from hk]; omega) (by rw [show col k = 0 from hk]; omega) (by rw [show col k = 0 from hk]; omega)
  have hdn : ∀ k, Done col k → Done col' k := fun k hk => (hc k (by rw [show col k = 0 from hk]; omega)).trans hk
  have hq9 : Cs w9 qv (p.val.map bv).toArray := hqv.keep (hfr qv hqlt (fun e => by have := b3.2 qv e.symm; omega) (fun e => by rw [e] at hqc; omega))
  refine ⟨col', fun k hk => ?_, fun k hk => ?_, hst.keep fun k hk => ⟨(hc k (by omega)).trans hk, hh k (by omega) (by omega) (by omega)⟩, ⟨v', vk, ts ++ [(.string p.name, .slice (some ⟨qv, 0, none⟩) p.val.length p.val.length)], ?_, hcs, ?_, ?_, ?_, ?_⟩, ?_⟩
  · rw [hcol', if_neg (show ¬ k = qv by omega), if_neg (fun e => by have := (hrow k e.symm).2.2.1; omega)]
    exact hn k (by omega)
  · rw [hcol', if_neg (show ¬ k = qv by omega), if_neg (fun e => by have := (hrow k e.symm).2.1; omega)]
    exact ho k hk
  · rw [← hd]
    exact (hc fr.b (by omega)).trans b1
  · rw [← hd]
    refine ⟨?_, fun g hg => ?_⟩
    · rw [List.flatMap_append, List.length_append]
      exact hown
    · rw [hcol', if_neg (hrow g hg).1, if_pos hg.symm]
  · refine (b4.imp fun _ _ h => h.mono hs hdn).snoc ⟨rfl, (by omega : p.name.size ≤ 140737488351232), _, _, rfl, by omega, Nat.le_refl _, by simp [maxLen]; omega, .inr ⟨qv, 0, rfl, ?_, fun j u hj => ?_⟩⟩
    · show col' qv = 0
      rw [hcol', if_pos rfl]
    · rw [Nat.zero_add, hq9.cell j, List.getElem?_toArray]
      exact hj
  · rw [← hd]
    exact b5.keep fun k hk => ⟨(hc k (by omega)).trans hk, hh k (by omega) (by omega) (by omega)⟩
  · exact fun k hk => (b6 k hk).mono hs hdn
  · exact hsp.keep fun k hk => ⟨hc k (by omega), hh k (by omega) (by omega) (by omega)⟩

section
variable {a b bb lr r : Nat} {dk : Nat → Prop} {A : Option Addr} {c : Nat} {dt : List UInt8} {tot f g sl n0 n1 n2 n3 n4 n5 n6 n7 n8 : Nat} {s : Value} {strs : List UInt8} {nop : Nat} {root : Nd} {w0 : World}

theorem keep3 (E : Env a b bb lr r dk tot f g sl strs nop root w0) {w w2 : World} {st : Value} {fs : List Fra} {col : Nat → Nat} {pv : Value} (e5 : Loo w0.heap.size w col st fs) (e6 : Fr w0.heap.size (fun k => k = f ∨ AX a b bb lr r dk k) w0 w)
    (e7 : Cs w f (fdtC n0 n1 n2 n3 n4 n5 n6 n7 n8 tot s pv)) (hf : Fr w.heap.size (AX a b bb lr r dk) w w2) :
    Loo w0.heap.size w2 col st fs ∧ Fr w0.heap.size (fun k => k = f ∨ AX a b bb lr r dk k) w0 w2 ∧ Cs w2 f (fdtC n0 n1 n2 n3 n4 n5 n6 n7 n8 tot s pv) :=
  ⟨e5.fr hf (fun k hk => .inl (E.xl k hk)), e6.trans (hf.mono e6.size (fun k hk h => .inr h)), e7.fr2 hf E.fX⟩


theorem two_step (w : World) (n m : Nat) (rest : List UInt8) (h : ASt a b bb lr r dk A c dt tot w (be4 (n : Int) ++ be4 (m : Int) ++ rest)) (hn : n < 4294967296) (hm : m < 4294967296) :
    Calls Try.prog 90 #[.iface 177 (.pointer (some ⟨a, 0, none⟩)), .pointer (some ⟨w.heap.size, 0, none⟩), .pointer (some ⟨w.heap.size, 1, none⟩)] (w.alloc (.cells #[.int .u32 0, .int .u32 0] 191)) fun e w' => e = .returned .nilIface ∧ Cs w' w.heap.size #[.int .u32 n, .int .u32 m] ∧ ASt a b bb lr r dk A c dt tot w' rest ∧ Fr w.heap.size (AX a b bb lr r dk) w w' := by
  have R := al_rdk a b bb lr r dk A c dt tot
  have hb : Below w.heap.size w (w.alloc (.cells #[.int .u32 0, .int .u32 0] 191)) := (Below.refl _ _).alloc (Nat.le_refl _) _
  have hX := R.xl w _ h
  refine (readTwo_walk R _ _ (R.keep _ _ _ h (fun k hk => hb.block k (hX k hk))) w.heap.size (.int .u32 0) (.int .u32 0) (Cs.new w 191 _) (fun e => by have := hX _ e; omega) n m rest hn hm rfl).mono ?_
  rintro e w1 ⟨rfl, h1, h2, h3⟩
  exact ⟨rfl, h1, h2, (Fr.of_below hb).trans (h3.mono (by simp) (fun k hk e => e.elim (fun e => by omega) id))⟩

theorem has_drop {off : Nat} {nm : ByteArray} (h : Has strs off nm) : ∃ post, strs.drop off = bytesOf nm ++ 0 :: post := by
  obtain ⟨pre, post, rfl, rfl⟩ := h
  exact ⟨post, by rw [List.append_assoc, List.drop_left]⟩

theorem strs_rd {w : World} (h : Cs w g (strs.map bv).toArray) (off : Nat) : Rd w (some ⟨g, off, none⟩) ((strs.drop off).map bv) :=
  .inr ⟨g, off, rfl, fun j u hj => by
    rw [(h.cell (off + j)), List.getElem?_toArray, List.map_drop, List.getElem?_drop] at *
    exact hj⟩

theorem idx_step {w : World} (h : Cs w g (strs.map bv).toArray) {off : Nat} {nm : ByteArray} (hh : Has strs off nm) (ha : AscZ nm) (hs : sl = strs.length) (hs2 : sl ≤ 100000) (cc : Nat) :
    Calls Try.prog 91 #[.slice (some ⟨g, off, none⟩) (sl - off) cc, .int .u8 0] w fun e w' => e = .returned (.int .i64 nm.size) ∧ w = w' := by
  obtain ⟨post, hp⟩ := has_drop hh
  have e : sl - off = (strs.drop off).length := by rw [List.length_drop, hs]
  rw [e]
  exact indexByte_walk w _ cc (strs.drop off) post nm (strs_rd h off) hp (fun k hk => (ha.2 k hk).1) (by rw [List.length_drop]; omega)

theorem name_conv {off : Nat} {nm : ByteArray} (hh : Has strs off nm) (cc : Nat) (w : World) (h : Cs w g (strs.map bv).toArray) : (convert 24 9 (.slice (some ⟨g, off, none⟩) nm.size cc)).run Try.prog w = .ok (.string nm) w := by
  obtain ⟨post, hp⟩ := has_drop hh
  have := conv_str w (some ⟨g, off, none⟩) nm.size cc (bytesOf nm) (by simp [bytesOf]) (by
    have h := strs_rd h off
    rw [hp, List.map_append] at h
    rcases h with h | ⟨b, o, e, h⟩
    · simp at h
    · refine .inr ⟨b, o, e, fun j u hj => h j u ?_⟩
      have hjl := (List.getElem?_eq_some_iff.1 hj).1
      rw [List.getElem?_append_left hjl]
      exact hj)
  rw [this, show strOf (bytesOf nm) = nm from strOf_toList nm]

set_option maxRecDepth 20000 in
set_option maxHeartbeats 4000000 in
theorem case_prop (E : Env a b bb lr r dk tot f g sl strs nop root w0) {w : World} {gs m cap : Nat} {fr : Fra} {fs : List Fra} {col : Nat → Nat} {rest bp bk more : List UInt8} {p : Pr} {rp : List Pr} {off : Nat} {Q0 : Exit → Act → World → Prop}
    (e0 : Has strs off p.name) (ep : fr.rp = p :: rp) (ebp : EncP strs nop rp bp) (ebk : EncL strs nop fr.rk bk) (e1 : Rem strs nop fs more) (er : rest = be4 3 ++ (be4 p.val.length ++ be4 off ++ (pad4 p.val ++ (bp ++ bk ++ tok nop 2 ++ more)))) (ew : whole (fr :: fs) = root)
    (e3 : (tot - rest.length) % 4 = 0) (e4 : ASt a b bb lr r dk A c dt tot w rest) (em : m = fs.length + 1) (e5 : Loo w0.heap.size w col (.slice (some ⟨gs, 0, none⟩) m cap) (fr :: fs)) (e6 : Fr w0.heap.size (fun k => k = f ∨ AX a b bb lr r dk k) w0 w)
    (e7 : Cs w f (fdtC n0 n1 n2 n3 n4 n5 n6 n7 n8 tot s (ptr (bot (fr :: fs))))) (u3 u4 u5 u6 u7 u8 u11 u12 u13 u14 u15 u16 u17 u18 u19 u20 u21 u22 u23 u24 u25 u26 u27 u28 u29 u30 u31 u32 u33 u34 u35 u36 u37 u38 u39 u40 u41 u42 u43 u44 u45 u46 u47 u48 u49 u50 u51 u52 u53 u54 u55 u56 u57 u58 u59 u60 u61 u62 u63 u64 u65 u66 u67 u68 u69 u70 u71 u72 u73 u74 u75 u76 u77 u78 u79 u80 u81 u82 u83 u84 u85 u86 u87 u88 u89 u90 u91 u92 u93 u94 u95 u96 u97 u98 u99 u100 u101 u102 u103 u104 u105 u106 u107 u108 u109 u110 u111 u112 u113 u114 u115 u116 u117 u118 u119 u120 u121 u122 u123 u124 u125 u126 u127 u128 u129 u130 u131 u132 u133 u134 u135 u136 u137 u138 u139 u140 u141 u142 u143 u144 u145 u146 u147 u148 u149 u150 u151 u152 u153 u154 u155 u156 u157 u158 u159 u160 u161 u162 u163 u164 u165 u166 u167 u168 u169 u170 u171 u172 u173 u174 u175 u176 u177 u178 u179 u180 u181 u182 u183 u184 u185 u186 u187 u188 u189 u190 u191 u192 u193 u194 u195 u196 u197 u198 u199 u200 u201 u202 u203 u204 u205 u206 u207 u208 u209 u210 u211 u212 u213 u214 u215 u216 u217 u218 u219 u220 u221 u222 u223 u224 u225 u226 u227 u228 u229 u230 u231 u232 u233 u234 u235 u236 u237 u238 u239 u240 u241 u242 u243 u244 : Value) :
    Code.wp Try.prog body83 (loopQ a b bb lr r dk A c dt tot f g sl n0 n1 n2 n3 n4 n5 n6 n7 n8 s strs nop root w0 rest Q0) ⟨#[.pointer (some ⟨f, 0, none⟩), .iface 142 (.pointer (some ⟨r, 0, none⟩)), .slice (some ⟨g, 0, none⟩) sl sl, u3, u4, u5, u6, u7, u8, .pointer (some ⟨a, 0, none⟩), .slice (some ⟨gs, 0, none⟩) m cap, u11, u12, u13, u14, u15, u16, u17, u18, u19, u20, u21, u22, u23, u24, u25, u26, u27, u28, u29, u30, u31, u32, u33, u34, u35, u36, u37, u38, u39, u40, u41, u42, u43, u44, u45, u46, u47, u48, u49, u50, u51, u52, u53, u54, u55, u56, u57, u58, u59, u60, u61, u62, u63, u64, u65, u66, u67, u68, u69, u70, u71, u72, u73, u74, u75, u76, u77, u78, u79, u80, u81, u82, u83, u84, u85, u86, u87, u88, u89, u90, u91, u92, u93, u94, u95, u96, u97, u98, u99, u100, u101, u102, u103, u104, u105, u106, u107, u108, u109, u110, u111, u112, u113, u114, u115, u116, u117, u118, u119, u120, u121, u122, u123, u124, u125, u126, u127, u128, u129, u130, u131, u132, u133, u134, u135, u136, u137, u138, u139, u140, u141, u142, u143, u144, u145, u146, u147, u148, u149, u150, u151, u152, u153, u154, u155, u156, u157, u158, u159, u160, u161, u162, u163, u164, u165, u166, u167, u168, u169, u170, u171, u172, u173, u174, u175, u176, u177, u178, u179, u180, u181, u182, u183, u184, u185, u186, u187, u188, u189, u190, u191, u192, u193, u194, u195, u196, u197, u198, u199, u200, u201, u202, u203, u204, u205, u206, u207, u208, u209, u210, u211, u212, u213, u214, u215, u216, u217, u218, u219, u220, u221, u222, u223, u224, u225, u226, u227, u228, u229, u230, u231, u232, u233, u234, u235, u236, u237, u238, u239, u240, u241, u242, u243, u244], []⟩ w := by
  obtain ⟨wf1, wf2, wf3, wf4, wf5, wf6, wf7⟩ := whole_facts ew E.ok E.cost
  obtain ⟨oc, -⟩ := own_cap e5.stk.1
  have hmn : m ≤ cap := by rw [em]; simpa using oc
  rw [ep] at wf2 wf4 wf7
  have hvl : p.val.length ≤ 2000 := by simp only [costQP] at wf7; omega
  have hnm := wf2 p (by simp)
  have hps : fr.ps.length ≤ 249 := by simp only [List.length_cons] at wf4; omega
  have hm250 : m ≤ 251 := by omega
  obtain ⟨vl, hvl0⟩ : ∃ vl, vl = p.val.length := ⟨_, rfl⟩
  obtain ⟨nl, hnl0⟩ : ∃ nl, nl = p.name.size := ⟨_, rfl⟩
  have hnl : nl ≤ 31 := by rw [hnl0]; exact hnm.1
  have hoff : off + nl < sl := by rw [E.sl1, hnl0]; exact e0.lt
  have hsl2 := E.sl2
  rw [← hvl0] at hvl
  obtain ⟨tl, htl⟩ : ∃ tl, tl = bp ++ bk ++ tok nop 2 ++ more := ⟨_, rfl⟩
  rw [← htl, ← hvl0] at er
  have e4' := e4
  rw [er] at e4'
  have HT := Lib.hid (tok_step w 3 _ e4' (by omega))
  clear e4'
  have hlen : rest.length = tl.length + (pad4 p.val).length + 12 := by rw [er]; simp only [List.length_append]; simp only [be4, List.length_cons, List.length_nil]; omega
  have hrt := e4.2.2.1
  have hp4 := pad4_mod p.val
  rw [hlen] at e3 hrt
  have hal : (tot - tl.length) % 4 = 0 := by omega
  have Hcode := Lib.hid (And.intro e0 (And.intro ep (And.intro ebp (And.intro ebk (And.intro e1 (And.intro htl ew))))))
  have HL := Lib.hid (show tl.length < rest.length by omega)
  have HS := Lib.hid (And.intro e5 (And.intro e6 (And.intro e7 (And.intro em (And.intro hvl0 (And.intro hnl0 wf2))))))
  have HE := Lib.hid E
  clear e0 ep ebp ebk e1 htl ew e3 e4 e5 e6 e7 em hvl0 hnl0 E hlen hrt wf1 wf2 wf3 wf4 wf5 wf6 wf7 hnm hp4 oc er
  conv => arg 2; whnf
  unfold loopQ
  go_wp2_with fail
  refine HT.out.mono ?_
  rintro e w1 ⟨rfl, hc1, hs1, hf1⟩
  have c0 : w1.cell? ⟨w.heap.size, 0, none⟩ = some (.int .u32 3) := (hc1.cell 0).trans rfl
  have H2 := Lib.hid (two_step w1 vl off _ hs1 (by omega) (by omega))
  have HF := Lib.hid hf1
  clear hc1 hs1 hf1
  go_wp2_with fail
  refine H2.out.mono ?_
  rintro e w2 ⟨rfl, hc2, hs2, hf2⟩
  have hF := HF.out.trans (hf2.mono HF.out.size (fun _ _ h => h))
  have hgc : Cs w2 g (strs.map bv).toArray := (HE.out.gc.fr2 HS.out.2.1 (fun h => h.elim (Ne.symm HE.out.fg) HE.out.gX)).fr2 hF HE.out.gX
  have d0 : w2.cell? ⟨w1.heap.size, 0, none⟩ = some (.int .u32 vl) := (hc2.cell 0).trans rfl
  have d1 : w2.cell? ⟨w1.heap.size, 1, none⟩ = some (.int .u32 off) := (hc2.cell 1).trans rfl
  have hidx := idx_step hgc Hcode.out.1 (HS.out.2.2.2.2.2.2 p (by simp)) HE.out.sl1 HE.out.sl2 (sl - off)
  have hcv := name_conv (strs := strs) (g := g) Hcode.out.1 (sl - off)
  rw [← HS.out.2.2.2.2.2.1] at hidx hcv
  have HI := Lib.hid hidx
  have HCV := Lib.hid hcv
  have hcv2 := hcv w2.drew hgc
  have hq1L : w1.heap.size < w2.heap.size := hc2.lt
  have HG := Lib.hid (And.intro hs2 (And.intro hF (And.intro hgc hc2)))
  have hgt : ¬ (sl : Int) ≤ (off : Int) := by omega
  have hos : (off : Int) ≤ (sl : Int) := by omega
  have hne : ¬ sl = off := by omega
  have hw1 : IntKind.u32.wrap (sl : Int) = (sl : Int) := by simp only [IntKind.wrap, IntKind.bits, IntKind.signed]; simp; omega
  have hng : ((nl : Int) == -1) = false := by simp <;> omega
  have htn : ((off : Int) + (nl : Int)).toNat - off = nl := by omega
  have hw2 : IntKind.u32.wrap (nl : Int) = (nl : Int) := by simp only [IntKind.wrap, IntKind.bits, IntKind.signed]; simp; omega
  have hw3 : IntKind.u32.wrap ((off : Int) + (nl : Int)) = (off : Int) + (nl : Int) := by simp only [IntKind.wrap, IntKind.bits, IntKind.signed]; simp; omega
  have hle : (off : Int) + (nl : Int) ≤ (sl : Int) := by omega
  have hle2 : (off : Int) ≤ (off : Int) + (nl : Int) := by omega
  have hmk := fun w => make5u w vl (by omega)
  obtain ⟨B, hB⟩ : ∃ B : Array Value, B = Array.replicate vl (Value.int .u8 0) := ⟨_, rfl⟩
  rw [← hB] at hmk
  have HB := Lib.hid hB
  clear hc2 hs2 hf2 hF hgc hidx hcv hB
  go_wp2_with fail
  refine HI.out.mono ?_
  rintro e w3 ⟨rfl, rfl⟩
  go_wp2_with fail
  refine wp_region_plan (fun w' => w'.cell? ⟨w1.heap.size, 0, none⟩ = some (.int .u32 vl) ∧ w'.cell? ⟨w1.heap.size, 1, none⟩ = some (.int .u32 off) ∧ (convert 24 9 (.slice (some ⟨g, off, none⟩) nl (sl - off))).run Try.prog w' = .ok (.string p.name) w') 15 (.quiet 0 (.quiet 1 (.quiet 2 (.quiet 3 (.quiet 4 (.quiet 5 (.quiet 6 (.quiet 7 (.quiet 8 (.quiet 9 (.quiet 10 (.quiet 11 (.fork 12 14 (.quiet 13 (.eff 14 (.eff 15 .done))) (.eff 12 (.quiet 13 (.eff 15 .done)))))))))))))))) (by kernel_rfl) (by kernel_rfl) ⟨d0, d1, hcv2⟩ ?_
  simp only [planO, opAt, List.getElem?_toArray, List.getElem?_cons_zero, List.getElem?_cons_succ, Option.getD_some, Nat.reduceBEq]
  iterate 12
    refine' SeqT.quiet (by rfl) ?_ ?_
    rotate_left
    · rintro w' ⟨hS1, hS2, hS3⟩
      go_simp
      try with_reducible rfl
    try simp only [Act.put, List.setIfInBounds_toArray, List.set_cons_zero, List.set_cons_succ]
  refine SeqT.fork (by rfl) (by rfl) ?_ ?_
  · intro K hK
    go_simp
    refine hK.out _ _ ⟨(Cs.cell (cs := #[.int .u32 vl, .int .u32 off]) (by first | exact HG.out.2.2.2.drew.alloc _ | exact (HG.out.2.2.2.drew.alloc _).drew.alloc _ | exact (HG.out.2.2.2.alloc _).drew.alloc _ | exact (HG.out.2.2.2.alloc _).drew | exact ((HG.out.2.2.2.alloc _).alloc _).drew) 0).trans rfl, (Cs.cell (cs := #[.int .u32 vl, .int .u32 off]) (by first | exact HG.out.2.2.2.drew.alloc _ | exact (HG.out.2.2.2.drew.alloc _).drew.alloc _ | exact (HG.out.2.2.2.alloc _).drew.alloc _ | exact (HG.out.2.2.2.alloc _).drew | exact ((HG.out.2.2.2.alloc _).alloc _).drew) 1).trans rfl, HCV.out _ (by first | exact HG.out.2.2.1.drew.alloc _ | exact (HG.out.2.2.1.drew.alloc _).drew.alloc _ | exact (HG.out.2.2.1.alloc _).drew.alloc _ | exact (HG.out.2.2.1.alloc _).drew | exact ((HG.out.2.2.1.alloc _).alloc _).drew)⟩ ?_
    clear hK K
    try simp only [Act.put, List.setIfInBounds_toArray, List.set_cons_zero, List.set_cons_succ]
    refine' SeqT.quiet (by rfl) ?_ ?_
    rotate_left
    · rintro w' ⟨hS1, hS2, hS3⟩
      go_simp
      try with_reducible rfl
    try simp only [Act.put, List.setIfInBounds_toArray, List.set_cons_zero, List.set_cons_succ]
    refine SeqT.eff ?_ ?_
    · rfl
    intro K hK
    go_simp
    refine hK.out _ _ (.inr ⟨(Cs.cell (cs := #[.int .u32 vl, .int .u32 off]) (by first | exact HG.out.2.2.2.drew.alloc _ | exact (HG.out.2.2.2.drew.alloc _).drew.alloc _ | exact (HG.out.2.2.2.alloc _).drew.alloc _ | exact (HG.out.2.2.2.alloc _).drew | exact ((HG.out.2.2.2.alloc _).alloc _).drew) 0).trans rfl, (Cs.cell (cs := #[.int .u32 vl, .int .u32 off]) (by first | exact HG.out.2.2.2.drew.alloc _ | exact (HG.out.2.2.2.drew.alloc _).drew.alloc _ | exact (HG.out.2.2.2.alloc _).drew.alloc _ | exact (HG.out.2.2.2.alloc _).drew | exact ((HG.out.2.2.2.alloc _).alloc _).drew) 1).trans rfl, HCV.out _ (by first | exact HG.out.2.2.1.drew.alloc _ | exact (HG.out.2.2.1.drew.alloc _).drew.alloc _ | exact (HG.out.2.2.1.alloc _).drew.alloc _ | exact (HG.out.2.2.1.alloc _).drew | exact ((HG.out.2.2.1.alloc _).alloc _).drew)⟩) ?_
    clear hK K
    try simp only [Act.put, List.setIfInBounds_toArray, List.set_cons_zero, List.set_cons_succ]
    refine SeqT.last ?_ ?_
    · rfl
    intro K hK
    go_simp
    refine hK.out _ _ ?_
    clear hK K
    obtain ⟨w5, hw5⟩ : ∃ w5, w5 = ((w2.alloc (.cells B 5)).alloc (.cells #[.string p.name, .slice (some ⟨w2.heap.size, 0, none⟩) vl vl] 70)).drew := ⟨_, rfl⟩
    rw [← hw5]
    have hz5 : w5.heap.size = w2.heap.size + 2 := by rw [hw5]; simp
    have hb5 : Below w2.heap.size w2 w5 := by rw [hw5]; exact blw_drew (((Below.refl _ _).alloc (Nat.le_refl _) _).alloc (by simp) _)
    have hq5 : Cs w5 (w2.heap.size + 1) #[.string p.name, .slice (some ⟨w2.heap.size, 0, none⟩) vl vl] := by rw [hw5]; exact (Cs.new' _ _ _ _ (by simp)).drew
    have hv5 : Cs w5 w2.heap.size (List.replicate vl (Value.int .u8 0)).toArray := by rw [hw5, List.toArray_replicate, ← HB.out]; exact ((Cs.new w2 5 B).alloc _).drew
    have R := al_rdk a b bb lr r dk A c dt tot
    have hX2 : ∀ k, AX a b bb lr r dk k → k < w2.heap.size := R.xl w2 _ HG.out.1
    have hst5 : ASt a b bb lr r dk A c dt tot w5 (p.val ++ (pad 4 p.val.length ++ tl)) := R.keep w2 w5 _ (by have := HG.out.1; rw [show pad4 p.val = p.val ++ pad 4 p.val.length from rfl, List.append_assoc] at this; exact this) (fun k hk => hb5.block k (hX2 k hk))
    have HR := Lib.hid (full_ok R w5 p.val (pad 4 p.val.length ++ tl) w2.heap.size 0 vl vl (List.replicate vl (.int .u8 0)) hst5 HS.out.2.2.2.2.1.symm hv5 (fun hX => by have := hX2 _ hX; omega) (by omega) (by simp) (by omega) (by simp [maxLen]; omega))
    have k1 : w5.cell? ⟨(w2.heap.size + 1), 1, none⟩ = some (.slice (some ⟨w2.heap.size, 0, none⟩) vl vl) := (hq5.cell 1).trans rfl
    have H5 := Lib.hid (And.intro hz5 (And.intro hb5 (And.intro hq5 hX2)))
    clear hw5 hz5 hb5 hq5 hv5 R hX2 hst5 
    go_wp2_with fail
    refine HR.out.mono ?_
    rintro e w6 ⟨rfl, hs6, hv6, hf6⟩
    obtain ⟨hz5, hb5, hq5, hX2⟩ := H5.out
    obtain ⟨e5, e6, e7, em, hvl0, hnl0, hasc⟩ := HS.out
    have hspl : splice (List.replicate vl (Value.int .u8 0)) 0 (p.val.map bv) = p.val.map bv := by
      unfold splice
      simp [hvl0]
    rw [hspl] at hv6
    have hws := HG.out.2.1.size
    have hF6 : Fr w.heap.size (AX a b bb lr r dk) w w6 := (HG.out.2.1.trans ((Fr.of_below hb5).mono hws (fun _ _ h => h))).trans (hf6.mono (by omega) (fun k hk h => h.elim (fun e => by omega) id))
    have hq6 : Cs w6 (w2.heap.size + 1) #[.string p.name, .slice (some ⟨w2.heap.size, 0, none⟩) vl vl] := hq5.fr2 hf6 (fun h => h.elim (by omega) (fun hX => by have := hX2 _ hX; omega))
    obtain ⟨g5, g6, g7⟩ := keep3 HE.out e5 e6 e7 hF6
    obtain ⟨vp, vk, ts, b1, b2, b3, b4, b5, b6⟩ := g5.sp.1
    obtain ⟨Av, cv, hvp⟩ := own_slice b3.1
    subst hvp
    obtain ⟨nps, hnps⟩ : ∃ nps, nps = fr.ps.length := ⟨_, rfl⟩
    rw [← hnps] at b2 b3 hps
    obtain ⟨n, hn⟩ : ∃ n, n = fs.length := ⟨_, rfl⟩
    have hmn1 : m = n + 1 := by omega
    have hms : (m : Int) - 1 = (n : Int) := by omega
    have hm0 : ((m : Int) == 0) = false := by simp; omega
    have hsw : IntKind.i64.wrap (n : Int) = (n : Int) := by simp only [IntKind.wrap, IntKind.bits, IntKind.signed]; simp; omega
    have hn0 : (0 : Int) ≤ (n : Int) := by omega
    have hnm : (n : Int) < (m : Int) := by omega
    have xst : w6.cell? ⟨gs, n, none⟩ = some (.pointer (some ⟨fr.b, 0, none⟩)) := by
      have h := g5.stk.1
      rw [show (fr :: fs).length = m by rw [em]; rfl] at h
      have := h.cellAt n (by simp; omega)
      rw [this]
      simp [hn, ptr]
    have x1 : w6.cell? ⟨fr.b, 1, none⟩ = some (.slice Av nps cv) := (b2.cell 1).trans rfl
    have y0 : w6.cell? ⟨(w2.heap.size + 1), 0, none⟩ = some (.string p.name) := (hq6.cell 0).trans rfl
    have y1 : w6.cell? ⟨(w2.heap.size + 1), 1, none⟩ = some (.slice (some ⟨w2.heap.size, 0, none⟩) vl vl) := (hq6.cell 1).trans rfl
    have hcq : ∀ k, w2.heap.size ≤ k → col k = 1 := fun k hk => e5.new k (by omega)
    have hqrow : some (w2.heap.size + 1) ≠ (Value.slice Av nps cv).ownBlock := fun e => by have h1 := b3.2 _ e.symm; have h2 := hcq (w2.heap.size + 1) (by omega); omega
    have hbrow : some fr.b ≠ (Value.slice Av nps cv).ownBlock := fun e => by have h1 := b3.2 _ e.symm; omega
    have hz6 := hf6.size
    have hfb : fr.b < w6.heap.size := b2.lt
    have hqp : (w2.heap.size + 1) < w6.heap.size := hq6.lt
    have HOWN := Lib.hid b3
    have HB2 := Lib.hid b2
    have HALL := Lib.hid (And.intro hs6 (And.intro hv6 (And.intro g5 (And.intro g6 (And.intro g7 (And.intro b1 (And.intro b4 (And.intro b5 (And.intro b6 (And.intro hnps (And.intro hn (And.intro em (And.intro hvl0 (And.intro hasc hcq))))))))))))))
    clear hmn1
    clear hs6 hv6 hf6 hz5 hb5 hq5 hX2 e5 e6 e7 em hvl0 hnl0 hasc hspl hF6 g5 g6 g7 b1 b2 b3 b4 b5 b6 hnps hq6 hcq hn HR
    go_wp2_with fail
    refine wp_region_plan (fun w' => w'.cell? ⟨fr.b, 1, none⟩ = some (.slice Av nps cv) ∧ w'.cell? ⟨(w2.heap.size + 1), 0, none⟩ = some (.string p.name) ∧ w'.cell? ⟨(w2.heap.size + 1), 1, none⟩ = some (.slice (some ⟨w2.heap.size, 0, none⟩) vl vl)) 10 (.quiet 0 (.quiet 1 (.quiet 2 (.quiet 3 (.quiet 4 (.quiet 5 (.eff 6 (.eff 7 (.quiet 8 (.quiet 9 (.eff 10 .done))))))))))) (by kernel_rfl) (by kernel_rfl) ⟨x1, y0, y1⟩ ?_
    simp only [planO, opAt, List.getElem?_toArray, List.getElem?_cons_zero, List.getElem?_cons_succ, Option.getD_some, Nat.reduceBEq]
    iterate 6
      refine' SeqT.quiet (by rfl) ?_ ?_
      rotate_left
      · rintro w' ⟨hS1, hS2, hS3⟩
        go_simp
        try with_reducible rfl
      try simp only [Act.put, List.setIfInBounds_toArray, List.set_cons_zero, List.set_cons_succ]
    refine SeqT.eff ?_ ?_
    · rfl
    intro K hK
    go_simp
    refine hK.out _ _ (.inr ⟨(World.cell?_alloc_lt _ _ _ hfb).trans x1, (World.cell?_alloc_lt _ _ _ hqp).trans y0, (World.cell?_alloc_lt _ _ _ hqp).trans y1⟩) ?_
    clear hK K
    try simp only [Act.put, List.setIfInBounds_toArray, List.set_cons_zero, List.set_cons_succ]
    refine SeqT.eff ?_ ?_
    · rfl
    intro K hK
    refine wp_append_el el127 (.tmp 209) (.tmp 211) rfl 0 (.slice Av nps cv) nps (ts.flatMap duo) rfl (HOWN.out.1.drew.alloc _) (some ⟨w6.heap.size, 0, none⟩) 1 1 [.string p.name, .slice (some ⟨w2.heap.size, 0, none⟩) vl vl] rfl (by simp) ((Cs.new w6.drew 70 #[.string p.name, .slice (some ⟨w2.heap.size, 0, none⟩) vl vl]).rd rfl) (by simp [Value.oneCell']) (by omega) (by omega) (by simp) ?_
    intro v' w8 hown8 hgrow8 hnil8 hat8
    clear hnil8
    obtain ⟨A8, c8, rfl⟩ := own_slice hown8
    have g8 := grown_below (((Below.refl w6.heap.size w6).drew).alloc (by simp) (.cells #[.string p.name, .slice (some ⟨w2.heap.size, 0, none⟩) vl vl] 70)) hgrow8
    have qf8 := HB2.out.grown g8 hbrow
    have x8 : w8.cell? ⟨fr.b, 1, none⟩ = some (.slice Av nps cv) := (qf8.cell 1).trans rfl
    have fz8 := qf8.frozen 1
    refine hK.out _ _ (.inr ⟨x8, (World.cell?_of_block (a := ⟨(w2.heap.size + 1), 0, none⟩) (g8.block _ hqp hqrow)).trans y0, (World.cell?_of_block (a := ⟨(w2.heap.size + 1), 1, none⟩) (g8.block _ hqp hqrow)).trans y1⟩) ?_
    clear hK K
    try simp only [Act.put, List.setIfInBounds_toArray, List.set_cons_zero, List.set_cons_succ]
    iterate 2
      refine' SeqT.quiet (by rfl) ?_ ?_
      rotate_left
      · rintro w' ⟨hS1, hS2, hS3⟩
        go_simp
        try with_reducible rfl
      try simp only [Act.put, List.setIfInBounds_toArray, List.set_cons_zero, List.set_cons_succ]
    refine SeqT.last ?_ ?_
    · rfl
    intro K hK
    go_simp
    refine hK.out _ _ ?_
    clear hK K
    obtain ⟨hs6, hv6, g5, g6, g7, b1, b4, b5, b6, hnps, hn, em, hvl0, hasc, hcq⟩ := HALL.out
    obtain ⟨w9, hw9⟩ : ∃ w9, w9 = w8.setCell ⟨fr.b, 1, none⟩ (.slice A8 (nps + 1) c8) := ⟨_, rfl⟩
    rw [← hw9]
    have hcs9 : Cs w9 fr.b #[.string fr.nm, .slice A8 (nps + 1) c8, vk] := by rw [hw9]; simpa using qf8.set_ 1 (.slice A8 (nps + 1) c8)
    have hat9 : (Value.slice A8 (nps + 1) c8).ownBlock = (Value.slice Av nps cv).ownBlock ∨ (Value.slice A8 (nps + 1) c8).ownBlock = some (w6.heap.size + 1) := by simpa using hat8
    have hbn : ∀ g, (Value.slice A8 (nps + 1) c8).ownBlock = some g → g ≠ fr.b := fun g hg e => by
      rcases hat9 with h | h
      · exact hbrow (by rw [← e, ← hg, h])
      · rw [h] at hg; injection hg with hg; omega
    have hz9 : w9.heap.size = w8.heap.size := by rw [hw9]; simp [World.setCell]
    have hown9 : w9.ownsRow 0 70 2 (.slice A8 (nps + 1) c8) (fr.ps.length + 1) (ts.flatMap duo ++ [.string p.name, .slice (some ⟨w2.heap.size, 0, none⟩) p.val.length p.val.length]) := by
      rw [← hnps, ← hvl0]
      exact own_keep hown8 fun g hg => by rw [hw9]; exact Below.heap_setCell _ _ _ _ (hbn g hg)
    have hfr9 : ∀ k, k < w6.heap.size → some k ≠ (Value.slice Av nps cv).ownBlock → k ≠ fr.b → w9.heap[k]? = w6.heap[k]? := fun k h1 h2 h3 => by
      rw [hw9, Below.heap_setCell _ _ _ _ h3]
      exact g8.block k h1 h2
    have hz8 := g8.size
    have hw06 := g6.size
    have hw0w := HS.out.2.1.size
    have hw2 := HG.out.2.1.size
    have hrow1 : ∀ k, col k = 1 → some k ≠ (Value.slice Av nps cv).ownBlock := fun k hk e => by have := HOWN.out.2 k e.symm; omega
    have hfb1 : ∀ k, col k = 1 → k ≠ fr.b := fun k hk e => by rw [e] at hk; omega
    have hWb : w0.heap.size ≤ fr.b := by
      rcases Nat.lt_or_ge fr.b w0.heap.size with h | h
      · exact absurd (g5.old _ h) (by omega)
      · exact h
    have hWr : ∀ k, (Value.slice Av nps cv).ownBlock = some k → w0.heap.size ≤ k := fun k hk => by
      rcases Nat.lt_or_ge k w0.heap.size with h | h
      · exact absurd hk.symm (hrow1 k (g5.old _ h))
      · exact h
    obtain ⟨col', L9⟩ := loo_prop (W := w0.heap.size) (w := w6) (w9 := w9) (vp := .slice Av nps cv) (v' := .slice A8 (nps + 1) c8) (p := p) (rp := rp) (qv := w2.heap.size) (ts := ts) hw06 g5.new g5.old g5.stk b1 (by rw [← hnps]; exact HOWN.out) b4 b5 b6 g5.sp.2 hv6 (hcq w2.heap.size (by omega)) (by omega) (by omega) (hasc p (by simp)).1 hown9
      (hat9.imp id fun h => ⟨_, h, by omega, by have := (hown8.lt _ h).2; omega⟩) hcs9 (by omega) hfr9
    have R := al_rdk a b bb lr r dk A c dt tot
    have hs9 : ASt a b bb lr r dk A c dt tot w9 (pad 4 p.val.length ++ tl) := R.keep w6 w9 _ hs6 fun k hk => hfr9 k (R.xl w6 _ hs6 k hk) (hrow1 k (g5.old k (HE.out.xl k hk))) (hfb1 k (g5.old k (HE.out.xl k hk)))
    have hf9 : Cs w9 f (fdtC n0 n1 n2 n3 n4 n5 n6 n7 n8 tot s (ptr (bot (fr :: fs)))) := g7.keep (hfr9 f g7.lt (hrow1 f (g5.old f HE.out.fl)) (hfb1 f (g5.old f HE.out.fl)))
    have hF9 : Fr w0.heap.size (fun k => k = f ∨ AX a b bb lr r dk k) w0 w9 := by
      rw [hw9]
      exact g6.trans (((Fr.refl w0.heap.size _ w6).grown g8 hw06 (fun k hk => .inl (hWr k hk))).setCell (p := ⟨fr.b, 1, none⟩) (.inl hWb) _)
    obtain ⟨c0', cp, cebp, cebk, ce1, chtl, cew⟩ := Hcode.out
    have hph : Pha strs nop root w9 col' ({ fr with ps := fr.ps ++ [p], rp := rp } :: fs) (ptr (bot (fr :: fs))) tl := by
      rw [bot_head fr { fr with ps := fr.ps ++ [p], rp := rp } fs rfl]
      exact Pha.mid ⟨bp, bk, more, cebp, cebk, ce1, chtl⟩ (by rw [← cew]; simp [whole, cp])
    have hpl : (pad 4 p.val.length).length < 4 := by
      unfold pad
      split
      · simp
      · rw [zeros_len]; omega
    have HA := Lib.hid (align_step w9 (pad 4 p.val.length) tl hs9 hal hpl)
    have HFIN := Lib.hid (And.intro L9 (And.intro hF9 (And.intro hf9 hph)))
    clear hs6 hv6 g5 g6 g7 b1 b4 b5 b6 hnps hn em hvl0 hasc hcq hw9 hcs9 hat9 hbn hz9 hown9 hfr9 hz8 hw06 hw0w hrow1 hfb1 hWb hWr L9 R hs9 hf9 hF9 c0' cp cebp cebk ce1 chtl cew hph hpl HALL hat8 hown8 hgrow8 g8 qf8 x8 fz8 x1 y0 y1 xst
    go_wp2_with fail
    refine HA.out.mono ?_
    rintro e w10 ⟨⟨pp, rfl⟩, hs10, hf10⟩
    obtain ⟨L9, hF9, hf9, hph⟩ := HFIN.out
    obtain ⟨g5, g6, g7, g8⟩ := keep_fr HE.out L9 hF9 hf9 hph hf10
    have HR := Lib.hid (show Rel a b bb lr r dk A c dt tot f n0 n1 n2 n3 n4 n5 n6 n7 n8 s strs nop root w0 (.slice (some ⟨gs, 0, none⟩) m cap) w10 tl _ from
      ⟨col', 0, tl, _, by simp [nops], by omega, hal, hs10, g5, g6, g7, g8⟩)
    clear L9 hF9 hf9 hph g5 g6 g7 g8 hs10 hf10
    go_wp2_with fail
    exact WI_intro rfl rfl rfl rfl rfl rfl HR.out HL.out
  · intro K hK
    go_simp
    refine hK.out _ _ ⟨(Cs.cell (cs := #[.int .u32 vl, .int .u32 off]) (by first | exact HG.out.2.2.2.drew.alloc _ | exact (HG.out.2.2.2.drew.alloc _).drew.alloc _ | exact (HG.out.2.2.2.alloc _).drew.alloc _ | exact (HG.out.2.2.2.alloc _).drew | exact ((HG.out.2.2.2.alloc _).alloc _).drew) 0).trans rfl, (Cs.cell (cs := #[.int .u32 vl, .int .u32 off]) (by first | exact HG.out.2.2.2.drew.alloc _ | exact (HG.out.2.2.2.drew.alloc _).drew.alloc _ | exact (HG.out.2.2.2.alloc _).drew.alloc _ | exact (HG.out.2.2.2.alloc _).drew | exact ((HG.out.2.2.2.alloc _).alloc _).drew) 1).trans rfl, HCV.out _ (by first | exact HG.out.2.2.1.drew.alloc _ | exact (HG.out.2.2.1.drew.alloc _).drew.alloc _ | exact (HG.out.2.2.1.alloc _).drew.alloc _ | exact (HG.out.2.2.1.alloc _).drew | exact ((HG.out.2.2.1.alloc _).alloc _).drew)⟩ ?_
    clear hK K
    try simp only [Act.put, List.setIfInBounds_toArray, List.set_cons_zero, List.set_cons_succ]
    refine SeqT.eff ?_ ?_
    · rfl
    intro K hK
    go_simp
    refine hK.out _ _ (.inr ⟨(Cs.cell (cs := #[.int .u32 vl, .int .u32 off]) (by first | exact HG.out.2.2.2.drew.alloc _ | exact (HG.out.2.2.2.drew.alloc _).drew.alloc _ | exact (HG.out.2.2.2.alloc _).drew.alloc _ | exact (HG.out.2.2.2.alloc _).drew | exact ((HG.out.2.2.2.alloc _).alloc _).drew) 0).trans rfl, (Cs.cell (cs := #[.int .u32 vl, .int .u32 off]) (by first | exact HG.out.2.2.2.drew.alloc _ | exact (HG.out.2.2.2.drew.alloc _).drew.alloc _ | exact (HG.out.2.2.2.alloc _).drew.alloc _ | exact (HG.out.2.2.2.alloc _).drew | exact ((HG.out.2.2.2.alloc _).alloc _).drew) 1).trans rfl, HCV.out _ (by first | exact HG.out.2.2.1.drew.alloc _ | exact (HG.out.2.2.1.drew.alloc _).drew.alloc _ | exact (HG.out.2.2.1.alloc _).drew.alloc _ | exact (HG.out.2.2.1.alloc _).drew | exact ((HG.out.2.2.1.alloc _).alloc _).drew)⟩) ?_
    clear hK K
    try simp only [Act.put, List.setIfInBounds_toArray, List.set_cons_zero, List.set_cons_succ]
    refine' SeqT.quiet (by rfl) ?_ ?_
    rotate_left
    · rintro w' ⟨hS1, hS2, hS3⟩
      go_simp
      try with_reducible rfl
    try simp only [Act.put, List.setIfInBounds_toArray, List.set_cons_zero, List.set_cons_succ]
    refine SeqT.last ?_ ?_
    · rfl
    intro K hK
    go_simp
    refine hK.out _ _ ?_
    clear hK K
    obtain ⟨w5, hw5⟩ : ∃ w5, w5 = ((w2.alloc (.cells #[.string p.name, .slice (some ⟨w2.heap.size + 1, 0, none⟩) vl vl] 70)).alloc (.cells B 5)).drew := ⟨_, rfl⟩
    rw [← hw5]
    have hz5 : w5.heap.size = w2.heap.size + 2 := by rw [hw5]; simp
    have hb5 : Below w2.heap.size w2 w5 := by rw [hw5]; exact blw_drew (((Below.refl _ _).alloc (Nat.le_refl _) _).alloc (by simp) _)
    have hq5 : Cs w5 w2.heap.size #[.string p.name, .slice (some ⟨(w2.heap.size + 1), 0, none⟩) vl vl] := by rw [hw5]; exact ((Cs.new w2 70 _).alloc _).drew
    have hv5 : Cs w5 (w2.heap.size + 1) (List.replicate vl (Value.int .u8 0)).toArray := by rw [hw5, List.toArray_replicate, ← HB.out]; exact (Cs.new' _ _ _ _ (by simp)).drew
    have R := al_rdk a b bb lr r dk A c dt tot
    have hX2 : ∀ k, AX a b bb lr r dk k → k < w2.heap.size := R.xl w2 _ HG.out.1
    have hst5 : ASt a b bb lr r dk A c dt tot w5 (p.val ++ (pad 4 p.val.length ++ tl)) := R.keep w2 w5 _ (by have := HG.out.1; rw [show pad4 p.val = p.val ++ pad 4 p.val.length from rfl, List.append_assoc] at this; exact this) (fun k hk => hb5.block k (hX2 k hk))
    have HR := Lib.hid (full_ok R w5 p.val (pad 4 p.val.length ++ tl) (w2.heap.size + 1) 0 vl vl (List.replicate vl (.int .u8 0)) hst5 HS.out.2.2.2.2.1.symm hv5 (fun hX => by have := hX2 _ hX; omega) (by omega) (by simp) (by omega) (by simp [maxLen]; omega))
    have k1 : w5.cell? ⟨w2.heap.size, 1, none⟩ = some (.slice (some ⟨(w2.heap.size + 1), 0, none⟩) vl vl) := (hq5.cell 1).trans rfl
    have H5 := Lib.hid (And.intro hz5 (And.intro hb5 (And.intro hq5 hX2)))
    clear hw5 hz5 hb5 hq5 hv5 R hX2 hst5 
    go_wp2_with fail
    refine HR.out.mono ?_
    rintro e w6 ⟨rfl, hs6, hv6, hf6⟩
    obtain ⟨hz5, hb5, hq5, hX2⟩ := H5.out
    obtain ⟨e5, e6, e7, em, hvl0, hnl0, hasc⟩ := HS.out
    have hspl : splice (List.replicate vl (Value.int .u8 0)) 0 (p.val.map bv) = p.val.map bv := by
      unfold splice
      simp [hvl0]
    rw [hspl] at hv6
    have hws := HG.out.2.1.size
    have hF6 : Fr w.heap.size (AX a b bb lr r dk) w w6 := (HG.out.2.1.trans ((Fr.of_below hb5).mono hws (fun _ _ h => h))).trans (hf6.mono (by omega) (fun k hk h => h.elim (fun e => by omega) id))
    have hq6 : Cs w6 w2.heap.size #[.string p.name, .slice (some ⟨(w2.heap.size + 1), 0, none⟩) vl vl] := hq5.fr2 hf6 (fun h => h.elim (by omega) (fun hX => by have := hX2 _ hX; omega))
    obtain ⟨g5, g6, g7⟩ := keep3 HE.out e5 e6 e7 hF6
    obtain ⟨vp, vk, ts, b1, b2, b3, b4, b5, b6⟩ := g5.sp.1
    obtain ⟨Av, cv, hvp⟩ := own_slice b3.1
    subst hvp
    obtain ⟨nps, hnps⟩ : ∃ nps, nps = fr.ps.length := ⟨_, rfl⟩
    rw [← hnps] at b2 b3 hps
    obtain ⟨n, hn⟩ : ∃ n, n = fs.length := ⟨_, rfl⟩
    have hmn1 : m = n + 1 := by omega
    have hms : (m : Int) - 1 = (n : Int) := by omega
    have hm0 : ((m : Int) == 0) = false := by simp; omega
    have hsw : IntKind.i64.wrap (n : Int) = (n : Int) := by simp only [IntKind.wrap, IntKind.bits, IntKind.signed]; simp; omega
    have hn0 : (0 : Int) ≤ (n : Int) := by omega
    have hnm : (n : Int) < (m : Int) := by omega
    have xst : w6.cell? ⟨gs, n, none⟩ = some (.pointer (some ⟨fr.b, 0, none⟩)) := by
      have h := g5.stk.1
      rw [show (fr :: fs).length = m by rw [em]; rfl] at h
      have := h.cellAt n (by simp; omega)
      rw [this]
      simp [hn, ptr]
    have x1 : w6.cell? ⟨fr.b, 1, none⟩ = some (.slice Av nps cv) := (b2.cell 1).trans rfl
    have y0 : w6.cell? ⟨w2.heap.size, 0, none⟩ = some (.string p.name) := (hq6.cell 0).trans rfl
    have y1 : w6.cell? ⟨w2.heap.size, 1, none⟩ = some (.slice (some ⟨(w2.heap.size + 1), 0, none⟩) vl vl) := (hq6.cell 1).trans rfl
    have hcq : ∀ k, w2.heap.size ≤ k → col k = 1 := fun k hk => e5.new k (by omega)
    have hqrow : some w2.heap.size ≠ (Value.slice Av nps cv).ownBlock := fun e => by have h1 := b3.2 _ e.symm; have h2 := hcq w2.heap.size (by omega); omega
    have hbrow : some fr.b ≠ (Value.slice Av nps cv).ownBlock := fun e => by have h1 := b3.2 _ e.symm; omega
    have hz6 := hf6.size
    have hfb : fr.b < w6.heap.size := b2.lt
    have hqp : w2.heap.size < w6.heap.size := hq6.lt
    have HOWN := Lib.hid b3
    have HB2 := Lib.hid b2
    have HALL := Lib.hid (And.intro hs6 (And.intro hv6 (And.intro g5 (And.intro g6 (And.intro g7 (And.intro b1 (And.intro b4 (And.intro b5 (And.intro b6 (And.intro hnps (And.intro hn (And.intro em (And.intro hvl0 (And.intro hasc hcq))))))))))))))
    clear hmn1
    clear hs6 hv6 hf6 hz5 hb5 hq5 hX2 e5 e6 e7 em hvl0 hnl0 hasc hspl hF6 g5 g6 g7 b1 b2 b3 b4 b5 b6 hnps hq6 hcq hn HR
    go_wp2_with fail
    refine wp_region_plan (fun w' => w'.cell? ⟨fr.b, 1, none⟩ = some (.slice Av nps cv) ∧ w'.cell? ⟨w2.heap.size, 0, none⟩ = some (.string p.name) ∧ w'.cell? ⟨w2.heap.size, 1, none⟩ = some (.slice (some ⟨(w2.heap.size + 1), 0, none⟩) vl vl)) 10 (.quiet 0 (.quiet 1 (.quiet 2 (.quiet 3 (.quiet 4 (.quiet 5 (.eff 6 (.eff 7 (.quiet 8 (.quiet 9 (.eff 10 .done))))))))))) (by kernel_rfl) (by kernel_rfl) ⟨x1, y0, y1⟩ ?_
    simp only [planO, opAt, List.getElem?_toArray, List.getElem?_cons_zero, List.getElem?_cons_succ, Option.getD_some, Nat.reduceBEq]
    iterate 6
      refine' SeqT.quiet (by rfl) ?_ ?_
      rotate_left
      · rintro w' ⟨hS1, hS2, hS3⟩
        go_simp
        try with_reducible rfl
      try simp only [Act.put, List.setIfInBounds_toArray, List.set_cons_zero, List.set_cons_succ]
    refine SeqT.eff ?_ ?_
    · rfl
    intro K hK
    go_simp
    refine hK.out _ _ (.inr ⟨(World.cell?_alloc_lt _ _ _ hfb).trans x1, (World.cell?_alloc_lt _ _ _ hqp).trans y0, (World.cell?_alloc_lt _ _ _ hqp).trans y1⟩) ?_
    clear hK K
    try simp only [Act.put, List.setIfInBounds_toArray, List.set_cons_zero, List.set_cons_succ]
    refine SeqT.eff ?_ ?_
    · rfl
    intro K hK
    refine wp_append_el el127 (.tmp 209) (.tmp 211) rfl 0 (.slice Av nps cv) nps (ts.flatMap duo) rfl (HOWN.out.1.drew.alloc _) (some ⟨w6.heap.size, 0, none⟩) 1 1 [.string p.name, .slice (some ⟨(w2.heap.size + 1), 0, none⟩) vl vl] rfl (by simp) ((Cs.new w6.drew 70 #[.string p.name, .slice (some ⟨(w2.heap.size + 1), 0, none⟩) vl vl]).rd rfl) (by simp [Value.oneCell']) (by omega) (by omega) (by simp) ?_
    intro v' w8 hown8 hgrow8 hnil8 hat8
    clear hnil8
    obtain ⟨A8, c8, rfl⟩ := own_slice hown8
    have g8 := grown_below (((Below.refl w6.heap.size w6).drew).alloc (by simp) (.cells #[.string p.name, .slice (some ⟨(w2.heap.size + 1), 0, none⟩) vl vl] 70)) hgrow8
    have qf8 := HB2.out.grown g8 hbrow
    have x8 : w8.cell? ⟨fr.b, 1, none⟩ = some (.slice Av nps cv) := (qf8.cell 1).trans rfl
    have fz8 := qf8.frozen 1
    refine hK.out _ _ (.inr ⟨x8, (World.cell?_of_block (a := ⟨w2.heap.size, 0, none⟩) (g8.block _ hqp hqrow)).trans y0, (World.cell?_of_block (a := ⟨w2.heap.size, 1, none⟩) (g8.block _ hqp hqrow)).trans y1⟩) ?_
    clear hK K
    try simp only [Act.put, List.setIfInBounds_toArray, List.set_cons_zero, List.set_cons_succ]
    iterate 2
      refine' SeqT.quiet (by rfl) ?_ ?_
      rotate_left
      · rintro w' ⟨hS1, hS2, hS3⟩
        go_simp
        try with_reducible rfl
      try simp only [Act.put, List.setIfInBounds_toArray, List.set_cons_zero, List.set_cons_succ]
    refine SeqT.last ?_ ?_
    · rfl
    intro K hK
    go_simp
    refine hK.out _ _ ?_
    clear hK K
    obtain ⟨hs6, hv6, g5, g6, g7, b1, b4, b5, b6, hnps, hn, em, hvl0, hasc, hcq⟩ := HALL.out
    obtain ⟨w9, hw9⟩ : ∃ w9, w9 = w8.setCell ⟨fr.b, 1, none⟩ (.slice A8 (nps + 1) c8) := ⟨_, rfl⟩
    rw [← hw9]
    have hcs9 : Cs w9 fr.b #[.string fr.nm, .slice A8 (nps + 1) c8, vk] := by rw [hw9]; simpa using qf8.set_ 1 (.slice A8 (nps + 1) c8)
    have hat9 : (Value.slice A8 (nps + 1) c8).ownBlock = (Value.slice Av nps cv).ownBlock ∨ (Value.slice A8 (nps + 1) c8).ownBlock = some (w6.heap.size + 1) := by simpa using hat8
    have hbn : ∀ g, (Value.slice A8 (nps + 1) c8).ownBlock = some g → g ≠ fr.b := fun g hg e => by
      rcases hat9 with h | h
      · exact hbrow (by rw [← e, ← hg, h])
      · rw [h] at hg; injection hg with hg; omega
    have hz9 : w9.heap.size = w8.heap.size := by rw [hw9]; simp [World.setCell]
    have hown9 : w9.ownsRow 0 70 2 (.slice A8 (nps + 1) c8) (fr.ps.length + 1) (ts.flatMap duo ++ [.string p.name, .slice (some ⟨(w2.heap.size + 1), 0, none⟩) p.val.length p.val.length]) := by
      rw [← hnps, ← hvl0]
      exact own_keep hown8 fun g hg => by rw [hw9]; exact Below.heap_setCell _ _ _ _ (hbn g hg)
    have hfr9 : ∀ k, k < w6.heap.size → some k ≠ (Value.slice Av nps cv).ownBlock → k ≠ fr.b → w9.heap[k]? = w6.heap[k]? := fun k h1 h2 h3 => by
      rw [hw9, Below.heap_setCell _ _ _ _ h3]
      exact g8.block k h1 h2
    have hz8 := g8.size
    have hw06 := g6.size
    have hw0w := HS.out.2.1.size
    have hw2 := HG.out.2.1.size
    have hrow1 : ∀ k, col k = 1 → some k ≠ (Value.slice Av nps cv).ownBlock := fun k hk e => by have := HOWN.out.2 k e.symm; omega
    have hfb1 : ∀ k, col k = 1 → k ≠ fr.b := fun k hk e => by rw [e] at hk; omega
    have hWb : w0.heap.size ≤ fr.b := by
      rcases Nat.lt_or_ge fr.b w0.heap.size with h | h
      · exact absurd (g5.old _ h) (by omega)
      · exact h
    have hWr : ∀ k, (Value.slice Av nps cv).ownBlock = some k → w0.heap.size ≤ k := fun k hk => by
      rcases Nat.lt_or_ge k w0.heap.size with h | h
      · exact absurd hk.symm (hrow1 k (g5.old _ h))
      · exact h
    obtain ⟨col', L9⟩ := loo_prop (W := w0.heap.size) (w := w6) (w9 := w9) (vp := .slice Av nps cv) (v' := .slice A8 (nps + 1) c8) (p := p) (rp := rp) (qv := (w2.heap.size + 1)) (ts := ts) hw06 g5.new g5.old g5.stk b1 (by rw [← hnps]; exact HOWN.out) b4 b5 b6 g5.sp.2 hv6 (hcq (w2.heap.size + 1) (by omega)) (by omega) (by omega) (hasc p (by simp)).1 hown9
      (hat9.imp id fun h => ⟨_, h, by omega, by have := (hown8.lt _ h).2; omega⟩) hcs9 (by omega) hfr9
    have R := al_rdk a b bb lr r dk A c dt tot
    have hs9 : ASt a b bb lr r dk A c dt tot w9 (pad 4 p.val.length ++ tl) := R.keep w6 w9 _ hs6 fun k hk => hfr9 k (R.xl w6 _ hs6 k hk) (hrow1 k (g5.old k (HE.out.xl k hk))) (hfb1 k (g5.old k (HE.out.xl k hk)))
    have hf9 : Cs w9 f (fdtC n0 n1 n2 n3 n4 n5 n6 n7 n8 tot s (ptr (bot (fr :: fs)))) := g7.keep (hfr9 f g7.lt (hrow1 f (g5.old f HE.out.fl)) (hfb1 f (g5.old f HE.out.fl)))
    have hF9 : Fr w0.heap.size (fun k => k = f ∨ AX a b bb lr r dk k) w0 w9 := by
      rw [hw9]
      exact g6.trans (((Fr.refl w0.heap.size _ w6).grown g8 hw06 (fun k hk => .inl (hWr k hk))).setCell (p := ⟨fr.b, 1, none⟩) (.inl hWb) _)
    obtain ⟨c0', cp, cebp, cebk, ce1, chtl, cew⟩ := Hcode.out
    have hph : Pha strs nop root w9 col' ({ fr with ps := fr.ps ++ [p], rp := rp } :: fs) (ptr (bot (fr :: fs))) tl := by
      rw [bot_head fr { fr with ps := fr.ps ++ [p], rp := rp } fs rfl]
      exact Pha.mid ⟨bp, bk, more, cebp, cebk, ce1, chtl⟩ (by rw [← cew]; simp [whole, cp])
    have hpl : (pad 4 p.val.length).length < 4 := by
      unfold pad
      split
      · simp
      · rw [zeros_len]; omega
    have HA := Lib.hid (align_step w9 (pad 4 p.val.length) tl hs9 hal hpl)
    have HFIN := Lib.hid (And.intro L9 (And.intro hF9 (And.intro hf9 hph)))
    clear hs6 hv6 g5 g6 g7 b1 b4 b5 b6 hnps hn em hvl0 hasc hcq hw9 hcs9 hat9 hbn hz9 hown9 hfr9 hz8 hw06 hw0w hrow1 hfb1 hWb hWr L9 R hs9 hf9 hF9 c0' cp cebp cebk ce1 chtl cew hph hpl HALL hat8 hown8 hgrow8 g8 qf8 x8 fz8 x1 y0 y1 xst
    go_wp2_with fail
    refine HA.out.mono ?_
    rintro e w10 ⟨⟨pp, rfl⟩, hs10, hf10⟩
    obtain ⟨L9, hF9, hf9, hph⟩ := HFIN.out
    obtain ⟨g5, g6, g7, g8⟩ := keep_fr HE.out L9 hF9 hf9 hph hf10
    have HR := Lib.hid (show Rel a b bb lr r dk A c dt tot f n0 n1 n2 n3 n4 n5 n6 n7 n8 s strs nop root w0 (.slice (some ⟨gs, 0, none⟩) m cap) w10 tl _ from
      ⟨col', 0, tl, _, by simp [nops], by omega, hal, hs10, g5, g6, g7, g8⟩)
    clear L9 hF9 hf9 hph g5 g6 g7 g8 hs10 hf10
    go_wp2_with fail
    exact WI_intro rfl rfl rfl rfl rfl rfl HR.out HL.out
end
end Go.Proofs.Ytlbhadggfipckaa
