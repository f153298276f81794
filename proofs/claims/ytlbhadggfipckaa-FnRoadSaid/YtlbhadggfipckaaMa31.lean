/-
  readStructBlock.
  ReadFDT, ZZRead on the bytes of a tree.
-/
import Derived.Test.YtlbhadggfipckaaMa30
import Derived.Test.YtlbhadggfipckaaMa24
set_option linter.unusedVariables false
set_option linter.unusedSimpArgs false
namespace Go.Proofs.Ytlbhadggfipckaa
open Go.RowKit

def StructPost (w : World) (f r : Nat) (dk : Nat → Prop) (n0 n1 n2 n3 n4 n5 n6 n7 n8 n9 : Nat) (s : Value) (root : Nd) (e : Ending) (w' : World) : Prop :=
  e = .returned .nilIface ∧ ∃ lt : LT, lt.erase = root ∧ Cs w' f (fdtC n0 n1 n2 n3 n4 n5 n6 n7 n8 n9 s (ptr lt.b)) ∧ PN w' (Rng w w') lt ∧ Fr w.heap.size (fun k => k = f ∨ k = r ∨ dk k) w w'

theorem res83 {t : Array Value} {w : World} (h : t[6]? = some .nilIface) : (results Try.f83 t).run Try.prog w = .ok .nilIface w := by
  have e : Try.f83.results = #[.tmp 6] := rfl
  unfold results
  rw [e]
  simp [h, Array.getD_eq_getD_getElem?]

set_option maxRecDepth 20000 in
set_option maxHeartbeats 2000000 in
theorem struct_walk (w : World) (f r g sl : Nat) (dk : Nat → Prop) (A : Option Addr) (c : Nat) (dt : List UInt8) (i : Nat) (h : BR w r dk A c dt i) (n0 n1 n2 n3 n4 n5 n6 n7 n8 tot : Nat) (s : Value) (strs st more : List UInt8) (nop : Nat) (root : Nd)
    (hf : Cs w f (fdtC n0 n1 n2 n3 n4 n5 n6 n7 n8 tot s (.pointer none))) (hfr : f ≠ r) (hfd : ¬ dk f) (hg : Cs w g (strs.map bv).toArray) (hgf : f ≠ g) (hgr : g ≠ r) (hgd : ¬ dk g)
    (hn2 : n2 % 4 = 0) (hdt : dt.drop n2 = (st ++ tok nop 9) ++ more) (htot : tot = (st ++ tok nop 9).length) (hst : EncN strs nop root st) (hs1 : sl = strs.length) (hs2 : sl ≤ 100000) (hnop : nop ≤ 3) (hok : root.okk) (hcost : root.costQ ≤ 2000) (htt : tot ≤ 2000000) (hn2l : n2 ≤ dt.length) :
    Calls Try.prog 83 #[.pointer (some ⟨f, 0, none⟩), .iface 142 (.pointer (some ⟨r, 0, none⟩)), .slice (some ⟨g, 0, none⟩) sl sl] w (StructPost w f r dk n0 n1 n2 n3 n4 n5 n6 n7 n8 tot s root) := by
  have hm := m142s
  have hnl := n142s
  have hmf : ∀ (fn : Fn) (first cap : Array Value) (w : World), (Instr.makeFunc fn first cap).run Try.prog w = .ok (.func fn first cap) w := fun _ _ _ _ => rfl
  have hsm := h.sm
  have hfl := hf.lt
  have hgl := hg.lt
  have hrl := h.cs.lt
  have hdl := h.dl
  obtain ⟨body, hbody⟩ : ∃ body, body = st ++ tok nop 9 := ⟨_, rfl⟩
  rw [← hbody] at hdt htot
  have hfit : n2 + tot ≤ dt.length := by
    have := congrArg List.length hdt
    rw [List.length_drop, List.length_append] at this
    omega
  have c2 : w.cell? ⟨f, 2, none⟩ = some (.int .u32 (n2 : Nat)) := (hf.cell 2).trans rfl
  have hrem : ((n2 : Int)).tmod 4 = 0 := by rw [Int.tmod_eq_emod_of_nonneg (by omega)]; omega
  have hrem2 : (n2 : Int) % 4 = 0 := by omega
  have hwro : IntKind.i64.wrap (n2 : Int) = (n2 : Int) := by simp only [IntKind.wrap, IntKind.bits, IntKind.signed]; simp; omega
  have hwrt : IntKind.i64.wrap (tot : Int) = (tot : Int) := by simp only [IntKind.wrap, IntKind.bits, IntKind.signed]; simp; omega
  have Hh := Lib.hid (And.intro h (And.intro hf (And.intro hg (And.intro hdt (And.intro hbody (And.intro htot (And.intro hst (And.intro hs1 hdl))))))))
  clear h hf hg hdt hbody htot hst hs1 hdl
  go_enter Try.func83, Try.ntmps83
  go_wp2_with fail
  refine wp_region_plan (fun w' => w'.cell? ⟨f, 2, none⟩ = some (.int .u32 (n2 : Nat))) 15 (.quiet 0 (.quiet 1 (.quiet 2 (.quiet 3 (.quiet 4 (.quiet 5 (.quiet 6 (.quiet 7 (.quiet 8 (.quiet 9 (.eff 10 (.quiet 11 (.quiet 12 (.quiet 13 (.quiet 14 (.eff 15 .done)))))))))))))))) (by kernel_rfl) (by kernel_rfl) c2 ?_
  simp only [planO, opAt, List.getElem?_toArray, List.getElem?_cons_zero, List.getElem?_cons_succ, Option.getD_some, Nat.reduceBEq]
  iterate 10
    refine' SeqT.quiet (by rfl) ?_ ?_
    rotate_left
    · rintro w' hS1
      go_simp
      try with_reducible rfl
    try simp only [Act.put, List.setIfInBounds_toArray, List.set_cons_zero, List.set_cons_succ]
  refine SeqT.eff ?_ ?_
  · rfl
  intro K hK
  go_simp
  refine (seek_walk w.drew r dk A c dt i n2 (Hh.out.1.keep rfl (fun k hk => rfl))).mono ?_
  rintro e w1 ⟨rfl, hb1, hf1⟩
  have x2 : w1.cell? ⟨f, 2, none⟩ = some (.int .u32 (n2 : Nat)) := (hf1.cell (by exact hfl) hfr).trans c2
  refine hK.out _ _ (.inr x2) ?_
  clear hK K
  try simp only [Act.put, List.setIfInBounds_toArray, List.set_cons_zero, List.set_cons_succ]
  iterate 4
    refine' SeqT.quiet (by rfl) ?_ ?_
    rotate_left
    · rintro w' hS1
      go_simp
      try with_reducible rfl
    try simp only [Act.put, List.setIfInBounds_toArray, List.set_cons_zero, List.set_cons_succ]
  refine SeqT.last ?_ ?_
  · rfl
  intro K hK
  go_simp
  refine hK.out _ _ ?_
  clear hK K
  have hq1 := Hh.out.2.1.drew.fr2 hf1 hfr
  have hg1 := Hh.out.2.2.1.drew.fr2 hf1 hgr
  have k9 : w1.cell? ⟨f, 9, none⟩ = some (.int .u32 (tot : Nat)) := (hq1.cell 9).trans rfl
  have hz1 : w.heap.size ≤ w1.heap.size := hf1.size
  obtain ⟨w2, hw2⟩ : ∃ w2, w2 = w1.alloc (.cells #[.iface 142 (.pointer (some ⟨r, 0, none⟩)), .int .i64 tot] 184) := ⟨_, rfl⟩
  have hz2 : w2.heap.size = w1.heap.size + 1 := by rw [hw2]; simp
  have hB2 : Below w1.heap.size w1 w2 := by rw [hw2]; exact (Below.refl _ _).alloc (Nat.le_refl _) _
  have hlr2 : Cs w2 w1.heap.size #[.iface 142 (.pointer (some ⟨r, 0, none⟩)), .int .i64 tot] := by rw [hw2]; exact Cs.new w1 _ _
  have HN := Lib.hid (newReader_walk w2 w1.heap.size)
  have HW := Lib.hid hw2
  have HG := Lib.hid (And.intro hq1 (And.intro hg1 (And.intro hf1 (And.intro hb1 (And.intro hB2 (And.intro hlr2 (And.intro hz1 hz2)))))))
  clear hq1 hg1 hf1 hb1 hB2 hlr2 x2 c2 hz2 hw2
  go_wp2_with fail
  rw [← HW.out]
  refine HN.out.mono ?_
  rintro e w3 ⟨rfl, hb3, hbb3, hB3, hz3⟩
  have HG3 := Lib.hid (And.intro hb3 (And.intro hbb3 (And.intro hB3 hz3)))
  clear hb3 hbb3 hB3 hz3
  go_wp2_with fail
  obtain ⟨hb3, hbb3, hB3, hz3⟩ := HG3.out
  obtain ⟨hq1, hg1, hf1, hb1, hB2, hlr2, -, hz2⟩ := HG.out
  obtain ⟨h, hf, hg, hdt, hbody, htot, hst, hs1, hdl⟩ := Hh.out
  obtain ⟨w4, hw4⟩ : ∃ w4, w4 = w3.alloc (.cells #[.iface 178 (.pointer (some ⟨w2.heap.size, 0, none⟩)), .int .i64 0] 186) := ⟨_, rfl⟩
  obtain ⟨w5, hw5⟩ : ∃ w5, w5 = w4.alloc (.cells #[] 87) := ⟨_, rfl⟩
  rw [← hw4, ← hw5]
  have hz4 : w4.heap.size = w3.heap.size + 1 := by rw [hw4]; simp
  have hz5 : w5.heap.size = w4.heap.size + 1 := by rw [hw5]; simp
  have hb13 : Below w1.heap.size w1 w3 := hB2.trans (hB3.mono (by omega))
  have hb14 : Below w1.heap.size w1 w4 := by rw [hw4]; exact hb13.alloc (by omega) _
  have hb15 : Below w1.heap.size w1 w5 := by rw [hw5]; exact hb14.alloc (by omega) _
  have hrl1 := hb1.cs.lt
  have hfl1 := hq1.lt
  have hgl1 := hg1.lt
  have ha5 : Cs w5 w3.heap.size #[.iface 178 (.pointer (some ⟨w2.heap.size, 0, none⟩)), .int .i64 ((tot - body.length : Nat) : Int)] := by
    rw [htot, Nat.sub_self, hw5, hw4]
    exact (Cs.new w3 186 _).alloc _
  have hb5 := (hb3.alloc (.cells #[.iface 178 (.pointer (some ⟨w2.heap.size, 0, none⟩)), .int .i64 0] 186)).alloc (.cells #[] 87)
  have hbb5 := (hbb3.alloc (.cells #[.iface 178 (.pointer (some ⟨w2.heap.size, 0, none⟩)), .int .i64 0] 186)).alloc (.cells #[] 87)
  have hlr5 := (((hlr2.below hB3 (by omega)).alloc (.cells #[.iface 178 (.pointer (some ⟨w2.heap.size, 0, none⟩)), .int .i64 0] 186)).alloc (.cells #[] 87))
  rw [← hw4, ← hw5] at hb5 hbb5 hlr5
  have hbr5 : BR w5 r dk A c dt n2 := hb1.keep (hb15.block r hrl1) (fun k hk => hb15.block k (hb1.dl k hk))
  have hst5 : ASt w3.heap.size w2.heap.size (w2.heap.size + 1) w1.heap.size r dk A c dt tot w5 body := by
    refine ⟨ha5, ⟨n2, tot, 0, 0, List.replicate 4096 (Value.int .u8 0), [], ⟨⟨-1, -1, hb5⟩, hbb5, by simp, Nat.le_refl _, by omega, by simp, ⟨hlr5, hbr5, by omega, fun hk => by have := hb1.dl _ hk; omega, hfit⟩, by omega, by omega, by omega, fun hk => by have := hb1.dl _ hk; omega, by omega, by omega, fun hk => by have := hb1.dl _ hk; omega⟩, ?_⟩, by omega, ?_, by omega⟩
    · rw [List.nil_append, hdt, htot, List.take_left]
    · rintro (hk | hk | hk | hk | hk)
      · omega
      · omega
      · omega
      · omega
      · have := hb1.dl _ hk; omega
  have hAX : ∀ k, AX w3.heap.size w2.heap.size (w2.heap.size + 1) w1.heap.size r dk k → w1.heap.size ≤ k ∧ k < w4.heap.size ∨ k = r ∨ dk k := by
    rintro k (hk | hk | hk | hk | hk | hk)
    · exact .inl ⟨by omega, by omega⟩
    · exact .inl ⟨by omega, by omega⟩
    · exact .inl ⟨by omega, by omega⟩
    · exact .inl ⟨by omega, by omega⟩
    · exact .inr (.inl hk)
    · exact .inr (.inr hk)
  have hnX : ∀ k, k < w1.heap.size → k ≠ r → ¬ dk k → ¬ AX w3.heap.size w2.heap.size (w2.heap.size + 1) w1.heap.size r dk k := fun k h1 h2 h3 hX => by
    rcases hAX k hX with h | h | h
    · omega
    · exact h2 h
    · exact h3 h
  have E : Env w3.heap.size w2.heap.size (w2.heap.size + 1) w1.heap.size r dk tot f g sl strs nop root w4 :=
    ⟨hgf, hnX f hfl1 hfr hfd, hnX g hgl1 hgr hgd, by omega, hg1.keep (hb14.block g hgl1), fun k hk => by
      rcases hAX k hk with h | h | h
      · omega
      · omega
      · have := hb1.dl k h; omega, hs1, hs2, hnop, hok, hcost, htt⟩
  have hcol : Loo w4.heap.size w5 (fun k => if k = w4.heap.size then 3 else 1) (.slice (some ⟨w4.heap.size, 0, none⟩) 0 0) [] :=
    ⟨fun k hk => if_neg (by omega), fun k hk => if_neg (by omega), ⟨by rw [hw5]; exact World.ownsRow_made w4 #[] 0 (Nat.zero_le _) (by simp [maxLen]) (by simp), fun g hg => by
      injection hg with hg
      exact if_pos hg.symm⟩, trivial⟩
  refine loop83 (A := A) (c := c) (dt := dt) (n0 := n0) (n1 := n1) (n2 := n2) (n3 := n3) (n4 := n4) (n5 := n5) (n6 := n6) (n7 := n7) (n8 := n8) (s := s) E ?_ ?_
  · rintro t w' h6 ⟨lt, he, hcs, hpn, hF⟩
    have hpost : StructPost w f r dk n0 n1 n2 n3 n4 n5 n6 n7 n8 tot s root (.returned .nilIface) w' :=
      ⟨rfl, lt, he, hcs, hpn.mono (Same.refl _ _) (fun k hk => ⟨by have := hk.1; omega, hk.2⟩), ((((Fr.refl w.heap.size (fun k => k = f ∨ k = r ∨ dk k) w).drew).trans (hf1.mono (Nat.le_refl _) (fun _ _ h => .inr (.inl h)))).trans ((Fr.of_below hb14).mono hz1 (fun _ _ h => h))).trans (hF.mono (by omega) (fun k hk hX => hX.elim .inl (fun hX => by
        rcases hAX k hX with h | h | h
        · omega
        · exact .inr (.inl h)
        · exact .inr (.inr h))))⟩
    exact ⟨rfl, .nilIface, res83 h6, hpost⟩
  · refine ⟨rfl, rfl, rfl, rfl, rfl, rfl, .slice (some ⟨w3.heap.size + 1, 0, none⟩) 0 0, body, [], rfl, (fun k => if k = w4.heap.size then 3 else 1), 0, body, .pointer none, by simp [nops], Nat.zero_le _, by rw [htot, Nat.sub_self], hst5, ?_, ?_, ?_, ?_⟩
    · rw [← hz4]; exact hcol
    · rw [hw5]; exact (Fr.refl _ _ w4).alloc (Nat.le_refl _) _
    · exact hq1.keep (hb15.block f hfl1)
    · rw [hbody]; exact Pha.start hst
end Go.Proofs.Ytlbhadggfipckaa

set_option linter.unusedVariables false
set_option linter.unusedSimpArgs false
namespace Go.Proofs.Ytlbhadggfipckaa
open Go.RowKit

/-- The tree that was read, at block f. -/
def FdtAt (w0 w : World) (f bt : Nat) (rs : List (Nat × Nat)) (root : Nd) : Prop :=
  ∃ n0 n1 n2 n3 n4 n8 n9 Ar cr, ∃ lt : LT, Cs w f (fdtC n0 n1 n2 n3 n4 17 16 bt n8 n9 (.slice Ar rs.length cr) (ptr lt.b)) ∧ w.ownsRow w0.heap.size 98 2 (.slice Ar rs.length cr) rs.length ((rs.map fun x => roomC (castR x)).flatMap duo) ∧ lt.erase = root ∧ PN w (Rng w0 w) lt

structure GoodB (dt : List UInt8) (bt : Nat) (rs : List (Nat × Nat)) (root : Nd) : Prop where
  ex : ∃ gap nop st strs, dt = beN [3490578157, 40 + gap + 16 * (rs.length + 1) + (st ++ tok nop 9).length + strs.length, 40 + gap + 16 * (rs.length + 1), 40 + gap + 16 * (rs.length + 1) + (st ++ tok nop 9).length, 40 + gap, 17, 16, bt, strs.length, (st ++ tok nop 9).length] ++ (zeros gap ++ (bytesR (rs ++ [(0, 0)]) ++ ((st ++ tok nop 9) ++ strs))) ∧
    gap % 8 = 0 ∧ gap ≤ 8 ∧ nop ≤ 3 ∧ EncN strs nop root st ∧ strs ≠ [] ∧ strs.length ≤ 100000 ∧ (st ++ tok nop 9).length ≤ 2000000
  rb : ∀ x ∈ rs, x.1 < 18446744073709551616 ∧ x.2 < 18446744073709551616 ∧ x.2 ≠ 0
  rl : rs.length ≤ 5
  bt4 : bt < 4294967296
  ok : root.okk
  cost : root.costQ ≤ 2000

def FdtPost (w : World) (bt : Nat) (rs : List (Nat × Nat)) (root : Nd) (X : Nat → Prop) (e : Ending) (w' : World) : Prop :=
  ∃ f, w.heap.size ≤ f ∧ e = .returned (.tuple #[.pointer (some ⟨f, 0, none⟩), .nilIface]) ∧ FdtAt w w' f bt rs root ∧ Fr w.heap.size X w w'

set_option maxRecDepth 20000 in
set_option maxHeartbeats 2000000 in
theorem readFDT_ok (w : World) (r : Nat) (dk : Nat → Prop) (A : Option Addr) (c : Nat) (dt : List UInt8) (i : Nat) (h : BR w r dk A c dt i) (bt : Nat) (rs : List (Nat × Nat)) (root : Nd) (hgood : GoodB dt bt rs root) :
    Calls Try.prog 66 #[.iface 142 (.pointer (some ⟨r, 0, none⟩))] w (FdtPost w bt rs root (fun k => k = r ∨ dk k)) := by
  obtain ⟨⟨gap, nop, st, strs, hdt, hg8, hgl, hnop, henc, hs0, hsl, hbl⟩, hrb, hrl5, hbt4, hok, hcost⟩ := hgood
  obtain ⟨body, hbody⟩ : ∃ body, body = st ++ tok nop 9 := ⟨_, rfl⟩
  rw [← hbody] at hdt hbl
  obtain ⟨n2, hn2⟩ : ∃ n2, n2 = 40 + gap + 16 * (rs.length + 1) := ⟨_, rfl⟩
  obtain ⟨n3, hn3⟩ : ∃ n3, n3 = n2 + body.length := ⟨_, rfl⟩
  obtain ⟨n1, hn1⟩ : ∃ n1, n1 = n3 + strs.length := ⟨_, rfl⟩
  obtain ⟨ro, hro⟩ : ∃ ro, ro = 40 + gap := ⟨_, rfl⟩
  rw [← hn2, ← hn3, ← hn1, ← hro] at hdt
  have hbR : (bytesR (rs ++ [(0, 0)])).length = 16 * (rs.length + 1) := by rw [bytesR_len]; simp
  have hdl : dt.length = n1 := by
    rw [hdt]
    simp only [List.length_append, beN_len, hbR, zeros_len, List.length_cons, List.length_nil]
    omega
  have hd1 : dt.drop ro = bytesR (rs ++ [(0, 0)]) ++ (body ++ strs) := by
    rw [hdt, ← List.append_assoc]
    exact List.drop_left' (by simp only [List.length_append, beN_len, zeros_len, List.length_cons, List.length_nil]; omega)
  have hd2 : dt.drop n2 = body ++ strs := by
    rw [hdt, ← List.append_assoc, ← List.append_assoc]
    exact List.drop_left' (by simp only [List.length_append, beN_len, hbR, zeros_len, List.length_cons, List.length_nil]; omega)
  have hd3 : dt.drop n3 = strs := by
    rw [hdt, ← List.append_assoc, ← List.append_assoc, ← List.append_assoc]
    exact List.drop_left' (by simp only [List.length_append, beN_len, hbR, zeros_len, List.length_cons, List.length_nil]; omega)
  have hrlt := h.cs.lt
  have hdlt := h.dl
  obtain ⟨W, hW⟩ : ∃ W, W = w.alloc (.cells #[.int .u32 0, .int .u32 0, .int .u32 0, .int .u32 0, .int .u32 0, .int .u32 0, .int .u32 0, .int .u32 0, .int .u32 0, .int .u32 0, .slice none 0 0, .pointer none] 93) := ⟨_, rfl⟩
  have hWb : Below w.heap.size w W := by rw [hW]; exact (Below.refl _ _).alloc (Nat.le_refl _) _
  have hWc : Cs W w.heap.size (fdtC 0 0 0 0 0 0 0 0 0 0 (.slice none 0 0) (.pointer none)) := by rw [hW]; exact Cs.new _ _ _
  have hWr : BR W r dk A c dt i := h.keep (hWb.block _ hrlt) (fun k hk => hWb.block k (hdlt k hk))
  have hWs : W.heap.size = w.heap.size + 1 := by rw [hW]; simp
  obtain ⟨f, hf⟩ : ∃ f, f = w.heap.size := ⟨_, rfl⟩
  have hfr : f ≠ r := by omega
  have hfd : ¬ dk f := fun e => by have := hdlt f e; omega
  rw [← hf] at hWc
  have HB := Lib.hid (And.intro hWb (And.intro hWs (And.intro hf (And.intro hrlt hdlt))))
  have HW := Lib.hid hW
  have Hf := Lib.hid hf
  have HH := Lib.hid (rhdr_walk W f r dk A c dt i hWr _ _ hWc hfr hfd 3490578157 n1 n2 n3 ro 17 16 bt strs.length body.length _ (by intro m hm; simp at hm; omega) (.inr hdt) (fun _ => ⟨rfl, by omega⟩))
  have HD := Lib.hid (And.intro hd1 (And.intro hd2 (And.intro hd3 (And.intro hdl (And.intro hbody (And.intro henc (And.intro hs0 (And.intro hn2 (And.intro hn3 (And.intro hn1 hro))))))))))
  have HO := Lib.hid (And.intro hrb (And.intro hok hcost))
  clear hWr hWc hWb hWs hW hf h hdt hd1 hd2 hd3 hdl hbody henc hs0 hn2 hn3 hn1 hro hrlt hdlt hrb hok hcost hbR
  go_enter Try.func66, Try.ntmps66
  go_wp2_with fail
  rw [← HW.out, ← Hf.out]
  refine HH.out.mono ?_
  rintro e w1 ⟨hf1, hor⟩
  obtain ⟨hd1, hd2, hd3, hdl, hbody, henc, hs0, hn2, hn3, hn1, hro⟩ := HD.out
  obtain ⟨hWb, hWs, hf, hrlt, hdlt⟩ := HB.out
  rcases hor with ⟨hno, -⟩ | ⟨-, -, rfl, hc1, i1, hb1⟩
  · rcases hno with h | h
    · omega
    · exact absurd rfl h
  have HR := Lib.hid (reserve_walk w1 f r dk A c dt i1 hb1 3490578157 n1 n2 n3 ro 17 16 bt strs.length body.length _ _ hc1 hfr hfd ⟨by omega, by omega, by omega⟩ rs (body ++ strs) [] (by rw [List.append_nil]; exact hd1) HO.out.1 (by omega))
  have HF1 := Lib.hid hf1
  clear hf1 hc1 hb1 hd1 hd2 hd3 hdl hbody henc hs0 hn2 hn3 hn1 hro hWb hWs hf hrlt hdlt
  go_wp2_with fail
  refine HR.out.mono ?_
  rintro e w2 ⟨hf2, hor⟩
  obtain ⟨hd1, hd2, hd3, hdl, hbody, henc, hs0, hn2, hn3, hn1, hro⟩ := HD.out
  rcases hor with ⟨hno, -⟩ | ⟨-, rfl, Ar, cr, i2, hc2, hown2, hb2⟩
  · omega
  have HL := Lib.hid (layout_walk w2 f 3490578157 n1 n2 n3 ro 17 16 bt strs.length body.length Ar rs.length cr _ hc2 (by omega) (by omega) (by omega))
  have H2 := Lib.hid (And.intro hf2 (And.intro hc2 (And.intro hown2 hb2)))
  clear hf2 hc2 hown2 hb2 hd1 hd2 hd3 hdl hbody henc hs0 hn2 hn3 hn1 hro
  go_wp2_with fail
  refine HL.out.mono ?_
  rintro e w3 ⟨rfl, m3, hw3⟩
  obtain ⟨hd1, hd2, hd3, hdl, hbody, henc, hs0, hn2, hn3, hn1, hro⟩ := HD.out
  obtain ⟨hf2, hc2, hown2, hb2⟩ := H2.out
  have hc3 : Cs w3 f (fdtC 3490578157 n1 n2 n3 ro 17 16 bt strs.length body.length (.slice Ar rs.length cr) (.pointer none)) := by rw [hw3]; exact hc2.drewN m3
  have hb3 : BR w3 r dk A c dt i2 := by rw [hw3]; exact hb2.keep rfl (fun _ _ => rfl)
  have HS := Lib.hid (strings_walk w3 f r dk A c dt i2 hb3 3490578157 n1 n2 n3 ro 17 16 bt body.length _ _ strs hc3 hfr hfd hd3 hsl hs0)
  have H3 := Lib.hid (And.intro hw3 hc3)
  clear hf2 hc2 hown2 hb2 hd1 hd2 hd3 hdl hbody henc hs0 hn2 hn3 hn1 hro hc3 hb3 hw3
  go_wp2_with fail
  refine HS.out.mono ?_
  rintro e w4 ⟨g, hg, rfl, hgc, ⟨i4, hb4⟩, hf4⟩
  obtain ⟨hd1, hd2, hd3, hdl, hbody, henc, hs0, hn2, hn3, hn1, hro⟩ := HD.out
  obtain ⟨hWb, hWs, hf, hrlt, hdlt⟩ := HB.out
  obtain ⟨hw3, hc3⟩ := H3.out
  have hc4 := hc3.fr2 hf4 hfr
  have hz1 := HF1.out.size
  have hz2 := H2.out.1.size
  have hz3 : w3.heap.size = w2.heap.size := by rw [hw3]; rfl
  have HT := Lib.hid (struct_walk w4 f r g strs.length dk A c dt i4 hb4 3490578157 n1 n2 n3 ro 17 16 bt strs.length body.length _ strs st strs nop root hc4 hfr hfd hgc (by omega) (by omega) (fun e => by have := hdlt _ e; omega) (by omega) (by rw [← hbody]; exact hd2) (by rw [hbody]) henc rfl hsl hnop HO.out.2.1 HO.out.2.2 hbl (by omega))
  have H4 := Lib.hid (And.intro hf4 hb4)
  obtain ⟨sl, hslq⟩ : ∃ sl, sl = strs.length := ⟨_, rfl⟩
  clear hd1 hd2 hd3 hdl hbody henc hs0 hn2 hn3 hn1 hro hWb hWs hf hrlt hdlt hw3 hc3 hc4 hz1 hz2 hz3 hgc hb4 hf4
  go_wp2_with fail
  refine HT.out.mono ?_
  rintro e w5 ⟨rfl, lt, he, hc5, hpn, hf5⟩
  obtain ⟨hWb, hWs, hf, hrlt, hdlt⟩ := HB.out
  obtain ⟨hw3, hc3⟩ := H3.out
  have hz1 := HF1.out.size
  have hz2 := H2.out.1.size
  have hz3 : w3.heap.size = w2.heap.size := by rw [hw3]; rfl
  have hz4 := H4.out.1.size
  have hr3 : w3.ownsRow w1.heap.size 98 2 (.slice Ar rs.length cr) rs.length ((rs.map fun x => roomC (castR x)).flatMap duo) := by rw [hw3]; exact own_keep H2.out.2.2.1 fun g hg => rfl
  have hr4 := own_keep hr3 fun g hg => H4.out.1.block g (hr3.lt g hg).2 (by have := (hr3.lt g hg).1; omega)
  have hr5 := own_keep hr4 fun g hg => hf5.block g (hr4.lt g hg).2 (fun h => by
    have h1 := (hr4.lt g hg).1
    rcases h with h | h | h
    · omega
    · omega
    · have := hdlt g h; omega)
  have hx : ∀ k, k < w.heap.size → (k = f ∨ k = r ∨ dk k) → (k = r ∨ dk k) := fun k hk h => h.resolve_left (by omega)
  have HFIN := Lib.hid (show FdtPost w bt rs root (fun k => k = r ∨ dk k) (.returned (.tuple #[.pointer (some ⟨f, 0, none⟩), .nilIface])) w5 from
    ⟨f, by omega, rfl, ⟨_, _, _, _, _, _, _, Ar, cr, lt, hc5, own_mono hr5 (by omega), he, hpn.mono (Same.refl _ _) (fun k hk => ⟨by have := hk.1; omega, hk.2⟩)⟩,
     (((Fr.of_below hWb).trans (HF1.out.mono (by omega) hx)).trans (H2.out.1.mono (by omega) hx)).trans ((show Fr w.heap.size (fun k => k = r ∨ dk k) w2 w4 from (show Fr w.heap.size (fun k => k = r ∨ dk k) w2 w3 by rw [hw3]; exact (Fr.refl _ _ w2).drewN m3).trans (H4.out.1.mono (by omega) (fun k hk h => .inl h))).trans (hf5.mono (by omega) hx))⟩)
  clear hWb hWs hf hrlt hdlt hw3 hc3 hz1 hz2 hz3 hz4 hr3 hr4 hr5 hx he hc5 hpn hf5
  go_wp2_with fail
  go_ret2
  exact HFIN.out

theorem zread_ok (w : World) (A : Option Addr) (c : Nat) (dt : List UInt8) (base : Nat) (hown : w.ownsRow base 5 1 (.slice A dt.length c) dt.length (dt.map bv)) (hl : dt.length ≤ 100000000) (bt : Nat) (rs : List (Nat × Nat)) (root : Nd) (hgood : GoodB dt bt rs root) :
    Calls Try.prog 51 #[.slice A dt.length c] w (FdtPost w bt rs root (fun k => base ≤ k)) := by
  obtain ⟨o1, o2, o3⟩ := own_form hown
  obtain ⟨W, hW⟩ : ∃ W, W = w.alloc (.cells #[.slice A dt.length c, .int .i64 0] 144) := ⟨_, rfl⟩
  have hWb : Below w.heap.size w W := by rw [hW]; exact (Below.refl _ _).alloc (Nat.le_refl _) _
  have hWc : Cs W w.heap.size #[.slice A dt.length c, .int .i64 0] := by rw [hW]; exact Cs.new _ _ _
  have hWs : W.heap.size = w.heap.size + 1 := by rw [hW]; simp
  have hBR : BR W w.heap.size (fun k => (Value.slice A dt.length c).ownBlock = some k) A c dt 0 := by
    refine ⟨hWc, ?_, o1, o2, fun e => by have := (hown.lt _ e).2; omega, fun k hk => by have := (hown.lt _ hk).2; omega, hl⟩
    rcases own_rd hown with h | ⟨b, o, rfl, h⟩
    · exact .inl h
    · refine .inr ⟨b, o, rfl, rfl, fun j u hu => ?_⟩
      rw [World.cell?_of_block (a := ⟨b, o + j, none⟩) (hWb.block b (hown.lt b rfl).2)]
      exact h j u hu
  have H := Lib.hid (readFDT_ok W w.heap.size _ A c dt 0 hBR bt rs root hgood)
  have HW := Lib.hid hW
  have HB := Lib.hid (And.intro hWb (And.intro hWs hown))
  clear hW hWb hWc hWs hBR hown hgood
  go_enter Try.func51, Try.ntmps51
  go_wp2_with fail
  rw [← HW.out]
  refine H.out.mono ?_
  rintro e w1 ⟨f, hfl, rfl, ⟨n0, n1, n2, n3, n4, n8, n9, Ar, cr, lt, a1, a2, a3, a4⟩, hf⟩
  have HFIN := Lib.hid (show FdtPost w bt rs root (fun k => base ≤ k) (.returned (.tuple #[.pointer (some ⟨f, 0, none⟩), .nilIface])) w1 from
    ⟨f, by have := HB.out.2.1; omega, rfl, ⟨n0, n1, n2, n3, n4, n8, n9, Ar, cr, lt, a1, own_mono a2 (by have := HB.out.2.1; omega), a3, a4.mono (Same.refl _ _) (fun k hk => ⟨by have := hk.1; have := HB.out.2.1; omega, hk.2⟩)⟩, (Fr.of_below HB.out.1).trans (hf.mono (by have := HB.out.2.1; omega) (fun k hk h => h.elim (fun e => by omega) (fun e => (HB.out.2.2.lt k e).1)))⟩)
  clear hf a1 a2 a3 a4 hfl
  go_wp2_with fail
  go_ret2
  exact HFIN.out
end Go.Proofs.Ytlbhadggfipckaa
