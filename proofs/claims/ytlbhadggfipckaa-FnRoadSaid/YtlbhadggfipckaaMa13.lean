/-
  FDT.Write.
-/
import Derived.Test.YtlbhadggfipckaaMa12
import Derived.Carry
set_option linter.unusedVariables false
set_option linter.unusedSimpArgs false
namespace Go.Proofs.Ytlbhadggfipckaa
open Go.RowKit

/-- How many properties. -/
def nP : List (ByteArray × List Pr) → Nat
  | [] => 0
  | n :: r => n.2.length + nP r

theorem nP_append : ∀ (a b : List (ByteArray × List Pr)), nP (a ++ b) = nP a + nP b
  | [], b => by simp [nP]
  | n :: a, b => by simp [nP, nP_append a b]; omega

/-- The first walk's state. -/
def J1 (w0 : World) (mv sv m lo : Nat) (vis : List (ByteArray × List Pr)) (w : World) : Prop :=
  ∃ S strs, SB w mv sv m lo S strs ∧ (∀ n ∈ vis, ∀ p ∈ n.2, (offOf p.name S).isSome = true) ∧ strs.length ≤ 32 * nP vis ∧ Fr lo (fun x => x = mv ∨ x = sv ∨ x = m) w0 w

theorem J1.step (w0 : World) (mv sv m lo : Nat) (ok : Nat → Prop) (hok : ∀ k, ok k → k < lo ∧ k ≠ mv ∧ k ≠ sv ∧ k ≠ m) (all : List (ByteArray × List Pr)) (hall : ∀ n ∈ all, ∀ p ∈ n.2, p.name.size ≤ 31) (hn : 32 * nP all ≤ 100000)
    (w : World) (pre post : List (ByteArray × List Pr)) (b : Nat) (name : ByteArray) (ps : List Pr) (ks : List LT) (he : all = pre ++ (name, ps) :: post) (hp : PN w ok (.mk b name ps ks)) (hj : J1 w0 mv sv m lo pre w) :
    Calls Try.prog 68 #[.pointer (some ⟨b, 0, none⟩), .pointer (some ⟨mv, 0, none⟩), .pointer (some ⟨sv, 0, none⟩)] w (WalkPost ok (J1 w0 mv sv m lo) (pre ++ [(name, ps)]) w) := by
  obtain ⟨S, strs, hsb, hm, hl, hf⟩ := hj
  have e1 : nP all = nP pre + (ps.length + nP post) := by rw [he, nP_append]; rfl
  refine (w1_walk w ok mv sv m lo S strs _ hok hp hsb b name ps ks rfl (hall (name, ps) (by simp [he])) (by omega)).mono ?_
  rintro e w' ⟨rfl, S', strs', hsb', hmore, hin, hlen, hF⟩
  refine ⟨rfl, ⟨S', strs', hsb', fun n hn p hp => ?_, ?_, hf.trans hF⟩, hF.same fun k hk => ⟨(hok k hk).1, by have := hok k hk; omega⟩⟩
  · rcases List.mem_append.1 hn with h | h
    · obtain ⟨off, ho⟩ := Option.isSome_iff_exists.1 (hm n h p hp)
      rw [hmore.2 _ _ ho]
      rfl
    · rw [List.mem_singleton.1 h] at hp
      exact hin p (by rw [List.take_length]; exact hp)
  · rw [nP_append]
    simp only [nP]
    omega

/-- The second walk's state. -/
def J2 (w0 : World) (fv f : Nat) (h : Array Value) (vis : List (ByteArray × List Pr)) (w : World) : Prop := SzInv w0 fv f h (4 + szNs vis) w

theorem J2.step (w0 : World) (fv f : Nat) (h : Array Value) (hh : h.size = 12) (hff : fv ≠ f) (ok : Nat → Prop) (hok : ∀ k, ok k → k < w0.heap.size ∧ k ≠ f) (all : List (ByteArray × List Pr)) (hall : ∀ n ∈ all, n.1.size ≤ 100) (hn : 4 + szNs all ≤ 1000000)
    (w : World) (pre post : List (ByteArray × List Pr)) (b : Nat) (name : ByteArray) (ps : List Pr) (ks : List LT) (he : all = pre ++ (name, ps) :: post) (hp : PN w ok (.mk b name ps ks)) (hj : J2 w0 fv f h pre w) :
    Calls Try.prog 69 #[.pointer (some ⟨b, 0, none⟩), .pointer (some ⟨fv, 0, none⟩)] w (WalkPost ok (J2 w0 fv f h) (pre ++ [(name, ps)]) w) := by
  obtain ⟨h1, h2, hf⟩ := hj
  have hsz := hf.size
  have e1 : szNs all = szNs pre + (8 + al4 (name.size + 1) + szP ps + szNs post) := by rw [he, szNs_append]; rfl
  have e2 : szNs (pre ++ [(name, ps)]) = szNs pre + (8 + al4 (name.size + 1) + szP ps) := by rw [szNs_append]; simp [szNs]
  refine (w2_walk w ok fv f (4 + szNs pre) h hh (fun k hk => ⟨by have := hok k hk; omega, (hok k hk).2⟩) b name ps ks hp (hall (name, ps) (by simp [he])) hff ⟨h1, h2, Fr.refl _ _ _⟩ (by omega)).mono ?_
  rintro e w' ⟨rfl, h1', h2', hF⟩
  have hF' := hF.mono (B' := w0.heap.size) (X' := (· = f)) hsz (fun _ _ h => h)
  refine ⟨rfl, ⟨h1', ?_, hf.trans hF'⟩, hF'.same fun k hk => hok k hk⟩
  rw [e2]
  simpa [Nat.add_assoc] using h2'

/-- The bytes that Write puts. -/
def Fmt (ver lc boot : Int) (rs : List (Int × Int)) (n : Nd) (out : List UInt8) : Prop :=
  ∃ st strs, EncN strs 0 n st ∧ strs.length ≤ 100000 ∧ st.length ≤ 1000000 ∧
    out = [3490578157, ((48 + 16 * (rs.length + 1) + (4 + st.length) + strs.length : Nat) : Int), ((48 + 16 * (rs.length + 1) : Nat) : Int), ((48 + 16 * (rs.length + 1) + (4 + st.length) : Nat) : Int), 48, ver, lc, boot, (strs.length : Int), ((4 + st.length : Nat) : Int)].flatMap be4
      ++ zeros 8 ++ rs.flatMap be16 ++ zeros 16 ++ st ++ be4 9 ++ strs

def FWPost (w : World) (f z : Nat) (ver lc boot : Int) (rs : List (Int × Int)) (lt : LT) (e : Ending) (w' : World) : Prop :=
  ∃ out N, e = .returned (.tuple #[.int .i64 N, .nilIface]) ∧ Fmt ver lc boot rs lt.erase out ∧ Fr w.heap.size (fun k => k = f ∨ k = z) w w' ∧ ∃ A c, Cs w' z #[.slice A out.length c] ∧ w'.ownsRow w.heap.size 5 1 (.slice A out.length c) out.length (out.map bv)

theorem empty_row (w : World) (t : TypeId) (base : Nat) (hb : base ≤ w.heap.size) : (w.alloc (.cells #[] 5)).ownsRow base 5 1 (.slice (some ⟨w.heap.size, 0, none⟩) 0 0) 0 (([] : List UInt8).map bv) :=
  World.ownsRow_made w #[] 0 hb (by simp [maxLen]) (by simp)

theorem SB.keep {w w' : World} {mv sv m lo : Nat} {S : List (ByteArray × Nat)} {strs : List UInt8} (h : SB w mv sv m lo S strs) (hk : ∀ k, lo ≤ k → k < w.heap.size → w'.heap[k]? = w.heap[k]?) (hs : w.heap.size ≤ w'.heap.size) (h1 : lo ≤ mv) (h2 : lo ≤ sv) (h3 : lo ≤ m) : SB w' mv sv m lo S strs := by
  obtain ⟨a1, a2, ⟨A, c, a3, a4, a5⟩, a6, a7, a8, a9, a10, a11⟩ := h
  exact ⟨a1.keep (hk mv h1 a1.lt), a2.keep (hk m h3 a2.lt), ⟨A, c, a3.keep (hk sv h2 a3.lt), own_keep a4 fun g hg => hk g (a4.lt g hg).1 (a4.lt g hg).2, a5⟩, a6, a7, a8, a9, by omega, a11⟩

/-- The state while the header is reckoned. -/
structure FS (w wX : World) (ok : Nat → Prop) (lt : LT) (z fv f mv sv m lo : Nat) (S : List (ByteArray × Nat)) (strs : List UInt8) (arr : Array Value) : Prop where
  cf : Cs wX f arr
  cv : Cs wX fv #[.pointer (some ⟨f, 0, none⟩)]
  sb : SB wX mv sv m lo S strs
  fr : Fr w.heap.size (· = f) w wX
  lf : f < lo ∧ f ≠ fv ∧ lo ≤ mv ∧ lo ≤ sv ∧ lo ≤ m ∧ f ≠ z
  cz : Cs wX z #[.slice none 0 0]
  pn : PN wX ok lt
  oo : ∀ k, ok k → k < w.heap.size ∧ k ≠ f ∧ k ≠ z
  sz : w.heap.size + 5 ≤ wX.heap.size

theorem FS.store {w wX : World} {ok : Nat → Prop} {lt : LT} {z fv f mv sv m lo : Nat} {S : List (ByteArray × Nat)} {strs : List UInt8} {arr : Array Value} (h : FS w wX ok lt z fv f mv sv m lo S strs arr) (i : Nat) (u : Value) : FS w (wX.setCell ⟨f, i, none⟩ u) ok lt z fv f mv sv m lo S strs (arr.setIfInBounds i u) :=
  ⟨h.cf.set_ i u, h.cv.far (Ne.symm h.lf.2.1) u, h.sb.keep (fun k h1 h2 => Below.heap_setCell _ _ _ _ (by have := h.lf; show k ≠ f; omega)) (by simp [World.setCell]) h.lf.2.2.1 h.lf.2.2.2.1 h.lf.2.2.2.2.1, h.fr.setCell (p := ⟨f, i, none⟩) (.inr rfl) u, h.lf, h.cz.far (p := ⟨f, i, none⟩) (Ne.symm h.lf.2.2.2.2.2) u,
    h.pn.mono (fun k hk => Below.heap_setCell _ _ _ _ (h.oo k hk).2.1) (fun _ h => h), h.oo, by have := h.sz; simp [World.setCell]; exact this⟩

theorem FS.drew {w wX : World} {ok : Nat → Prop} {lt : LT} {z fv f mv sv m lo : Nat} {S : List (ByteArray × Nat)} {strs : List UInt8} {arr : Array Value} (h : FS w wX ok lt z fv f mv sv m lo S strs arr) : FS w wX.drew ok lt z fv f mv sv m lo S strs arr :=
  ⟨h.cf.drew, h.cv.drew, h.sb.keep (fun k _ _ => rfl) (Nat.le_refl _) h.lf.2.2.1 h.lf.2.2.2.1 h.lf.2.2.2.2.1, h.fr.drew, h.lf, h.cz.drew, h.pn.mono (w' := wX.drew) (show Same ok wX wX.drew from fun _ _ => rfl) (fun _ h => h), h.oo, h.sz⟩

theorem FS.below {w wX wY : World} {ok : Nat → Prop} {lt : LT} {z fv f mv sv m lo : Nat} {S : List (ByteArray × Nat)} {strs : List UInt8} {arr : Array Value} (h : FS w wX ok lt z fv f mv sv m lo S strs arr) (hb : Below wX.heap.size wX wY) : FS w wY ok lt z fv f mv sv m lo S strs arr :=
  ⟨h.cf.below hb h.cf.lt, h.cv.below hb h.cv.lt, h.sb.keep (fun k _ h2 => hb.block k h2) hb.size h.lf.2.2.1 h.lf.2.2.2.1 h.lf.2.2.2.2.1, h.fr.trans (Fr.of_below (hb.mono (by have := h.sz; omega))), h.lf, h.cz.below hb h.cz.lt,
    h.pn.mono (fun k hk => hb.block k (by have := h.oo k hk; have := h.sz; omega)) (fun _ h => h), h.oo, Nat.le_trans h.sz hb.size⟩

theorem out_none {w : World} {a z k : Nat} (hz : Cs w z #[.slice none 0 0]) (hk : k < w.heap.size) (h1 : k ≠ a) (h2 : k ≠ z) : Out w a z k := ⟨hk, h1, h2, fun ⟨o, n, c, h⟩ => by
  have := (hz.cell 0).symm.trans h
  simp at this⟩

theorem pad_zero {n k : Nat} (h : k % n = 0) : pad n k = [] := by unfold pad; rw [if_pos h]

set_option maxRecDepth 20000 in
set_option maxHeartbeats 8000000 in
theorem fw_walk (w : World) (ok : Nat → Prop) (f z : Nat) (lt : LT) (ver lc boot : Int) (rs : List (Int × Int)) (AE : Option Addr) (cE : Nat) (hok : ∀ k, ok k → k < w.heap.size ∧ k ≠ f ∧ k ≠ z) (hn : PN w ok lt)
    (hf : Cs w f #[.int .u32 3490578157, .int .u32 0, .int .u32 0, .int .u32 0, .int .u32 0, .int .u32 ver, .int .u32 lc, .int .u32 boot, .int .u32 0, .int .u32 0, .slice AE rs.length cE, .pointer (some ⟨lt.b, 0, none⟩)])
    (hz : Cs w z #[.slice none 0 0]) (hfz : f ≠ z) (hr : rs = [] ∨ ∃ b o, AE = some ⟨b, o, none⟩ ∧ ok b ∧ DuoR w b o (rs.map roomC)) (hrb : ∀ r ∈ rs, 0 ≤ r.1 ∧ r.1 ≤ 18446744073709551615 ∧ 0 ≤ r.2 ∧ r.2 ≤ 18446744073709551615) (hrl : rs.length ≤ 5)
    (hver : 0 ≤ ver ∧ ver ≤ 4294967295) (hlc : 0 ≤ lc ∧ lc ≤ 4294967295) (hboot : 0 ≤ boot ∧ boot ≤ 4294967295)
    (hnm : ∀ n ∈ lt.nodes, n.1.size ≤ 31 ∧ ∀ p ∈ n.2, p.name.size ≤ 31) (hnp : nP lt.nodes ≤ 1000) (hns : szNs lt.nodes ≤ 100000) :
    Calls Try.prog 61 #[.pointer (some ⟨f, 0, none⟩), .iface 137 (.pointer (some ⟨z, 0, none⟩))] w (FWPost w f z ver lc boot rs lt) := by
  have hfl := hf.lt
  have hzl := hz.lt
  have f11 : w.cell? ⟨f, 11, none⟩ = some (.pointer (some ⟨lt.b, 0, none⟩)) := (hf.cell 11).trans rfl
  have hmf : ∀ (fn : Fn) (first cap : Array Value) (w : World), (Instr.makeFunc fn first cap).run Try.prog w = .ok (.func fn first cap) w := fun _ _ _ _ => rfl
  have Hok := Lib.hid hok
  have Hn := Lib.hid hn
  have Hf := Lib.hid hf
  have Hz := Lib.hid hz
  have Hr := Lib.hid hr
  have Hrb := Lib.hid hrb
  have Hnm := Lib.hid hnm
  clear hok hn hf hz hr hrb hnm
  go_enter Try.func61, Try.ntmps61
  have hmm := @run_makeMap Try.prog
  have f11a : ∀ o1 o2 o3 o4 o5 : Obj, (((((w.alloc o1).alloc o2).alloc o3).alloc o4).alloc o5).cell? ⟨f, 11, none⟩ = some (.pointer (some ⟨lt.b, 0, none⟩)) := fun o1 o2 o3 o4 o5 =>
    (World.cell?_of_block (a := ⟨f, 11, none⟩) ((((((Below.refl w.heap.size w).alloc (Nat.le_refl _) o1).alloc (by simp) o2).alloc (by simp; omega) o3).alloc (by simp; omega) o4).alloc (by simp; omega) o5 |>.block f hfl)).trans f11
  go_wp2_with fail
  clear f11a
  generalize hW : ((((w.alloc (.cells #[.pointer (some ⟨f, 0, none⟩)] 86)).alloc (.cells #[] 5)).alloc (.cells #[.slice (some ⟨w.heap.size + 1, 0, none⟩) 0 0] 24)).alloc (.map #[] 0)).alloc (.cells #[.map (some (w.heap.size + 1 + 1 + 1))] 150) = W
  have hWs : W.heap.size = w.heap.size + 5 := by rw [← hW]; simp
  have hWb : Below w.heap.size w W := by rw [← hW]; exact (((((Below.refl _ _).alloc (Nat.le_refl _) _).alloc (by simp) _).alloc (by simp; omega) _).alloc (by simp; omega) _).alloc (by simp; omega) _
  have hW0 : Cs W w.heap.size #[.pointer (some ⟨f, 0, none⟩)] := by rw [← hW]; exact ((((Cs.new _ _ _).alloc _).alloc _).alloc _).alloc _
  have hW1 : W.ownsRow (w.heap.size + 1) 5 1 (.slice (some ⟨w.heap.size + 1, 0, none⟩) 0 0) 0 (([] : List UInt8).map bv) := by
    rw [← hW]
    have h := empty_row (w.alloc (.cells #[.pointer (some ⟨f, 0, none⟩)] 86)) 5 (w.heap.size + 1) (by simp)
    rw [show (w.alloc (.cells #[.pointer (some ⟨f, 0, none⟩)] 86)).heap.size = w.heap.size + 1 by simp] at h
    exact ((h.alloc _).alloc _).alloc _
  have hW2 : Cs W (w.heap.size + 1 + 1) #[.slice (some ⟨w.heap.size + 1, 0, none⟩) 0 0] := by rw [← hW]; exact ((Cs.new' _ _ _ _ (by simp)).alloc _).alloc _
  have hW3 : MapOff W (w.heap.size + 1 + 1 + 1) [] := by
    rw [← hW]
    have h := MapOff.new (((w.alloc (.cells #[.pointer (some ⟨f, 0, none⟩)] 86)).alloc (.cells #[] 5)).alloc (.cells #[.slice (some ⟨w.heap.size + 1, 0, none⟩) 0 0] 24))
    rw [show (((w.alloc (.cells #[.pointer (some ⟨f, 0, none⟩)] 86)).alloc (.cells #[] 5)).alloc (.cells #[.slice (some ⟨w.heap.size + 1, 0, none⟩) 0 0] 24)).heap.size = w.heap.size + 1 + 1 + 1 by simp] at h
    exact h.keep (Below.heap_alloc _ _ _ (by simp))
  have hW4 : Cs W (w.heap.size + 1 + 1 + 1 + 1) #[.map (some (w.heap.size + 1 + 1 + 1))] := by rw [← hW]; exact Cs.new' _ _ _ _ (by simp)
  clear hW
  have hsb : SB W (w.heap.size + 1 + 1 + 1 + 1) (w.heap.size + 1 + 1) (w.heap.size + 1 + 1 + 1) (w.heap.size + 1) [] [] :=
    ⟨hW4, hW3, ⟨_, _, hW2, hW1, fun g hg => by have : w.heap.size + 1 = g := Option.some.inj hg; omega⟩, (fun s off h => by cases h), by omega, by omega, by omega, by omega, by simp⟩
  have Hok1 := Lib.hid (fun k hk => by have := Hok.out k hk; omega : ∀ k, ok k → k < w.heap.size + 1 ∧ k ≠ w.heap.size + 1 + 1 + 1 + 1 ∧ k ≠ w.heap.size + 1 + 1 ∧ k ≠ w.heap.size + 1 + 1 + 1)
  refine (walk_gen68 _ _ ok (J1 W (w.heap.size + 1 + 1 + 1 + 1) (w.heap.size + 1 + 1) (w.heap.size + 1 + 1 + 1) (w.heap.size + 1)) lt.nodes (fun vis w' hj k hk => by
      obtain ⟨_, _, hsb, _⟩ := hj
      have := (Hok1.out k hk).1
      have := hsb.2.2.2.2.2.2.2.1
      omega) (J1.step W _ _ _ _ ok Hok1.out lt.nodes (fun n hn => (Hnm.out n hn).2) (by omega)) lt W [] [] (by simp) (Hn.out.mono (Same.of_below hWb (fun k hk => (Hok.out k hk).1)) (fun _ h => h)) ⟨[], [], hsb, by simp, by simp, Fr.refl _ _ _⟩).mono ?_
  rintro e w1 ⟨rfl, ⟨S, strs, hsb1, hall, hlen, hF⟩, hsame⟩
  rw [List.nil_append] at hall hlen
  have hf1 := (Hf.out.below hWb hfl).fr hF (by omega) (by omega)
  have hz1 := (Hz.out.below hWb hzl).fr hF (by omega) (by omega)
  have hv1 := hW0.fr hF (by omega) (by omega)
  have hFS : FS w w1 ok lt z w.heap.size f (w.heap.size + 1 + 1 + 1 + 1) (w.heap.size + 1 + 1) (w.heap.size + 1 + 1 + 1) (w.heap.size + 1) S strs _ :=
    ⟨hf1, hv1, hsb1, (Fr.of_below hWb).trans (hF.mono (by omega) (by omega)), by omega, hz1, (Hn.out.mono (Same.of_below hWb (fun k hk => (Hok.out k hk).1)) (fun _ h => h)).mono hsame (fun _ h => h), fun k hk => by have := Hok.out k hk; omega, by have := hF.size; omega⟩
  obtain ⟨-, -, ⟨A1, c1, hs1, -, -⟩, -⟩ := id hsb1
  have a0 := (hv1.cell 0).trans rfl
  have s0 : w1.cell? ⟨w.heap.size + 1 + 1, 0, none⟩ = some (.slice A1 strs.length c1) := (hs1.cell 0).trans rfl
  have f8 : w1.cell? ⟨f, 8, none⟩ = some (.int .u32 0) := (hf1.cell 8).trans rfl
  have f9 : w1.cell? ⟨f, 9, none⟩ = some (.int .u32 0) := (hf1.cell 9).trans rfl
  have f11 : w1.cell? ⟨f, 11, none⟩ = some (.pointer (some ⟨lt.b, 0, none⟩)) := (hf1.cell 11).trans rfl
  have fz8 := hf1.frozen 8
  have fz9 := hf1.frozen 9
  have hsl : strs.length ≤ 32000 := by omega
  have hw1 : IntKind.u32.wrap (strs.length : Int) = (strs.length : Int) := by simp only [IntKind.wrap, IntKind.bits, IntKind.signed]; simp; omega
  have HFS := Lib.hid hFS
  have Hall := Lib.hid hall
  clear hWb hW0 hW1 hW2 hW3 hW4 hsb hsb1 hF hsame hf1 hz1 hv1 hs1 hFS hall hlen
  go_wp2_with fail
  have hs2 := (HFS.out.store 8 (.int .u32 (strs.length : Int))).store 9 (.int .u32 4)
  simp only [List.setIfInBounds_toArray, List.set_cons_zero, List.set_cons_succ] at hs2
  generalize (w1.setCell ⟨f, 8, none⟩ (.int .u32 (strs.length : Int))).setCell ⟨f, 9, none⟩ (.int .u32 4) = w2 at hs2 ⊢
  clear HFS a0 s0 f8 f9 f11 fz8 fz9 hw1
  have HS2 := Lib.hid hs2
  clear hs2
  refine (walk_gen69 w.heap.size ok (J2 w2 w.heap.size f #[.int .u32 3490578157, .int .u32 0, .int .u32 0, .int .u32 0, .int .u32 0, .int .u32 ver, .int .u32 lc, .int .u32 boot, .int .u32 (strs.length : Int), .int .u32 4, .slice AE rs.length cE, .pointer (some ⟨lt.b, 0, none⟩)]) lt.nodes (fun vis w' hj k hk => by
      have := hj.2.2.size
      have := HS2.out.oo k hk
      have := HS2.out.sz
      omega) (J2.step w2 _ _ _ (by simp) (Ne.symm HS2.out.lf.2.1) ok (fun k hk => by have := HS2.out.oo k hk; have := HS2.out.sz; exact ⟨by omega, by omega⟩) lt.nodes (fun n hn => by have := (Hnm.out n hn).1; omega) (by omega)) lt w2 [] [] (by simp) HS2.out.pn ⟨HS2.out.cv, HS2.out.cf, Fr.refl _ _ _⟩).mono ?_
  rintro e w3 ⟨rfl, ⟨hj1, hj2, hj3⟩, hsame⟩
  simp only [FD, List.setIfInBounds_toArray, List.set_cons_zero, List.set_cons_succ, List.nil_append] at hj2
  have hs3 : FS w w3 ok lt z w.heap.size f (w.heap.size + 1 + 1 + 1 + 1) (w.heap.size + 1 + 1) (w.heap.size + 1 + 1 + 1) (w.heap.size + 1) S strs _ :=
    ⟨hj2, hj1, HS2.out.sb.keep (fun k h1 h2 => hj3.block k h2 (by omega)) hj3.size (by omega) (by omega) (by omega), HS2.out.fr.trans (hj3.mono (by have := HS2.out.sz; omega) (fun _ _ h => h)), HS2.out.lf, HS2.out.cz.fr hj3 HS2.out.cz.lt (Ne.symm hfz), HS2.out.pn.mono hsame (fun _ h => h), HS2.out.oo, by have := HS2.out.sz; have := hj3.size; omega⟩
  have x0 : w3.cell? ⟨w.heap.size, 0, none⟩ = some (.pointer (some ⟨f, 0, none⟩)) := (hs3.cv.cell 0).trans rfl
  have y4 : w3.cell? ⟨f, 4, none⟩ = some (.int .u32 0) := (hs3.cf.cell 4).trans rfl
  have z4 := hs3.cf.frozen 4
  obtain ⟨ss, hss⟩ : ∃ ss, ss = 4 + szNs lt.nodes := ⟨_, rfl⟩
  rw [← hss] at hs3
  have hbs : ss ≤ 100004 := by omega
  have Hss := Lib.hid hss
  clear hss
  have HS3 := Lib.hid hs3
  clear hj1 hj2 hj3 hsame hs3 HS2
  go_wp2_with fail
  refine wp_region_seq (fun w' => w'.cell? ⟨w.heap.size, 0, none⟩ = some (.pointer (some ⟨f, 0, none⟩))) 5
    [(0, true), (1, false), (2, true), (3, true), (4, true), (5, false)] (by kernel_rfl) (by kernel_rfl) x0 ?_
  simp only [opsIn, List.map_cons, List.map_nil, List.getElem?_toArray, List.getElem?_cons_zero, List.getElem?_cons_succ, Option.getD_some, Nat.reduceBEq]
  refine' Seq.quiet (by rfl) ?_ ?_
  rotate_left
  · rintro w' hS1
    go_simp
    try with_reducible rfl
  try simp only [Act.put, List.setIfInBounds_toArray, List.set_cons_zero, List.set_cons_succ]
  refine Seq.eff ?_ ?_
  · rfl
  intro K hK
  go_simp
  refine (align16_walk _).mono ?_
  rintro e w9 ⟨rfl, rfl⟩
  refine hK.out _ _ (.inr x0) ?_
  clear hK K
  try simp only [Act.put, List.setIfInBounds_toArray, List.set_cons_zero, List.set_cons_succ]
  iterate 3
    refine' Seq.quiet (by rfl) ?_ ?_
    rotate_left
    · rintro w' hS1
      go_simp
      try with_reducible rfl
    try simp only [Act.put, List.setIfInBounds_toArray, List.set_cons_zero, List.set_cons_succ]
  refine Seq.last ?_ ?_
  · rfl
  intro K hK
  go_simp
  refine hK.out _ _ ?_
  clear hK K
  have hs4 := (HS3.out.store 4 (.int .u32 48)).drew
  simp only [List.setIfInBounds_toArray, List.set_cons_zero, List.set_cons_succ] at hs4
  generalize (w3.setCell ⟨f, 4, none⟩ (.int .u32 48)).drew = w4 at hs4 ⊢
  have x0 : w4.cell? ⟨w.heap.size, 0, none⟩ = some (.pointer (some ⟨f, 0, none⟩)) := (hs4.cv.cell 0).trans rfl
  have x1 : w4.cell? ⟨f, 4, none⟩ = some (.int .u32 48) := (hs4.cf.cell 4).trans rfl
  have x2 : w4.cell? ⟨f, 10, none⟩ = some (.slice AE rs.length cE) := (hs4.cf.cell 10).trans rfl
  have y2 : w4.cell? ⟨f, 2, none⟩ = some (.int .u32 0) := (hs4.cf.cell 2).trans rfl
  have z2 := hs4.cf.frozen 2
  have HS4 := Lib.hid hs4
  clear hs4 HS3 y4 z4
  have hrs1 : IntKind.i64.wrap ((rs.length : Int) + 1) = (rs.length : Int) + 1 := by simp only [IntKind.wrap, IntKind.bits, IntKind.signed]; simp; omega
  have hrs2 : IntKind.i64.wrap (((rs.length : Int) + 1) * 16) = ((rs.length : Int) + 1) * 16 := by simp only [IntKind.wrap, IntKind.bits, IntKind.signed]; simp; omega
  obtain ⟨o2, ho2⟩ : ∃ o2 : Nat, o2 = 48 + 16 * (rs.length + 1) := ⟨_, rfl⟩
  have hb2 : o2 ≤ 200 := by omega
  have hwo2 : 48 + 16 * ((rs.length : Int) + 1) = (o2 : Int) := by omega
  have hwr2 : IntKind.u32.wrap (o2 : Int) = (o2 : Int) := by simp only [IntKind.wrap, IntKind.bits, IntKind.signed]; simp; omega
  have Ho2 := Lib.hid ho2
  clear ho2
  have HA := Lib.hid (align4_walk w4.drew (16 * (rs.length + 1)) (by omega))
  rw [show ((16 * (rs.length + 1) : Nat) : Int) = ((rs.length : Int) + 1) * 16 by omega, show al4 (16 * (rs.length + 1)) = 16 * (rs.length + 1) by unfold al4; omega] at HA
  go_wp2_with fail
  refine wp_region_seq (fun w' => w'.cell? ⟨w.heap.size, 0, none⟩ = some (.pointer (some ⟨f, 0, none⟩)) ∧ w'.cell? ⟨f, 4, none⟩ = some (.int .u32 48) ∧ w'.cell? ⟨f, 10, none⟩ = some (.slice AE rs.length cE)) 18
    [(0, true), (1, true), (2, true), (3, true), (4, true), (5, true), (6, true), (7, true), (8, true), (9, true), (10, true), (11, true), (12, true), (13, false), (14, true), (15, true), (16, true), (17, true), (18, false)] (by kernel_rfl) (by kernel_rfl) ⟨x0, x1, x2⟩ ?_
  simp only [opsIn, List.map_cons, List.map_nil, List.getElem?_toArray, List.getElem?_cons_zero, List.getElem?_cons_succ, Option.getD_some, Nat.reduceBEq]
  iterate 13
    refine' Seq.quiet (by rfl) ?_ ?_
    rotate_left
    · rintro w' ⟨hS1, hS2, hS3⟩
      go_simp
      try with_reducible rfl
    try simp only [Act.put, List.setIfInBounds_toArray, List.set_cons_zero, List.set_cons_succ]
  refine Seq.eff ?_ ?_
  · rfl
  intro K hK
  go_simp
  refine HA.out.mono ?_
  rintro e w9 ⟨rfl, rfl⟩
  refine hK.out _ _ (.inr ⟨x0, x1, x2⟩) ?_
  clear hK K
  try simp only [Act.put, List.setIfInBounds_toArray, List.set_cons_zero, List.set_cons_succ]
  iterate 4
    refine' Seq.quiet (by rfl) ?_ ?_
    rotate_left
    · rintro w' ⟨hS1, hS2, hS3⟩
      go_simp
      try with_reducible rfl
    try simp only [Act.put, List.setIfInBounds_toArray, List.set_cons_zero, List.set_cons_succ]
  refine Seq.last ?_ ?_
  · rfl
  intro K hK
  go_simp
  refine hK.out _ _ ?_
  clear hK K
  have hs := (HS4.out.store 2 (.int .u32 (o2 : Int))).drew
  simp only [List.setIfInBounds_toArray, List.set_cons_zero, List.set_cons_succ] at hs
  generalize (w4.setCell ⟨f, 2, none⟩ (.int .u32 (o2 : Int))).drew = w5 at hs ⊢
  have x0 : w5.cell? ⟨w.heap.size, 0, none⟩ = some (.pointer (some ⟨f, 0, none⟩)) := (hs.cv.cell 0).trans rfl
  have x1 : w5.cell? ⟨f, 2, none⟩ = some (.int .u32 (o2 : Int)) := (hs.cf.cell 2).trans rfl
  have x2 : w5.cell? ⟨f, 9, none⟩ = some (.int .u32 (ss : Int)) := (hs.cf.cell 9).trans rfl
  have y3 : w5.cell? ⟨f, 3, none⟩ = some (.int .u32 0) := (hs.cf.cell 3).trans rfl
  have z3 := hs.cf.frozen 3
  have HS5 := Lib.hid hs
  clear hs HS4
  clear HA hwo2 hrs1 hrs2 y2 z2
  obtain ⟨o3, ho3⟩ : ∃ o3 : Nat, o3 = o2 + ss := ⟨_, rfl⟩
  have hb3 : o3 ≤ 200000 := by omega
  have hwo3 : (o2 : Int) + (ss : Int) = (o3 : Int) := by omega
  have hwr3 : IntKind.u32.wrap (o3 : Int) = (o3 : Int) := by simp only [IntKind.wrap, IntKind.bits, IntKind.signed]; simp; omega
  have Ho3 := Lib.hid ho3
  clear ho3
  go_wp2_with fail
  refine wp_region_seq (fun w' => w'.cell? ⟨w.heap.size, 0, none⟩ = some (.pointer (some ⟨f, 0, none⟩)) ∧ w'.cell? ⟨f, 2, none⟩ = some (.int .u32 (o2 : Int)) ∧ w'.cell? ⟨f, 9, none⟩ = some (.int .u32 (ss : Int))) 15
    [(0, true), (1, true), (2, true), (3, true), (4, true), (5, true), (6, true), (7, true), (8, true), (9, true), (10, true), (11, true), (12, true), (13, true), (14, true), (15, false)] (by kernel_rfl) (by kernel_rfl) ⟨x0, x1, x2⟩ ?_
  simp only [opsIn, List.map_cons, List.map_nil, List.getElem?_toArray, List.getElem?_cons_zero, List.getElem?_cons_succ, Option.getD_some, Nat.reduceBEq]
  iterate 15
    refine' Seq.quiet (by rfl) ?_ ?_
    rotate_left
    · rintro w' ⟨hS1, hS2, hS3⟩
      go_simp
      try with_reducible rfl
    try simp only [Act.put, List.setIfInBounds_toArray, List.set_cons_zero, List.set_cons_succ]
  refine Seq.last ?_ ?_
  · rfl
  intro K hK
  go_simp
  refine hK.out _ _ ?_
  clear hK K
  have hs := (HS5.out.store 3 (.int .u32 (o3 : Int))).drew
  simp only [List.setIfInBounds_toArray, List.set_cons_zero, List.set_cons_succ] at hs
  generalize (w5.setCell ⟨f, 3, none⟩ (.int .u32 (o3 : Int))).drew = w6 at hs ⊢
  have x0 : w6.cell? ⟨w.heap.size, 0, none⟩ = some (.pointer (some ⟨f, 0, none⟩)) := (hs.cv.cell 0).trans rfl
  have x1 : w6.cell? ⟨f, 3, none⟩ = some (.int .u32 (o3 : Int)) := (hs.cf.cell 3).trans rfl
  have x2 : w6.cell? ⟨f, 8, none⟩ = some (.int .u32 (strs.length : Int)) := (hs.cf.cell 8).trans rfl
  have y1 : w6.cell? ⟨f, 1, none⟩ = some (.int .u32 0) := (hs.cf.cell 1).trans rfl
  have z1 := hs.cf.frozen 1
  have HS6 := Lib.hid hs
  clear hs HS5
  clear hwo3 y3 z3
  obtain ⟨o1, ho1⟩ : ∃ o1 : Nat, o1 = o3 + strs.length := ⟨_, rfl⟩
  have hb1 : o1 ≤ 400000 := by omega
  have hwo1 : (o3 : Int) + (strs.length : Int) = (o1 : Int) := by omega
  have hwr1 : IntKind.u32.wrap (o1 : Int) = (o1 : Int) := by simp only [IntKind.wrap, IntKind.bits, IntKind.signed]; simp; omega
  have Ho1 := Lib.hid ho1
  clear ho1
  go_wp2_with fail
  refine wp_region_seq (fun w' => w'.cell? ⟨w.heap.size, 0, none⟩ = some (.pointer (some ⟨f, 0, none⟩)) ∧ w'.cell? ⟨f, 3, none⟩ = some (.int .u32 (o3 : Int)) ∧ w'.cell? ⟨f, 8, none⟩ = some (.int .u32 (strs.length : Int))) 15
    [(0, true), (1, true), (2, true), (3, true), (4, true), (5, true), (6, true), (7, true), (8, true), (9, true), (10, true), (11, true), (12, true), (13, true), (14, true), (15, false)] (by kernel_rfl) (by kernel_rfl) ⟨x0, x1, x2⟩ ?_
  simp only [opsIn, List.map_cons, List.map_nil, List.getElem?_toArray, List.getElem?_cons_zero, List.getElem?_cons_succ, Option.getD_some, Nat.reduceBEq]
  iterate 15
    refine' Seq.quiet (by rfl) ?_ ?_
    rotate_left
    · rintro w' ⟨hS1, hS2, hS3⟩
      go_simp
      try with_reducible rfl
    try simp only [Act.put, List.setIfInBounds_toArray, List.set_cons_zero, List.set_cons_succ]
  refine Seq.last ?_ ?_
  · rfl
  intro K hK
  go_simp
  refine hK.out _ _ ?_
  clear hK K
  have hs := (HS6.out.store 1 (.int .u32 (o1 : Int))).drew
  simp only [List.setIfInBounds_toArray, List.set_cons_zero, List.set_cons_succ] at hs
  generalize (w6.setCell ⟨f, 1, none⟩ (.int .u32 (o1 : Int))).drew = w7 at hs ⊢
  have x0 : w7.cell? ⟨w.heap.size, 0, none⟩ = some (.pointer (some ⟨f, 0, none⟩)) := (hs.cv.cell 0).trans rfl
  have HS7 := Lib.hid hs
  clear hs HS6
  clear hwo1 y1 z1 x0 x1 x2
  go_wp2_with fail
  generalize hV : (w7.alloc (.cells #[.iface 137 (.pointer (some ⟨z, 0, none⟩)), .int .i64 0] 156)).alloc (.cells #[.pointer (some ⟨w7.heap.size, 0, none⟩)] 154) = W8
  have hWs : W8.heap.size = w7.heap.size + 2 := by rw [← hV]; simp
  have hWb : Below w7.heap.size w7 W8 := by rw [← hV]; exact ((Below.refl _ _).alloc (Nat.le_refl _) _).alloc (by simp) _
  have hCa : Cs W8 w7.heap.size #[.iface 137 (.pointer (some ⟨z, 0, none⟩)), .int .i64 0] := by rw [← hV]; exact (Cs.new _ _ _).alloc _
  have hCw : Cs W8 (w7.heap.size + 1) #[.pointer (some ⟨w7.heap.size, 0, none⟩)] := by rw [← hV]; exact Cs.new' _ _ _ _ (by simp)
  clear hV
  obtain ⟨a, ha⟩ : ∃ a, w7.heap.size = a := ⟨_, rfl⟩
  obtain ⟨aw, haw⟩ : ∃ aw, a + 1 = aw := ⟨_, rfl⟩
  rw [ha] at hWs hCa hCw ⊢
  rw [haw] at hCw ⊢
  obtain ⟨lo, hlo⟩ : ∃ lo, lo = W8.heap.size := ⟨_, rfl⟩
  have hs8 := HS7.out.below hWb
  have hsz7 := HS7.out.sz
  have hwa : w.heap.size + 5 ≤ a := by omega
  have hsv := HS7.out.sb
  obtain ⟨m1, m2, ⟨Asv, csv, m3, m4, m5⟩, m6, -⟩ := hs8.sb
  have hmvl : w.heap.size + 1 + 1 + 1 + 1 < a := by omega
  have HO := Lib.hid (fun k h1 h2 => out_none hs8.cz (by omega) (by omega) h2 : ∀ k, k < a → k ≠ z → Out W8 a z k)
  have OAw : Out W8 a z aw := out_none hs8.cz (by omega) (by omega) (by omega)
  have hws : WS W8 a z lo [] := ⟨none, 0, hs8.cz, World.ownsRow_nil _ _ _ _, hCa, by omega, by omega, by omega, by omega⟩
  have Ofv : Out W8 a z w.heap.size := HO.out _ (by omega) (by omega)
  have Of : Out W8 a z f := HO.out _ (by omega) hfz
  have bc0 : W8.cell? ⟨aw, 0, none⟩ = some (.pointer (some ⟨a, 0, none⟩)) := (hCw.cell 0).trans rfl
  have bx0 : W8.cell? ⟨w.heap.size, 0, none⟩ = some (.pointer (some ⟨f, 0, none⟩)) := (hs8.cv.cell 0).trans rfl
  have b10 : W8.cell? ⟨f, 10, none⟩ = some (.slice AE rs.length cE) := (hs8.cf.cell 10).trans rfl
  have b11 : W8.cell? ⟨f, 11, none⟩ = some (.pointer (some ⟨lt.b, 0, none⟩)) := (hs8.cf.cell 11).trans rfl
  have g0 : W8.cell? ⟨f, 0, none⟩ = some (.int .u32 3490578157) := (hs8.cf.cell 0).trans rfl
  have g1 : W8.cell? ⟨f, 1, none⟩ = some (.int .u32 (o1 : Int)) := (hs8.cf.cell 1).trans rfl
  have g2 : W8.cell? ⟨f, 2, none⟩ = some (.int .u32 (o2 : Int)) := (hs8.cf.cell 2).trans rfl
  have g3 : W8.cell? ⟨f, 3, none⟩ = some (.int .u32 (o3 : Int)) := (hs8.cf.cell 3).trans rfl
  have g4 : W8.cell? ⟨f, 4, none⟩ = some (.int .u32 48) := (hs8.cf.cell 4).trans rfl
  have g5 : W8.cell? ⟨f, 5, none⟩ = some (.int .u32 ver) := (hs8.cf.cell 5).trans rfl
  have g6 : W8.cell? ⟨f, 6, none⟩ = some (.int .u32 lc) := (hs8.cf.cell 6).trans rfl
  have g7 : W8.cell? ⟨f, 7, none⟩ = some (.int .u32 boot) := (hs8.cf.cell 7).trans rfl
  have g8 : W8.cell? ⟨f, 8, none⟩ = some (.int .u32 (strs.length : Int)) := (hs8.cf.cell 8).trans rfl
  have g9 : W8.cell? ⟨f, 9, none⟩ = some (.int .u32 (ss : Int)) := (hs8.cf.cell 9).trans rfl
  have c0 := bc0
  have x0 := bx0
  have HDR := Lib.hid (hdr_walk W8.drew 3490578157 (o1 : Int) (o2 : Int) (o3 : Int) 48 ver lc boot (strs.length : Int) (ss : Int) (fun n hn => by
    simp only [List.mem_cons, List.not_mem_nil, or_false] at hn
    rcases hn with rfl | rfl | rfl | rfl | rfl | rfl | rfl | rfl | rfl | rfl <;> omega))
  have Hws := Lib.hid hws
  have HS8 := Lib.hid hs8
  have Hsb7 := Lib.hid hsv
  have Heq := Lib.hid (fun k hk => hWb.block k (by omega) : ∀ k, k < a → W8.heap[k]? = w7.heap[k]?)
  have HCw := Lib.hid hCw
  have hm := m154
  have hnl := n154
  clear hWb hCa hCw hs8 hsv m1 m2 m3 m4 m5 m6 hws HS7
  refine wp_region_seq (fun w' => w'.cell? ⟨aw, 0, none⟩ = some (.pointer (some ⟨a, 0, none⟩)) ∧ w'.cell? ⟨w.heap.size, 0, none⟩ = some (.pointer (some ⟨f, 0, none⟩)) ∧ w'.cell? ⟨f, 0, none⟩ = some (.int .u32 3490578157) ∧ w'.cell? ⟨f, 1, none⟩ = some (.int .u32 (o1 : Int)) ∧ w'.cell? ⟨f, 2, none⟩ = some (.int .u32 (o2 : Int)) ∧ w'.cell? ⟨f, 3, none⟩ = some (.int .u32 (o3 : Int)) ∧ w'.cell? ⟨f, 4, none⟩ = some (.int .u32 48) ∧ w'.cell? ⟨f, 5, none⟩ = some (.int .u32 ver) ∧ w'.cell? ⟨f, 6, none⟩ = some (.int .u32 lc) ∧ w'.cell? ⟨f, 7, none⟩ = some (.int .u32 boot) ∧ w'.cell? ⟨f, 8, none⟩ = some (.int .u32 (strs.length : Int)) ∧ w'.cell? ⟨f, 9, none⟩ = some (.int .u32 (ss : Int))) 8
    [(0, true), (1, true), (2, true), (3, true), (4, true), (5, true), (6, false), (7, false), (8, false)] (by kernel_rfl) (by kernel_rfl) ⟨c0, x0, g0, g1, g2, g3, g4, g5, g6, g7, g8, g9⟩ ?_
  simp only [opsIn, List.map_cons, List.map_nil, List.getElem?_toArray, List.getElem?_cons_zero, List.getElem?_cons_succ, Option.getD_some, Nat.reduceBEq]
  iterate 6
    refine' Seq.quiet (by rfl) ?_ ?_
    rotate_left
    · rintro w' ⟨hS1, hS2, hS3, hS4, hS5, hS6, hS7, hS8, hS9, hS10, hS11, hS12⟩
      go_simp
      try with_reducible rfl
    try simp only [Act.put, List.setIfInBounds_toArray, List.set_cons_zero, List.set_cons_succ]
  refine Seq.eff ?_ ?_
  · rfl
  intro K hK
  go_simp
  refine HDR.out.mono ?_
  rintro e w1 ⟨A2, c2, rfl, hrd, hb⟩
  replace hb : Below W8.heap.size W8 w1 := (Below.refl _ _).drew.trans hb
  have hc1 : w1.cell? ⟨aw, 0, none⟩ = some (.pointer (some ⟨a, 0, none⟩)) := (hb.cell OAw.1).trans c0
  refine hK.out _ _ (.inr ⟨hc1, (hb.cell Ofv.1).trans x0, (hb.cell Of.1).trans g0, (hb.cell Of.1).trans g1, (hb.cell Of.1).trans g2, (hb.cell Of.1).trans g3, (hb.cell Of.1).trans g4, (hb.cell Of.1).trans g5, (hb.cell Of.1).trans g6, (hb.cell Of.1).trans g7, (hb.cell Of.1).trans g8, (hb.cell Of.1).trans g9⟩) ?_
  clear hK K
  try simp only [Act.put, List.setIfInBounds_toArray, List.set_cons_zero, List.set_cons_succ]
  refine Seq.eff ?_ ?_
  · rfl
  intro K hK
  go_simp
  refine (write_walk w1 a z lo _ (Hws.out.below hb) A2 _ _ (own_rd hrd) (by simp [be4])).mono ?_
  rintro e w2 ⟨rfl, hws2, hf2, hk2⟩
  have kp2 : Kp a z lo W8 w2 := (Kp.of_below hb Hws.out.zlt Hws.out.lo).trans ⟨hf2, hk2⟩
  refine hK.out _ _ (.inr ⟨(kp2.cell OAw).trans c0, (kp2.cell Ofv).trans x0, (kp2.cell Of).trans g0, (kp2.cell Of).trans g1, (kp2.cell Of).trans g2, (kp2.cell Of).trans g3, (kp2.cell Of).trans g4, (kp2.cell Of).trans g5, (kp2.cell Of).trans g6, (kp2.cell Of).trans g7, (kp2.cell Of).trans g8, (kp2.cell Of).trans g9⟩) ?_
  clear hK K
  try simp only [Act.put, List.setIfInBounds_toArray, List.set_cons_zero, List.set_cons_succ]
  refine Seq.last ?_ ?_
  · rfl
  intro K hK
  go_simp
  refine hK.out _ _ ?_
  clear hK K
  have Hws := Lib.hid hws2
  have KP := Lib.hid kp2
  have c0 := (KP.out.cell OAw).trans bc0
  clear hws2 kp2 hf2 hk2 hrd hb g0 g1 g2 g3 g4 g5 g6 g7 g8 g9 x0
  obtain ⟨HD, hHD⟩ : ∃ HD, HD = [3490578157, (o1 : Int), (o2 : Int), (o3 : Int), 48, ver, lc, boot, (strs.length : Int), (ss : Int)].flatMap be4 := ⟨_, rfl⟩
  have hHl : HD.length = 40 := by rw [hHD]; simp [be4]
  rw [← hHD, List.nil_append] at Hws
  replace hHD := Lib.hid hHD
  go_wp2_with fail
  refine (align_walk w2 a z lo 16 _ Hws.out (by omega) (by omega) (by omega)).mono ?_
  rintro e w3 ⟨rfl, hws3, hf3, hk3⟩
  rw [show pad 16 HD.length = zeros 8 by rw [hHl]; rfl] at hws3
  have Hws := Lib.hid hws3
  have KP := Lib.hid (KP.out.trans ⟨hf3, hk3⟩)
  have c0 : w3.cell? ⟨aw, 0, none⟩ = some (.pointer (some ⟨a, 0, none⟩)) := (KP.out.cell OAw).trans bc0
  have x0 : w3.cell? ⟨w.heap.size, 0, none⟩ = some (.pointer (some ⟨f, 0, none⟩)) := (KP.out.cell Ofv).trans bx0
  have x10 : w3.cell? ⟨f, 10, none⟩ = some (.slice AE rs.length cE) := (KP.out.cell Of).trans b10
  have hHokO : ∀ k, ok k → Out W8 a z k := fun k hk => HO.out k (by have := HS8.out.oo k hk; omega) (HS8.out.oo k hk).2.2
  have HokO := Lib.hid hHokO
  have Hsm := Lib.hid ((HS8.out.fr.same (ok := ok) (fun k hk => ⟨(HS8.out.oo k hk).1, (HS8.out.oo k hk).2.1⟩)).trans (KP.out.same hHokO))
  clear hws3 hf3 hk3 hHokO
  have HE := Lib.hid (entry_walk w3.drew AE cE rs (Hr.out.imp id fun ⟨b, o, e1, e2, e3⟩ => ⟨b, o, e1, (KP.out.out (HokO.out b e2)).1, e3.mono (Hsm.out b e2)⟩) Hrb.out (by omega))
  obtain ⟨RB, hRB⟩ : ∃ RB, rs.flatMap be16 = RB := ⟨_, rfl⟩
  have hRl : RB.length = 16 * rs.length := by rw [← hRB]; exact be16_len rs
  replace hRl := Lib.hid hRl
  have HRB := Lib.hid hRB
  clear hRB
  obtain ⟨ZB, hZB⟩ : ∃ ZB, [((0 : Int), (0 : Int))].flatMap be16 = ZB := ⟨_, rfl⟩
  have hZl : ZB.length = 16 := by rw [← hZB]; rfl
  replace hZl := Lib.hid hZl
  have HZB := Lib.hid hZB
  clear hZB
  go_wp2_with fail
  refine wp_region_seq (fun w' => w'.cell? ⟨aw, 0, none⟩ = some (.pointer (some ⟨a, 0, none⟩)) ∧ w'.cell? ⟨w.heap.size, 0, none⟩ = some (.pointer (some ⟨f, 0, none⟩)) ∧ w'.cell? ⟨f, 10, none⟩ = some (.slice AE rs.length cE)) 8
    [(0, true), (1, true), (2, true), (3, true), (4, true), (5, true), (6, false), (7, false), (8, false)] (by kernel_rfl) (by kernel_rfl) ⟨c0, x0, x10⟩ ?_
  simp only [opsIn, List.map_cons, List.map_nil, List.getElem?_toArray, List.getElem?_cons_zero, List.getElem?_cons_succ, Option.getD_some, Nat.reduceBEq]
  iterate 6
    refine' Seq.quiet (by rfl) ?_ ?_
    rotate_left
    · rintro w' ⟨hS1, hS2, hS3⟩
      go_simp
      try with_reducible rfl
    try simp only [Act.put, List.setIfInBounds_toArray, List.set_cons_zero, List.set_cons_succ]
  refine Seq.eff ?_ ?_
  · rfl
  intro K hK
  go_simp
  refine HE.out.mono ?_
  rintro e w4 ⟨A3, c3, rfl, hrd, hb⟩
  rw [HRB.out] at hrd ⊢
  replace hb : Below w3.heap.size w3 w4 := (Below.refl _ _).drew.trans hb
  have hc1 : w4.cell? ⟨aw, 0, none⟩ = some (.pointer (some ⟨a, 0, none⟩)) := (hb.cell (KP.out.out OAw).1).trans c0
  refine hK.out _ _ (.inr ⟨hc1, (hb.cell (KP.out.out Ofv).1).trans x0, (hb.cell (KP.out.out Of).1).trans x10⟩) ?_
  clear hK K
  try simp only [Act.put, List.setIfInBounds_toArray, List.set_cons_zero, List.set_cons_succ]
  refine Seq.eff ?_ ?_
  · rfl
  intro K hK
  go_simp
  refine (write_walk w4 a z lo _ (Hws.out.below hb) A3 _ _ (own_rd hrd) (by have := hRl.out; simp only [List.length_append, zeros_len, hHl, this]; omega)).mono ?_
  rintro e w5 ⟨rfl, hws5, hf5, hk5⟩
  have kp5 : Kp a z lo w3 w5 := (Kp.of_below hb Hws.out.zlt Hws.out.lo).trans ⟨hf5, hk5⟩
  refine hK.out _ _ (.inr ⟨(kp5.cell (KP.out.out OAw)).trans c0, (kp5.cell (KP.out.out Ofv)).trans x0, (kp5.cell (KP.out.out Of)).trans x10⟩) ?_
  clear hK K
  try simp only [Act.put, List.setIfInBounds_toArray, List.set_cons_zero, List.set_cons_succ]
  refine Seq.last ?_ ?_
  · rfl
  intro K hK
  go_simp
  refine hK.out _ _ ?_
  clear hK K
  have Hws := Lib.hid hws5
  have KP := Lib.hid (KP.out.trans kp5)
  have c0 : w5.cell? ⟨aw, 0, none⟩ = some (.pointer (some ⟨a, 0, none⟩)) := (KP.out.cell OAw).trans bc0
  clear hws5 kp5 hf5 hk5 hrd hb x0 x10 hc1 HE Hsm
  go_wp2_with fail
  refine wp_region_seq (fun w' => w'.cell? ⟨aw, 0, none⟩ = some (.pointer (some ⟨a, 0, none⟩))) 6
    [(0, true), (1, true), (2, true), (3, false), (4, false), (5, false), (6, false)] (by kernel_rfl) (by kernel_rfl) c0 ?_
  simp only [opsIn, List.map_cons, List.map_nil, List.getElem?_toArray, List.getElem?_cons_zero, List.getElem?_cons_succ, Option.getD_some, Nat.reduceBEq]
  iterate 3
    refine' Seq.quiet (by rfl) ?_ ?_
    rotate_left
    · rintro w' hS1
      go_simp
      try with_reducible rfl
    try simp only [Act.put, List.setIfInBounds_toArray, List.set_cons_zero, List.set_cons_succ]
  refine Seq.eff ?_ ?_
  · rfl
  intro K hK
  go_simp
  refine hK.out _ _ (.inr ((World.cell?_alloc_lt _ _ _ (KP.out.out OAw).1).trans c0)) ?_
  clear hK K
  try simp only [Act.put, List.setIfInBounds_toArray, List.set_cons_zero, List.set_cons_succ]
  refine Seq.eff ?_ ?_
  · rfl
  intro K hK
  go_simp
  refine (entry_walk (w5.drew.alloc (.cells #[.int .u64 0, .int .u64 0] 98)) (some ⟨w5.heap.size, 0, none⟩) 1 [(0, 0)] (.inr ⟨w5.heap.size, 0, rfl, by simp, fun i t ht => by
    match i, ht with
    | 0, ht => cases ht; exact ⟨((Cs.new w5.drew 98 #[.int .u64 0, .int .u64 0]).cell 0).trans rfl, ((Cs.new w5.drew 98 #[.int .u64 0, .int .u64 0]).cell 1).trans rfl⟩
    | i + 1, ht => simp at ht⟩) (fun r hr => by cases List.mem_singleton.1 hr; simp) (by simp)).mono ?_
  rintro e w6 ⟨A3, c3, rfl, hrd, hb⟩
  rw [HZB.out] at hrd ⊢
  replace hb : Below w5.heap.size w5 w6 := ((Below.refl w5.heap.size w5).drew.alloc (Nat.le_refl _) _).trans (hb.mono (by simp))
  have hc1 : w6.cell? ⟨aw, 0, none⟩ = some (.pointer (some ⟨a, 0, none⟩)) := (hb.cell (KP.out.out OAw).1).trans c0
  refine hK.out _ _ (.inr hc1) ?_
  clear hK K
  try simp only [Act.put, List.setIfInBounds_toArray, List.set_cons_zero, List.set_cons_succ]
  refine Seq.eff ?_ ?_
  · rfl
  intro K hK
  go_simp
  refine (write_walk w6 a z lo _ (Hws.out.below hb) A3 _ _ (own_rd hrd) (by have := hRl.out; have h2 := hZl.out; simp only [List.length_append, zeros_len, hHl, this, h2]; omega)).mono ?_
  rintro e w7 ⟨rfl, hws7, hf7, hk7⟩
  have kp7 : Kp a z lo w5 w7 := (Kp.of_below hb Hws.out.zlt Hws.out.lo).trans ⟨hf7, hk7⟩
  refine hK.out _ _ (.inr ((kp7.cell (KP.out.out OAw)).trans c0)) ?_
  clear hK K
  try simp only [Act.put, List.setIfInBounds_toArray, List.set_cons_zero, List.set_cons_succ]
  refine Seq.last ?_ ?_
  · rfl
  intro K hK
  go_simp
  refine hK.out _ _ ?_
  clear hK K
  have Hws := Lib.hid hws7
  have KP := Lib.hid (KP.out.trans kp7)
  have c0 : w7.cell? ⟨aw, 0, none⟩ = some (.pointer (some ⟨a, 0, none⟩)) := (KP.out.cell OAw).trans bc0
  clear hws7 kp7 hf7 hk7 hrd hb hc1
  go_wp2_with fail
  have hlen7 : (HD ++ zeros 8 ++ RB ++ ZB).length = 64 + 16 * rs.length := by simp only [List.length_append, zeros_len, hHl, hRl.out, hZl.out]; omega
  refine (align_walk w7 a z lo 4 _ Hws.out (by omega) (by omega) (by rw [hlen7]; omega)).mono ?_
  rintro e w9 ⟨rfl, hws9, hf9, hk9⟩
  rw [pad_zero (by rw [hlen7]; omega), List.append_nil] at hws9
  have Hws := Lib.hid hws9
  have KP := Lib.hid (KP.out.trans ⟨hf9, hk9⟩)
  have hw9 := KP.out.fr.size
  have x0 : w9.cell? ⟨w.heap.size, 0, none⟩ = some (.pointer (some ⟨f, 0, none⟩)) := (KP.out.cell Ofv).trans bx0
  replace hlen7 := Lib.hid hlen7
  clear hws9 hf9 hk9
  have hrsf := fun (w : World) (a : Addr) (fn : Fn) (x y : Array Value) => run_store Try.prog w a (.func fn x y) .plain rfl
  have n1 : (w9.alloc (.cells #[.nilFunc] 152)).cell? ⟨w9.heap.size, 0, none⟩ = some .nilFunc := ((Cs.new w9 152 #[.nilFunc]).cell 0).trans rfl
  have n2 : (w9.alloc (.cells #[.nilFunc] 152)).frozen? ⟨w9.heap.size, 0, none⟩ = false := (Cs.new w9 152 #[.nilFunc]).frozen 0
  go_wp2_with fail
  generalize hV : w9.alloc (.cells #[.func (.func 76) #[] #[.pointer (some ⟨aw, 0, none⟩), .pointer (some ⟨w.heap.size + 1 + 1 + 1 + 1, 0, none⟩), .pointer (some ⟨w9.heap.size, 0, none⟩)]] 152) = W10
  have hWb : Below w9.heap.size w9 W10 := by rw [← hV]; exact (Below.refl _ _).alloc (Nat.le_refl _) _
  have hCn : Cs W10 w9.heap.size #[.func (.func 76) #[] #[.pointer (some ⟨aw, 0, none⟩), .pointer (some ⟨w.heap.size + 1 + 1 + 1 + 1, 0, none⟩), .pointer (some ⟨w9.heap.size, 0, none⟩)]] := by rw [← hV]; exact Cs.new _ _ _
  clear hV n1 n2 hrsf c0 x0 hw9
  have On : Out W10 a z w9.heap.size := Hws.out.out_new hWb (Nat.le_refl _) hCn.lt
  obtain ⟨wn, hwn⟩ : ∃ wn, w9.heap.size = wn := ⟨_, rfl⟩
  rw [hwn] at hCn On ⊢
  have KP := Lib.hid (KP.out.trans (Kp.of_below hWb Hws.out.zlt Hws.out.lo))
  have Hws := Lib.hid (Hws.out.below hWb)
  clear hWb hwn
  have kpd : Kp a z lo W10 W10.drew := Kp.of_below ((Below.refl _ _).drew) Hws.out.zlt Hws.out.lo
  have n0 : W10.cell? ⟨wn, 0, none⟩ = some (.func (.func 76) #[] #[.pointer (some ⟨aw, 0, none⟩), .pointer (some ⟨w.heap.size + 1 + 1 + 1 + 1, 0, none⟩), .pointer (some ⟨wn, 0, none⟩)]) := (hCn.cell 0).trans rfl
  have x0 : W10.cell? ⟨w.heap.size, 0, none⟩ = some (.pointer (some ⟨f, 0, none⟩)) := (KP.out.cell Ofv).trans bx0
  have x11 : W10.cell? ⟨f, 11, none⟩ = some (.pointer (some ⟨lt.b, 0, none⟩)) := (KP.out.cell Of).trans b11
  have H3 : Calls Try.prog 76 #[.pointer (some ⟨lt.b, 0, none⟩), .pointer (some ⟨aw, 0, none⟩), .pointer (some ⟨w.heap.size + 1 + 1 + 1 + 1, 0, none⟩), .pointer (some ⟨wn, 0, none⟩)] W10.drew (W3Post W10.drew a z lo strs lt (HD ++ zeros 8 ++ RB ++ ZB)) := by
    obtain ⟨m1, m2, -, m6, -⟩ := HS8.out.sb
    have KD := KP.out.trans kpd
    have Omv := HO.out (w.heap.size + 1 + 1 + 1 + 1) (by omega) (by omega)
    have Om := HO.out (w.heap.size + 1 + 1 + 1) (by omega) (by omega)
    exact w3_walk a z lo aw _ (w.heap.size + 1 + 1 + 1) wn S strs m6 (by omega) lt W10.drew ok _ (fun k hk => KD.out (HokO.out k hk)) (HS8.out.pn.mono (KD.same HokO.out) (fun _ h => h))
      ⟨HCw.out.keep (KD.eq OAw), m1.keep (KD.eq Omv), hCn.drew, m2.keep (KD.eq Om), KD.out OAw, KD.out Omv, kpd.out On, KD.out Om⟩ (Hws.out.below (Below.refl _ _).drew) (by rw [hlen7.out]; omega)
      (fun n hn => ⟨by have := (Hnm.out n hn).1; omega, fun p hp => ⟨by have := (Hnm.out n hn).2 p hp; omega, Hall.out n hn p hp⟩⟩) (by rw [hlen7.out]; omega)
  have H3 := Lib.hid H3
  have hCn := Lib.hid hCn
  refine wp_region_seq (fun w' => w'.cell? ⟨wn, 0, none⟩ = some (.func (.func 76) #[] #[.pointer (some ⟨aw, 0, none⟩), .pointer (some ⟨w.heap.size + 1 + 1 + 1 + 1, 0, none⟩), .pointer (some ⟨wn, 0, none⟩)]) ∧ w'.cell? ⟨w.heap.size, 0, none⟩ = some (.pointer (some ⟨f, 0, none⟩)) ∧ w'.cell? ⟨f, 11, none⟩ = some (.pointer (some ⟨lt.b, 0, none⟩))) 6
    [(0, true), (1, true), (2, true), (3, true), (4, true), (5, false), (6, false)] (by kernel_rfl) (by kernel_rfl) ⟨n0, x0, x11⟩ ?_
  simp only [opsIn, List.map_cons, List.map_nil, List.getElem?_toArray, List.getElem?_cons_zero, List.getElem?_cons_succ, Option.getD_some, Nat.reduceBEq]
  iterate 5
    refine' Seq.quiet (by rfl) ?_ ?_
    rotate_left
    · rintro w' ⟨hS1, hS2, hS3⟩
      go_simp
      try with_reducible rfl
    try simp only [Act.put, List.setIfInBounds_toArray, List.set_cons_zero, List.set_cons_succ]
  refine Seq.eff ?_ ?_
  · rfl
  intro K hK
  go_simp
  refine H3.out.mono ?_
  rintro e w11 ⟨rfl, st, henc, hws11, kp11⟩
  refine hK.out _ _ (.inr ⟨((kpd.trans kp11).cell On).trans n0, ((kpd.trans kp11).cell (KP.out.out Ofv)).trans x0, ((kpd.trans kp11).cell (KP.out.out Of)).trans x11⟩) ?_
  clear hK K
  try simp only [Act.put, List.setIfInBounds_toArray, List.set_cons_zero, List.set_cons_succ]
  refine Seq.last ?_ ?_
  · rfl
  intro K hK
  go_simp
  refine hK.out _ _ ?_
  clear hK K
  have Hws := Lib.hid hws11
  have KP := Lib.hid (KP.out.trans (kpd.trans kp11))
  have henc := Lib.hid henc
  have hst := henc.out
  have hstl : st.length = szNs lt.nodes := LT.enc_len lt henc.out
  replace hstl := Lib.hid hstl
  have c0 : w11.cell? ⟨aw, 0, none⟩ = some (.pointer (some ⟨a, 0, none⟩)) := (KP.out.cell OAw).trans bc0
  have OA : Out w11 a z aw := KP.out.out OAw
  clear hws11 kp11 x0 x11 n0 hst kpd
  go_wp2_with fail
  refine wp_region_seq (fun w' => w'.cell? ⟨aw, 0, none⟩ = some (.pointer (some ⟨a, 0, none⟩))) 5
    [(0, true), (1, true), (2, false), (3, false), (4, false), (5, false)] (by kernel_rfl) (by kernel_rfl) (c0) ?_
  simp only [opsIn, List.map_cons, List.map_nil, List.getElem?_toArray, List.getElem?_cons_zero, List.getElem?_cons_succ, Option.getD_some, Nat.reduceBEq]
  iterate 2
    refine' Seq.quiet (by rfl) ?_ ?_
    rotate_left
    · rintro w' hS1
      go_simp
      try with_reducible rfl
    try simp only [Act.put, List.setIfInBounds_toArray, List.set_cons_zero, List.set_cons_succ]
  refine Seq.eff ?_ ?_
  · rfl
  intro K hK
  go_simp
  refine hK.out _ _ (.inr ((World.cell?_alloc_lt _ _ _ OA.1).trans c0)) ?_
  clear hK K
  try simp only [Act.put, List.setIfInBounds_toArray, List.set_cons_zero, List.set_cons_succ]
  refine Seq.eff ?_ ?_
  · rfl
  intro K hK
  go_simp
  refine (put32 w11.drew [9] (by simp; try omega) (by simp)).mono ?_
  rintro e w1 ⟨A1, c1, rfl, hrd, hb⟩
  replace hb : Below w11.heap.size w11 w1 := (Below.refl _ _).drew.trans hb
  have hc1 : w1.cell? ⟨aw, 0, none⟩ = some (.pointer (some ⟨a, 0, none⟩)) := (hb.cell OA.1).trans c0
  refine hK.out _ _ (.inr (hc1)) ?_
  clear hK K
  try simp only [Act.put, List.setIfInBounds_toArray, List.set_cons_zero, List.set_cons_succ]
  refine Seq.eff ?_ ?_
  · rfl
  intro K hK
  go_simp
  refine (write_walk w1 a z lo _ (Hws.out.below hb) A1 _ _ hrd (by have := hlen7.out; have := hstl.out; simp only [List.length_append, hlen7.out, hstl.out]; simp [be4]; omega)).mono ?_
  rintro e w2 ⟨rfl, hws2, hf2, hk2⟩
  have kp2 : Kp a z lo w11 w2 := (Kp.of_below hb Hws.out.zlt Hws.out.lo).trans ⟨hf2, hk2⟩
  have hc2 : w2.cell? ⟨aw, 0, none⟩ = some (.pointer (some ⟨a, 0, none⟩)) := (kp2.cell OA).trans c0
  refine hK.out _ _ (.inr (hc2)) ?_
  clear hK K
  try simp only [Act.put, List.setIfInBounds_toArray, List.set_cons_zero, List.set_cons_succ]
  refine Seq.last ?_ ?_
  · rfl
  intro K hK
  go_simp
  refine hK.out _ _ ?_
  clear hK K
  have Hws := Lib.hid hws2
  have KP := Lib.hid (KP.out.trans kp2)
  have hw2l := KP.out.fr.size
  obtain ⟨-, -, ⟨Asv2, csv2, m3, m4, -⟩, -⟩ := Hsb7.out
  have Osv := HO.out (w.heap.size + 1 + 1) (by omega) (by omega)
  have s0 : w2.cell? ⟨w.heap.size + 1 + 1, 0, none⟩ = some (.slice Asv2 strs.length csv2) := ((m3.keep ((KP.out.eq Osv).trans (Heq.out _ (by omega)))).cell 0).trans rfl
  have hrd2 : Rd w2 Asv2 (strs.map bv) := own_rd (own_keep m4 fun g hg => (KP.out.eq (HO.out g (by have := (m4.lt g hg).2; omega) (by have := (m4.lt g hg).1; omega))).trans (Heq.out g (by have := (m4.lt g hg).2; omega)))
  have c0 : w2.cell? ⟨aw, 0, none⟩ = some (.pointer (some ⟨a, 0, none⟩)) := (KP.out.cell OAw).trans bc0
  have Hrd2 := Lib.hid hrd2
  clear hws2 kp2 hf2 hk2 hrd hb hc1 m3 m4 hrd2 hc2 hw2l
  go_wp2_with fail
  refine (aw_walk w2 a z lo _ Hws.out Asv2 csv2 strs Hrd2.out (by have := hlen7.out; have := hstl.out; simp only [List.length_append, hlen7.out, hstl.out]; simp [be4]; omega)).mono ?_
  rintro e w12 ⟨rfl, hws12, hf12, hk12⟩
  have KP := Lib.hid (KP.out.trans ⟨hf12, hk12⟩)
  have c0 : w12.cell? ⟨aw, 0, none⟩ = some (.pointer (some ⟨a, 0, none⟩)) := (KP.out.cell OAw).trans bc0
  obtain ⟨A9, c9, k1, k2, k3, -⟩ := hws12
  obtain ⟨N, hN⟩ : ∃ N : Int, N = ((HD ++ zeros 8 ++ RB ++ ZB ++ st ++ [9].flatMap be4 ++ strs).length : Int) := ⟨_, rfl⟩
  have a1 : w12.cell? ⟨a, 1, none⟩ = some (.int .i64 N) := by rw [hN]; exact (k3.cell 1).trans rfl
  have HFIN : FWPost w f z ver lc boot rs lt (.returned (.tuple #[.int .i64 N, .nilIface])) w12 := by
    refine ⟨HD ++ zeros 8 ++ RB ++ ZB ++ st ++ [9].flatMap be4 ++ strs, N, rfl, ⟨st, strs, henc.out, by omega, by have := hstl.out; omega, ?_⟩, ?_, A9, c9, k1, own_mono k2 (by omega)⟩
    · have e1 := hHD.out
      have e2 := hstl.out
      have e3 := Ho1.out
      have e4 := Ho2.out
      have e5 := Ho3.out
      have e6 := Hss.out
      rw [show zeros 16 = ZB by rw [← HZB.out]; rfl, HRB.out, e1, e2, ← e6, ← e4, ← e5, ← e3]
      simp
    · exact (HS8.out.fr.mono (Nat.le_refl _) (fun k hk h => .inl h)).trans (KP.out.fr.mono (by omega) (fun k hk h => .inr (by omega)))
  replace HFIN := Lib.hid HFIN
  clear k1 k2 k3 hf12 hk12 hN
  go_wp2_with fail
  refine bodyPost_ret (v := .tuple #[.int .i64 N, .nilIface]) (by simp [results, Try.results61, go_sem]) rfl ?_
  exact HFIN.out
end Go.Proofs.Ytlbhadggfipckaa
