/-
  AlignReader: Read, ReadByte, Align; bufio.NewReader; indexByte.
  readStringsBlock.
  The open nodes of a reading, and what is left to read.
-/
import Derived.Test.YtlbhadggfipckaaMa25
import Derived.Test.YtlbhadggfipckaaMa10
import Derived.Test.YtlbhadggfipckaaMa23
import Derived.Test.YtlbhadggfipckaaMa24
set_option linter.unusedVariables false
set_option linter.unusedSimpArgs false
namespace Go.Proofs.Ytlbhadggfipckaa
open Go.RowKit

def AX (a b bb lr r : Nat) (dk : Nat → Prop) : Nat → Prop := fun k => k = a ∨ BX b bb lr r dk k

/-- An AlignReader at block a: rest is left of tot bytes. -/
def ASt (a b bb lr r : Nat) (dk : Nat → Prop) (A : Option Addr) (c : Nat) (dt : List UInt8) (tot : Nat) (w : World) (rest : List UInt8) : Prop :=
  Cs w a #[.iface 178 (.pointer (some ⟨b, 0, none⟩)), .int .i64 ((tot - rest.length : Nat) : Int)] ∧ BfSt b bb lr r dk A c dt w rest ∧ rest.length ≤ tot ∧ ¬ BX b bb lr r dk a ∧ tot ≤ 100000000

theorem BfSt.keep {b bb lr r : Nat} {dk : Nat → Prop} {A : Option Addr} {c : Nat} {dt : List UInt8} {w w' : World} {rest : List UInt8} (h : BfSt b bb lr r dk A c dt w rest) (hs : Same (BX b bb lr r dk) w w') : BfSt b bb lr r dk A c dt w' rest := by
  obtain ⟨i, N, RR, WW, buf, pre, h, hr⟩ := h
  exact ⟨i, N, RR, WW, buf, pre, h.keep hs, hr⟩

theorem BfSt.xl {b bb lr r : Nat} {dk : Nat → Prop} {A : Option Addr} {c : Nat} {dt : List UInt8} {w : World} {rest : List UInt8} (h : BfSt b bb lr r dk A c dt w rest) : ∀ k, BX b bb lr r dk k → k < w.heap.size := by
  obtain ⟨i, N, RR, WW, buf, pre, h, hr⟩ := h
  obtain ⟨x, y, hc⟩ := h.cs
  rintro k (rfl | rfl | rfl | rfl | hk)
  · exact hc.lt
  · exact h.bc.lt
  · exact h.ls.cs.lt
  · exact h.ls.br.cs.lt
  · exact h.ls.br.dl k hk

set_option maxHeartbeats 1000000 in
theorem al_read (a b bb lr r : Nat) (dk : Nat → Prop) (A : Option Addr) (c : Nat) (dt : List UInt8) (tot : Nat) (w : World) (rest : List UInt8) (g off m cP : Nat) (cur : List Value) (h : ASt a b bb lr r dk A c dt tot w rest) (hg : Cs w g cur.toArray) (hgX : ¬ AX a b bb lr r dk g) (hm0 : 0 < m) (hm : m ≤ 4000) (hfit : off + m ≤ cur.length) :
    Calls Try.prog 120 #[.pointer (some ⟨a, 0, none⟩), .slice (some ⟨g, off, none⟩) m cP] w (RdPost (ASt a b bb lr r dk A c dt tot) (AX a b bb lr r dk) w rest g off m cur) := by
  obtain ⟨hc, hb, hrt, hna, htot⟩ := h
  have hmt := m178r
  have hnl := n178r
  have c0 : w.cell? ⟨a, 0, none⟩ = some (.iface 178 (.pointer (some ⟨b, 0, none⟩))) := (hc.cell 0).trans rfl
  have HB := Lib.hid (bf_read w b bb lr r dk A c dt rest hb g off m cP cur hg (fun e => hgX (.inr e)) hm0 hm hfit)
  have hga : g ≠ a := fun e => hgX (.inl e)
  have Hc := Lib.hid hc
  clear hb hc hg
  go_enter Try.func120, Try.ntmps120
  go_wp2_with fail
  refine HB.out.mono ?_
  rintro e w1 ⟨l, rest', hr, hlm, hne, rfl, hst, hg1, hf1⟩
  obtain ⟨er, her⟩ : ∃ er, er = rErr rest := ⟨_, rfl⟩
  rw [← her]
  have hrl : rest.length = l.length + rest'.length := by rw [hr, List.length_append]
  have hq := Hc.out.fr2 hf1 (fun h => h.elim (Ne.symm hga) hna)
  have k1 : w1.cell? ⟨a, 1, none⟩ = some (.int .i64 ((tot - rest.length : Nat) : Int)) := (hq.cell 1).trans rfl
  have f1 := hq.frozen 1
  obtain ⟨p0, hp0⟩ : ∃ p0, p0 = tot - rest.length := ⟨_, rfl⟩
  obtain ⟨p1, hp1⟩ : ∃ p1, p1 = tot - rest'.length := ⟨_, rfl⟩
  rw [← hp0] at k1 hq
  have hsum : (p0 : Int) + (l.length : Int) = (p1 : Int) := by omega
  have hsw : IntKind.i64.wrap (p1 : Int) = (p1 : Int) := by simp only [IntKind.wrap, IntKind.bits, IntKind.signed]; simp; omega
  have hq2 := hq.set_ 1 (.int .i64 (p1 : Int))
  simp only [List.setIfInBounds_toArray, List.set_cons_zero, List.set_cons_succ] at hq2
  have hst2 : BfSt b bb lr r dk A c dt (w1.setCell ⟨a, 1, none⟩ (.int .i64 (p1 : Int))) rest' := hst.keep (fun k hk => Below.heap_setCell _ _ _ _ (fun e => hna (by simp at e; rw [← e]; exact hk)))
  have HFIN := Lib.hid (show RdPost (ASt a b bb lr r dk A c dt tot) (AX a b bb lr r dk) w rest g off m cur (.returned (.tuple #[.int .i64 l.length, er])) (w1.setCell ⟨a, 1, none⟩ (.int .i64 (p1 : Int))) from
    ⟨l, rest', hr, hlm, hne, by rw [her], ⟨by rw [← hp1]; exact hq2, hst2, by omega, hna, htot⟩, hg1.far (p := ⟨a, 1, none⟩) hga _, (hf1.mono (Nat.le_refl _) (fun _ _ h => h.imp id .inr)).setCell (p := ⟨a, 1, none⟩) (.inr (.inr (.inl rfl))) _⟩)
  clear hr hlm hne her hst hg1 hf1 hrl hq hp0 hp1 hq2 hst2 hrt
  go_wp2_with fail
  go_ret2
  exact HFIN.out

theorem al_rdk (a b bb lr r : Nat) (dk : Nat → Prop) (A : Option Addr) (c : Nat) (dt : List UInt8) (tot : Nat) : RdK 177 120 a (AX a b bb lr r dk) (ASt a b bb lr r dk A c dt tot) where
  mth := m177r _
  nil := n177r _
  cll := fun cap w => by kernel_rfl
  keep := fun w w' rest h hs => ⟨h.1.keep (hs a (.inl rfl)), h.2.1.keep (fun k hk => hs k (.inr hk)), h.2.2⟩
  xl := fun w rest h k hk => hk.elim (fun e => e ▸ h.1.lt) (fun e => h.2.1.xl k e)
  read := fun w rest g off m cP cur h hg hX h0 hm hfit => al_read a b bb lr r dk A c dt tot w rest g off m cP cur h hg hX h0 hm hfit

def NewRd (w : World) (lr : Nat) (e : Ending) (w' : World) : Prop :=
  e = .returned (.pointer (some ⟨w.heap.size, 0, none⟩)) ∧ Cs w' w.heap.size #[.slice (some ⟨w.heap.size + 1, 0, none⟩) 4096 4096, .iface 180 (.pointer (some ⟨lr, 0, none⟩)), .int .i64 0, .int .i64 0, .nilIface, .int .i64 (-1), .int .i64 (-1)] ∧
    Cs w' (w.heap.size + 1) (List.replicate 4096 (Value.int .u8 0)).toArray ∧ Below w.heap.size w w' ∧ w'.heap.size = w.heap.size + 2

theorem ta180 (z : Addr) (w : World) : (Instr.typeAssert (.iface 180 (.pointer (some z))) 182 178 true).run Try.prog w = .ok (.tuple #[.pointer none, .bool false]) w := by kernel_rfl

theorem reset_walk (w : World) (b : Nat) (A : Option Addr) (ln cp : Nat) (dd : Nat) (dv : Value) (x0 x1 x2 x3 x4 x5 x6 : Value) (h : Cs w b #[x0, x1, x2, x3, x4, x5, x6]) : Calls Try.prog 97 #[.pointer (some ⟨b, 0, none⟩), .slice A ln cp, .iface dd dv] w fun e w' => e = .returned (.tuple #[]) ∧ Cs w' b #[.slice A ln cp, .iface dd dv, .int .i64 0, .int .i64 0, .nilIface, .int .i64 (-1), .int .i64 (-1)] ∧ Fr w.heap.size (· = b) w w' ∧ w'.heap.size = w.heap.size := by
  have c0 : w.cell? ⟨b, 0, none⟩ = some x0 := (h.cell 0).trans rfl
  have f0 : w.frozen? ⟨b, 0, none⟩ = false := h.frozen 0
  have c1 : w.cell? ⟨b, 1, none⟩ = some x1 := (h.cell 1).trans rfl
  have f1 : w.frozen? ⟨b, 1, none⟩ = false := h.frozen 1
  have c2 : w.cell? ⟨b, 2, none⟩ = some x2 := (h.cell 2).trans rfl
  have f2 : w.frozen? ⟨b, 2, none⟩ = false := h.frozen 2
  have c3 : w.cell? ⟨b, 3, none⟩ = some x3 := (h.cell 3).trans rfl
  have f3 : w.frozen? ⟨b, 3, none⟩ = false := h.frozen 3
  have c4 : w.cell? ⟨b, 4, none⟩ = some x4 := (h.cell 4).trans rfl
  have f4 : w.frozen? ⟨b, 4, none⟩ = false := h.frozen 4
  have c5 : w.cell? ⟨b, 5, none⟩ = some x5 := (h.cell 5).trans rfl
  have f5 : w.frozen? ⟨b, 5, none⟩ = false := h.frozen 5
  have c6 : w.cell? ⟨b, 6, none⟩ = some x6 := (h.cell 6).trans rfl
  have f6 : w.frozen? ⟨b, 6, none⟩ = false := h.frozen 6
  have hq := ((((((h.set_ 0 (.slice A ln cp)).set_ 1 (.iface dd dv)).set_ 2 (.int .i64 0)).set_ 3 (.int .i64 0)).set_ 4 .nilIface).set_ 5 (.int .i64 (-1))).set_ 6 (.int .i64 (-1))
  simp only [List.setIfInBounds_toArray, List.set_cons_zero, List.set_cons_succ] at hq
  have hf := (((((((Fr.refl w.heap.size (· = b) w).setCell (p := ⟨b, 0, none⟩) (.inr rfl) (.slice A ln cp)).setCell (p := ⟨b, 1, none⟩) (.inr rfl) (.iface dd dv)).setCell (p := ⟨b, 2, none⟩) (.inr rfl) (.int .i64 0)).setCell (p := ⟨b, 3, none⟩) (.inr rfl) (.int .i64 0)).setCell (p := ⟨b, 4, none⟩) (.inr rfl) .nilIface).setCell (p := ⟨b, 5, none⟩) (.inr rfl) (.int .i64 (-1))).setCell (p := ⟨b, 6, none⟩) (.inr rfl) (.int .i64 (-1))
  have H := Lib.hid (And.intro hq hf)
  clear h hq hf
  go_enter Try.func97, Try.ntmps97
  go_wp2_with fail
  go_end0
  exact ⟨rfl, H.out.1, H.out.2, by simp [World.setCell]⟩

theorem mk4096 : ∃ B : Array Value, B = (List.replicate 4096 (Value.int .u8 0)).toArray ∧ ∀ w : World, (Instr.makeSlice 24 (.int .i64 4096) (.int .i64 4096)).run Try.prog w = .ok (.slice (some ⟨w.heap.size, 0, none⟩) 4096 4096) (w.alloc (.cells B 5)) := by
  refine ⟨_, rfl, fun w => ?_⟩
  have e : (List.replicate 4096 (Value.int .u8 0)).toArray = Array.replicate 4096 (Value.int .u8 0) := List.toArray_replicate _ _
  rw [e]
  exact make5 w 4096 (by omega)

set_option maxRecDepth 20000 in
theorem newReaderSize_walk (w : World) (lr : Nat) : Calls Try.prog 95 #[.iface 180 (.pointer (some ⟨lr, 0, none⟩)), .int .i64 4096] w (NewRd w lr) := by
  have hta := ta180
  obtain ⟨B, hB, hmk⟩ := mk4096
  have HB := Lib.hid hB
  clear hB
  obtain ⟨w0, hw0⟩ : ∃ w0, w0 = ((w.alloc (.cells #[.slice none 0 0, .nilIface, .int .i64 0, .int .i64 0, .nilIface, .int .i64 0, .int .i64 0] 205)).alloc (.cells B 5)) := ⟨_, rfl⟩
  have hz0 : w0.heap.size = w.heap.size + 2 := by rw [hw0]; simp
  have hb0 : Below w.heap.size w w0 := by rw [hw0]; exact ((Below.refl _ _).alloc (Nat.le_refl _) _).alloc (by simp) _
  have hc0 : Cs w0 w.heap.size #[.slice none 0 0, .nilIface, .int .i64 0, .int .i64 0, .nilIface, .int .i64 0, .int .i64 0] := by rw [hw0]; exact (Cs.new w _ _).alloc _
  have hc1 : Cs w0 (w.heap.size + 1) (List.replicate 4096 (Value.int .u8 0)).toArray := by rw [hw0, ← HB.out]; exact Cs.new' _ _ _ _ (by simp)
  have H := Lib.hid (reset_walk w0 w.heap.size (some ⟨w.heap.size + 1, 0, none⟩) 4096 4096 180 (.pointer (some ⟨lr, 0, none⟩)) _ _ _ _ _ _ _ hc0)
  have HW := Lib.hid hw0
  have HC := Lib.hid (And.intro hz0 (And.intro hb0 hc1))
  clear hw0 hz0 hb0 hc1 hc0
  go_enter Try.func95, Try.ntmps95
  go_wp2_with fail
  rw [← HW.out]
  refine H.out.mono ?_
  rintro e w1 ⟨rfl, h1, h2, h3⟩
  obtain ⟨hz, hb, hc⟩ := HC.out
  have HF := Lib.hid (show NewRd w lr (.returned (.pointer (some ⟨w.heap.size, 0, none⟩))) w1 from
    ⟨rfl, h1, hc.fr2 h2 (by omega), hb.trans (h2.below (by omega) (fun k hk e => by omega)), by omega⟩)
  clear h1 h2 h3 hz hb hc
  go_wp2_with fail
  go_ret
  exact HF.out

theorem newReader_walk (w : World) (lr : Nat) : Calls Try.prog 87 #[.iface 180 (.pointer (some ⟨lr, 0, none⟩))] w (NewRd w lr) := by
  have H := Lib.hid (newReaderSize_walk w lr)
  go_enter Try.func87, Try.ntmps87
  go_wp2_with fail
  refine H.out.mono ?_
  rintro e w1 ⟨rfl, h⟩
  go_wp2_with fail
  go_ret
  exact ⟨rfl, h⟩

/-- indexByte: where the first nought stands. -/
theorem indexByte_walk (w : World) (A : Option Addr) (c : Nat) (l post : List UInt8) (s : ByteArray) (hr : Rd w A (l.map bv)) (hl : l = bytesOf s ++ 0 :: post) (hz : ∀ k, ∀ h : k < s.size, s[k] ≠ 0) (hll : l.length ≤ 100000000) :
    Calls Try.prog 91 #[.slice A l.length c, .int .u8 0] w fun e w' => e = .returned (.int .i64 s.size) ∧ w = w' := by
  have hlt : s.size < l.length := by rw [hl]; simp [bytesOf]
  obtain ⟨b, o, rfl, hD⟩ := rd_at hr (.inl (by simp; omega))
  have hget : ∀ j (h : j < s.size), l[j]? = some s[j] := fun j h => by
    rw [hl, List.getElem?_append_left (by simp [bytesOf]; omega)]
    unfold bytesOf
    rw [List.getElem?_eq_getElem (by simpa using h)]
    rfl
  have hend : l[s.size]? = some 0 := by
    rw [hl, List.getElem?_append_right (by simp [bytesOf])]
    simp [bytesOf]
  have HD := Lib.hid hD
  have Hget := Lib.hid hget
  have Hend := Lib.hid hend
  have Hz := Lib.hid hz
  clear hr hD hget hend hz hl
  go_enter Try.func91, Try.ntmps91
  go_wp2_with fail
  go_loopw [9] (fun i wr => w = wr ∧ ∃ j : Nat, j ≤ s.size ∧ i = .int .i64 j) (fun i _ => s.size - (intOf i).toNat)
  case atStart => exact ⟨rfl, 0, by omega, by go_num⟩
  case round =>
    obtain ⟨rfl, j, hj, rfl⟩ := hrel
    have i0 : (0 : Int) ≤ (j : Int) := by omega
    have i1 : (j : Int) < (l.length : Int) := by omega
    by_cases hlt2 : j < s.size
    · have d1 := HD.out j (bv s[j]) (by rw [List.getElem?_map, Hget.out j hlt2]; rfl)
      have hn := Hz.out j hlt2
      generalize s[j] = y at *
      have hyn : y.toNat ≠ 0 := fun e => hn (UInt8.toNat.inj e)
      have hyl := y.toNat_lt
      unfold bv at d1
      generalize y.toNat = x at *
      have hy : ((x : Int) == 0) = false := by simp; omega
      go_wp2_with fail
      go_roundw
      case rel => exact ⟨trivial, j + 1, by omega, by go_num⟩
      case measure => simp [intOf]; omega
    · obtain rfl : j = s.size := by omega
      have d1 := HD.out s.size (bv 0) (by rw [List.getElem?_map, Hend.out]; rfl)
      unfold bv at d1
      have hy : ((((0 : UInt8).toNat : Nat) : Int) == 0) = true := rfl
      go_wp2_with fail
      go_ret
      exact ⟨rfl, rfl⟩

/-- A read that its bytes are there for. -/
theorem full_ok {tid fid z : Nat} {X : Nat → Prop} {St : World → List UInt8 → Prop} (R : RdK tid fid z X St) (w : World) (l rest : List UInt8) (g off m cP : Nat) (cur : List Value) (hst : St w (l ++ rest)) (hl : l.length = m) (hg : Cs w g cur.toArray) (hgX : ¬ X g) (hm : m ≤ 4000) (hfit : off + m ≤ cur.length) (hc : m ≤ cP) (hcm : cP ≤ maxLen) :
    Calls Try.prog 92 #[.iface tid (.pointer (some ⟨z, 0, none⟩)), .slice (some ⟨g, off, none⟩) m cP] w fun e w' => e = .returned (.tuple #[.int .i64 m, .nilIface]) ∧ St w' rest ∧ Cs w' g (splice cur off (l.map bv)).toArray ∧ Fr w.heap.size (fun k => k = g ∨ X k) w w' := by
  refine (full_walk R w (l ++ rest) g off m cP cur hst hg hgX hm hfit hc hcm).mono ?_
  rintro e w1 ⟨l2, rest2, hr, hs, hc2, hf, ⟨hl2, rfl⟩ | ⟨hlt, -⟩⟩
  · obtain ⟨e1, e2⟩ := List.append_inj hr (by omega)
    subst e1 e2
    exact ⟨rfl, hs, hc2, hf⟩
  · simp at hlt; omega

section
variable {a b bb lr r : Nat} {dk : Nat → Prop} {A : Option Addr} {c : Nat} {dt : List UInt8} {tot : Nat}

theorem readByte_walk (w : World) (x : UInt8) (rest : List UInt8) (h : ASt a b bb lr r dk A c dt tot w (x :: rest)) :
    Calls Try.prog 89 #[.pointer (some ⟨a, 0, none⟩)] w fun e w' => e = .returned (.tuple #[bv x, .nilIface]) ∧ ASt a b bb lr r dk A c dt tot w' rest ∧ Fr w.heap.size (AX a b bb lr r dk) w w' := by
  have R := al_rdk a b bb lr r dk A c dt tot
  have hXw := R.xl w _ h
  have hmk : ∀ w : World, (Instr.makeSlice 24 (.int .i64 1) (.int .i64 1)).run Try.prog w = .ok (.slice (some ⟨w.heap.size, 0, none⟩) 1 1) (w.alloc (.cells #[.int .u8 0] 5)) := fun w => by
    have := make5 w 1 (by omega)
    exact this
  obtain ⟨w0, hw0⟩ : ∃ w0, w0 = w.alloc (.cells #[.int .u8 0] 5) := ⟨_, rfl⟩
  have hb0 : Below w.heap.size w w0 := by rw [hw0]; exact (Below.refl _ _).alloc (Nat.le_refl _) _
  have H := Lib.hid (full_ok R w0 [x] rest w.heap.size 0 1 1 [.int .u8 0] (R.keep _ _ _ h (fun k hk => hb0.block k (hXw k hk))) rfl (by rw [hw0]; exact Cs.new w _ _) (fun hX => by have := hXw _ hX; omega) (by omega) (by simp) (by omega) (by simp [maxLen]))
  have HW := Lib.hid hw0
  have HC := Lib.hid (And.intro hb0 hXw)
  have hz0 : w0.heap.size = w.heap.size + 1 := by rw [hw0]; simp
  have HZ := Lib.hid hz0
  clear h R hw0 hb0 hXw hz0
  go_enter Try.func89, Try.ntmps89
  go_wp2_with fail
  rw [← HW.out]
  refine H.out.mono ?_
  rintro e w1 ⟨rfl, h1, h2, h3⟩
  have c0 : w1.cell? ⟨w.heap.size, 0, none⟩ = some (bv x) := (h2.cell 0).trans rfl
  have HF := Lib.hid (And.intro h1 h3)
  unfold bv at *
  clear h1 h2 h3
  go_wp2_with fail
  go_ret2
  refine ⟨rfl, HF.out.1, (Fr.of_below HC.out.1).trans (HF.out.2.mono (by rw [HZ.out]; omega) (fun k hk hX => hX.elim (fun e => by omega) id))⟩

set_option maxRecDepth 20000 in
theorem al_align (w : World) (l rest : List UInt8) (h : ASt a b bb lr r dk A c dt tot w (l ++ rest)) (hl : (tot - (l ++ rest).length + l.length) % 4 = 0) (hl4 : l.length < 4) :
    Calls Try.prog 93 #[.pointer (some ⟨a, 0, none⟩), .int .i64 4] w fun e w' => (∃ p, e = .returned (.tuple #[p, .nilIface])) ∧ ASt a b bb lr r dk A c dt tot w' rest ∧ Fr w.heap.size (AX a b bb lr r dk) w w' := by
  have R := al_rdk a b bb lr r dk A c dt tot
  have hXw := R.xl w _ h
  have hrt := h.2.2.1
  have htt := h.2.2.2.2
  obtain ⟨p, hp⟩ : ∃ p, p = tot - (l ++ rest).length := ⟨_, rfl⟩
  have c1 : w.cell? ⟨a, 1, none⟩ = some (.int .i64 p) := by rw [hp]; exact (h.1.cell 1).trans rfl
  rw [← hp] at hl
  have hpm : ((p : Int)).tmod 4 = ((p % 4 : Nat) : Int) := by rw [Int.tmod_eq_emod_of_nonneg (by omega)]; omega
  obtain ⟨m, hm⟩ : ∃ m, m = l.length := ⟨_, rfl⟩
  by_cases h0 : p % 4 = 0
  · have hl0 : l = [] := List.length_eq_zero_iff.1 (by omega)
    subst hl0
    rw [h0] at hpm
    have HH := Lib.hid h
    clear h R hXw hl hp hrt
    go_enter Try.func93, Try.ntmps93
    go_wp2_with fail
    go_ret2
    have hb : Below w.heap.size w (w.alloc (.cells #[] 5)) := (Below.refl _ _).alloc (Nat.le_refl _) _
    have R := al_rdk a b bb lr r dk A c dt tot
    exact ⟨⟨_, rfl⟩, R.keep _ _ _ HH.out (fun k hk => hb.block k (R.xl w _ HH.out k hk)), Fr.of_below hb⟩
  · have hpe : p % 4 + m = 4 := by omega
    have hwr : IntKind.i64.wrap (4 - ((p % 4 : Nat) : Int)) = (m : Int) := by
      have e : (4 : Int) - ((p % 4 : Nat) : Int) = (m : Int) := by omega
      rw [e]; simp only [IntKind.wrap, IntKind.bits, IntKind.signed]; simp; omega
    have hpn : ¬ (p : Int).tmod 4 = 0 := by rw [hpm]; omega
    obtain ⟨q, hq⟩ : ∃ q, q = p % 4 := ⟨_, rfl⟩
    rw [← hq] at hpm hwr hpe h0
    have hq0 : ((q : Int) == 0) = false := by simp; omega
    have hpq : (p : Int) % 4 = (q : Int) := by omega
    have hmk := make5 w m (by omega)
    obtain ⟨B, hB⟩ : ∃ B, B = Array.replicate m (Value.int .u8 0) := ⟨_, rfl⟩
    rw [← hB] at hmk
    obtain ⟨w0, hw0⟩ : ∃ w0, w0 = w.alloc (.cells B 5) := ⟨_, rfl⟩
    have hb0 : Below w.heap.size w w0 := by rw [hw0]; exact (Below.refl _ _).alloc (Nat.le_refl _) _
    have H := Lib.hid (full_ok R w0 l rest w.heap.size 0 m m (List.replicate m (.int .u8 0)) (R.keep _ _ _ h (fun k hk => hb0.block k (hXw k hk))) hm.symm (by rw [hw0, hB, ← List.toArray_replicate]; exact Cs.new w _ _) (fun hX => by have := hXw _ hX; omega) (by omega) (by simp) (by omega) (by simp [maxLen]; omega))
    have HW := Lib.hid hw0
    have hz0 : w0.heap.size = w.heap.size + 1 := by rw [hw0]; simp
    have HC := Lib.hid (And.intro hb0 (And.intro hXw hz0))
    have hm0 : (0 : Int) ≤ (m : Int) := by omega
    have Hm := Lib.hid hm
    clear h R hw0 hb0 hXw hz0 hl hp hrt hB hm hq hpn
    go_enter Try.func93, Try.ntmps93
    go_wp2_with fail
    rw [← HW.out]
    refine H.out.mono ?_
    rintro e w1 ⟨rfl, h1, h2, h3⟩
    have HF := Lib.hid (And.intro h1 h3)
    clear h1 h2 h3
    go_wp2_with fail
    go_ret2
    refine ⟨⟨_, rfl⟩, HF.out.1, (Fr.of_below HC.out.1).trans (HF.out.2.mono (by rw [HC.out.2.2]; omega) (fun k hk hX => hX.elim (fun e => by omega) id))⟩
end
end Go.Proofs.Ytlbhadggfipckaa

set_option linter.unusedVariables false
set_option linter.unusedSimpArgs false
namespace Go.Proofs.Ytlbhadggfipckaa
open Go.RowKit

theorem make5u (w : World) (n : Nat) (hn : n ≤ 1000000) : (Instr.makeSlice 24 (.int .u32 (n : Int)) (.int .u32 (n : Int))).run Try.prog w = .ok (.slice (some ⟨w.heap.size, 0, none⟩) n n) (w.alloc (.cells (Array.replicate n (.int .u8 0)) 5)) := by
  have h := make5 w n hn
  exact h

def StrPost (w : World) (f r : Nat) (dk : Nat → Prop) (A : Option Addr) (c : Nat) (dt strs : List UInt8) (e : Ending) (w' : World) : Prop :=
  ∃ g, w.heap.size ≤ g ∧ e = .returned (.tuple #[.slice (some ⟨g, 0, none⟩) strs.length strs.length, .nilIface]) ∧ Cs w' g (strs.map bv).toArray ∧ (∃ i, BR w' r dk A c dt i) ∧ Fr w.heap.size (· = r) w w'

set_option maxRecDepth 20000 in
theorem strings_walk (w : World) (f r : Nat) (dk : Nat → Prop) (A : Option Addr) (c : Nat) (dt : List UInt8) (i : Nat) (h : BR w r dk A c dt i) (n0 n1 n2 n3 n4 n5 n6 n7 n9 : Nat) (s p : Value) (strs : List UInt8) (hf : Cs w f (fdtC n0 n1 n2 n3 n4 n5 n6 n7 strs.length n9 s p)) (hfr : f ≠ r) (hfd : ¬ dk f)
    (hdt : dt.drop n3 = strs) (hsl : strs.length ≤ 100000) (hs0 : strs ≠ []) :
    Calls Try.prog 82 #[.pointer (some ⟨f, 0, none⟩), .iface 142 (.pointer (some ⟨r, 0, none⟩))] w (StrPost w f r dk A c dt strs) := by
  have hm := m142s
  have hnl := n142s
  have hmr := m142r
  have hnr := n142r
  have hmf : ∀ (fn : Fn) (first cap : Array Value) (w : World), (Instr.makeFunc fn first cap).run Try.prog w = .ok (.func fn first cap) w := fun _ _ _ _ => rfl
  have hsm := h.sm
  have hfl := hf.lt
  have hn3 : n3 < dt.length := by
    rcases Nat.lt_or_ge n3 dt.length with h1 | h1
    · exact h1
    · exact absurd (by rw [← hdt, List.drop_eq_nil_of_le h1]) hs0
  obtain ⟨n8, hn8⟩ : ∃ n8, n8 = strs.length := ⟨_, rfl⟩
  rw [← hn8] at hf hsl
  have c3 : w.cell? ⟨f, 3, none⟩ = some (.int .u32 (n3 : Nat)) := (hf.cell 3).trans rfl
  have hwro : IntKind.i64.wrap (n3 : Int) = (n3 : Int) := by simp only [IntKind.wrap, IntKind.bits, IntKind.signed]; simp; omega
  have hmk := fun w => make5u w n8 (by omega)
  have hB : ∃ B : Array Value, B = Array.replicate n8 (Value.int .u8 0) := ⟨_, rfl⟩
  obtain ⟨B, hB⟩ := hB
  rw [← hB] at hmk
  have Hh := Lib.hid (And.intro h (And.intro hf (And.intro hdt (And.intro hB hn8))))
  clear h hf hdt hB hn8
  go_enter Try.func82, Try.ntmps82
  go_wp2_with fail
  refine wp_region_plan (fun w' => w'.cell? ⟨f, 3, none⟩ = some (.int .u32 (n3 : Nat))) 14 (.quiet 0 (.quiet 1 (.quiet 2 (.quiet 3 (.quiet 4 (.quiet 5 (.quiet 6 (.quiet 7 (.quiet 8 (.quiet 9 (.eff 10 (.quiet 11 (.quiet 12 (.quiet 13 (.eff 14 .done))))))))))))))) (by kernel_rfl) (by kernel_rfl) c3 ?_
  simp only [planO, opAt, List.getElem?_toArray, List.getElem?_cons_zero, List.getElem?_cons_succ, Option.getD_some, Nat.reduceBEq]
  iterate 10
    refine' SeqT.quiet (by rfl) ?_ ?_
    rotate_left
    · rintro w' hS1
      go_simp
      try with_reducible rfl
    try simp only [Act.put, List.setIfInBounds_toArray, List.set_cons_zero, List.set_cons_succ]
  refine SeqT.eff ?_ ?_
  · rfl
  intro K hK
  go_simp
  refine (seek_walk w.drew r dk A c dt i n3 (Hh.out.1.keep rfl (fun k hk => rfl))).mono ?_
  rintro e w1 ⟨rfl, hb1, hf1⟩
  have x3 : w1.cell? ⟨f, 3, none⟩ = some (.int .u32 (n3 : Nat)) := (hf1.cell (by exact hfl) hfr).trans c3
  refine hK.out _ _ (.inr x3) ?_
  clear hK K
  try simp only [Act.put, List.setIfInBounds_toArray, List.set_cons_zero, List.set_cons_succ]
  iterate 3
    refine' SeqT.quiet (by rfl) ?_ ?_
    rotate_left
    · rintro w' hS1
      go_simp
      try with_reducible rfl
    try simp only [Act.put, List.setIfInBounds_toArray, List.set_cons_zero, List.set_cons_succ]
  refine SeqT.last ?_ ?_
  · rfl
  intro K hK
  go_simp
  refine hK.out _ _ ?_
  clear hK K
  have hq1 := Hh.out.2.1.drew.fr2 hf1 hfr
  have k8 : w1.cell? ⟨f, 8, none⟩ = some (.int .u32 (n8 : Nat)) := (hq1.cell 8).trans rfl
  have hs1 : w.heap.size ≤ w1.heap.size := hf1.size
  obtain ⟨w2, hw2⟩ : ∃ w2, w2 = w1.alloc (.cells B 5) := ⟨_, rfl⟩
  have hb2 : BR w2 r dk A c dt n3 := by
    rw [hw2]
    exact hb1.keep (Below.heap_alloc _ _ _ hb1.cs.lt) (fun k hk => Below.heap_alloc _ _ _ (hb1.dl k hk))
  have HR := Lib.hid (br_read w2 r dk A c dt n3 hb2 w1.heap.size 0 n8 n8 (List.replicate n8 (.int .u8 0)) (by rw [hw2, Hh.out.2.2.2.1, ← List.toArray_replicate]; exact Cs.new w1 _ _) (fun e => by have := hb1.cs.lt; omega) (fun e => by have := hb1.dl _ e; omega) (by simp) (by omega) (by omega))
  have HW := Lib.hid hw2
  have HF := Lib.hid (show Fr w.heap.size (· = r) w w2 by rw [hw2]; exact (((Fr.refl w.heap.size (· = r) w).drew).trans (hf1.mono (Nat.le_refl _) (fun _ _ h => h))).alloc hs1 _)
  have hz2 : w2.heap.size = w1.heap.size + 1 := by rw [hw2]; simp
  clear hb1 hf1 x3 c3 hq1 hb2 hw2
  go_wp2_with fail
  rw [← HW.out]
  refine HR.out.mono ?_
  rintro e w3 ⟨l, hl, rfl, hb3, hc3, hf3⟩
  rw [if_pos hn3]
  have hls : l = strs := by rw [hl, Hh.out.2.2.1, List.take_of_length_le (by rw [← Hh.out.2.2.2.2]; exact Nat.le_refl _)]
  have hsp : splice (List.replicate n8 (Value.int .u8 0)) 0 (l.map bv) = strs.map bv := by
    rw [hls]
    unfold splice
    simp [Hh.out.2.2.2.2]
  rw [hsp] at hc3
  have HFIN := Lib.hid (show StrPost w f r dk A c dt strs (.returned (.tuple #[.slice (some ⟨w1.heap.size, 0, none⟩) n8 n8, .nilIface])) w3 from
    ⟨w1.heap.size, hs1, by rw [Hh.out.2.2.2.2], hc3, ⟨_, hb3⟩, HF.out.trans (hf3.mono (by omega) (fun k hk hX => hX.elim (fun e => by omega) id))⟩)
  clear hl hls hsp hb3 hc3 hf3
  go_wp2_with fail
  go_ret2
  exact HFIN.out
end Go.Proofs.Ytlbhadggfipckaa

set_option linter.unusedVariables false
set_option linter.unusedSimpArgs false
namespace Go.Proofs.Ytlbhadggfipckaa
open Go.RowKit

def ptr (b : Nat) : Value := .pointer (some ⟨b, 0, none⟩)

/-- A row whose block has the colour c. -/
def RowC (w : World) (col : Nat → Nat) (c : Nat) (e : TypeId) (size : Nat) (v : Value) (n : Nat) (xs : List Value) : Prop := w.ownsRow 0 e size v n xs ∧ ∀ g, v.ownBlock = some g → col g = c

theorem RowC.keep {w w' : World} {col col' : Nat → Nat} {c : Nat} {e : TypeId} {size : Nat} {v : Value} {n : Nat} {xs : List Value} (h : RowC w col c e size v n xs) (hk : ∀ k, col k = c → col' k = c ∧ w'.heap[k]? = w.heap[k]?) : RowC w' col' c e size v n xs :=
  ⟨own_keep h.1 fun g hg => (hk g (h.2 g hg)).2, fun g hg => (hk g (h.2 g hg)).1⟩

/-- An open node: read of it, and left of it. -/
structure Fra where
  b : Nat
  nm : ByteArray
  ps : List Pr
  ks : List LT
  rp : List Pr
  rk : List Nd

def Done (col : Nat → Nat) : Nat → Prop := fun k => col k = 0

/-- The open node f in memory; ch: the open child. -/
def FraC (w : World) (col : Nat → Nat) (d : Nat) (f : Fra) (ch : List Nat) : Prop :=
  ∃ vp vk ts, col f.b = 3 * d + 4 ∧ Cs w f.b #[.string f.nm, vp, vk] ∧ RowC w col (3 * d + 5) 70 2 vp f.ps.length (ts.flatMap duo) ∧ Each (PrC w (Done col)) f.ps ts ∧
    RowC w col (3 * d + 6) 87 1 vk (f.ks.map LT.b ++ ch).length ((f.ks.map LT.b ++ ch).map ptr) ∧ ∀ k ∈ f.ks, PN w (Done col) k

theorem FraC.keep {w w' : World} {col col' : Nat → Nat} {d : Nat} {f : Fra} {ch : List Nat} (h : FraC w col d f ch) (hk : ∀ k, (col k = 0 ∨ 3 * d + 4 ≤ col k ∧ col k ≤ 3 * d + 6) → col' k = col k ∧ w'.heap[k]? = w.heap[k]?) : FraC w' col' d f ch := by
  obtain ⟨vp, vk, ts, h1, h2, h3, h4, h5, h6⟩ := h
  have hs : Same (Done col) w w' := fun k hd => (hk k (.inl hd)).2
  have ho : ∀ k, Done col k → Done col' k := fun k hd => (hk k (.inl hd)).1.trans hd
  have hc : ∀ x, 3 * d + 4 ≤ x → x ≤ 3 * d + 6 → ∀ k, col k = x → col' k = x ∧ w'.heap[k]? = w.heap[k]? := fun x hx hx2 k hd => ⟨(hk k (.inr ⟨by omega, by omega⟩)).1.trans hd, (hk k (.inr ⟨by omega, by omega⟩)).2⟩
  exact ⟨vp, vk, ts, (hc _ (by omega) (by omega) _ h1).1, h2.keep (hc _ (by omega) (by omega) _ h1).2, h3.keep (hc _ (by omega) (by omega)), h4.imp fun _ _ h => h.mono hs ho, h5.keep (hc _ (by omega) (by omega)), fun k hk => (h6 k hk).mono hs ho⟩

def Spine (w : World) (col : Nat → Nat) : List Nat → List Fra → Prop
  | _, [] => True
  | ch, f :: fs => FraC w col fs.length f ch ∧ Spine w col [f.b] fs

theorem Spine.keep {w w' : World} {col col' : Nat → Nat} : ∀ {fs : List Fra} {ch : List Nat}, Spine w col ch fs → (∀ k, (col k = 0 ∨ 4 ≤ col k ∧ col k < 3 * fs.length + 4) → col' k = col k ∧ w'.heap[k]? = w.heap[k]?) → Spine w' col' ch fs
  | [], _, _, _ => trivial
  | f :: fs, ch, h, hk => ⟨h.1.keep fun k hd => hk k (hd.imp id fun e => ⟨by omega, by have := e.2; simp; omega⟩), h.2.keep fun k hd => hk k (hd.imp id fun e => ⟨e.1, by have := e.2; simp; omega⟩)⟩

/-- The state of the stack and of the open nodes; W: the heap's size ahead of the loop. -/
structure Loo (W : Nat) (w : World) (col : Nat → Nat) (st : Value) (fs : List Fra) : Prop where
  new : ∀ k, w.heap.size ≤ k → col k = 1
  old : ∀ k, k < W → col k = 1
  stk : RowC w col 3 87 1 st fs.length ((fs.map Fra.b).reverse.map ptr)
  sp : Spine w col [] fs

theorem Loo.keep {W : Nat} {w w' : World} {col : Nat → Nat} {st : Value} {fs : List Fra} (h : Loo W w col st fs) (hs : w.heap.size ≤ w'.heap.size) (hk : ∀ k, W ≤ k → k < w.heap.size → col k ≠ 1 → w'.heap[k]? = w.heap[k]?) : Loo W w' col st fs := by
  have key : ∀ k, col k ≠ 1 → w'.heap[k]? = w.heap[k]? := fun k hc => hk k (by
    rcases Nat.lt_or_ge k W with h1 | h1
    · exact absurd (h.old k h1) hc
    · exact h1) (by
    rcases Nat.lt_or_ge k w.heap.size with h1 | h1
    · exact h1
    · exact absurd (h.new k h1) hc) hc
  exact ⟨fun k hk => h.new k (by omega), h.old, h.stk.keep fun k hc => ⟨hc, key k (by omega)⟩, h.sp.keep fun k hc => ⟨rfl, key k (by omega)⟩⟩

/-- A frame and a step that leaves the coloured blocks alone. -/
theorem Loo.fr {W : Nat} {w w' : World} {col : Nat → Nat} {st : Value} {fs : List Fra} {X : Nat → Prop} (h : Loo W w col st fs) (hf : Fr w.heap.size X w w') (hX : ∀ k, X k → k < W ∨ col k = 1) : Loo W w' col st fs :=
  h.keep hf.size fun k h1 h2 hc => hf.block k h2 fun hx => by rcases hX k hx with h | h; omega; exact hc h

def paint (col : Nat → Nat) (o : Option Nat) (c : Nat) : Nat → Nat := fun k => if some k = o then c else col k

theorem paint_some (col : Nat → Nat) (g c k : Nat) : paint col (some g) c k = if k = g then c else col k := by
  unfold paint
  by_cases h : k = g
  · rw [if_pos h, if_pos (by rw [h])]
  · rw [if_neg h, if_neg (by simpa using h)]

/-! Trees that the open nodes make. -/
def plug : List Fra → Nd → Nd
  | [], n => n
  | f :: fs, n => plug fs (.mk f.nm (f.ps ++ f.rp) (eraseL f.ks ++ n :: f.rk))

def whole : List Fra → Nd
  | [] => .mk ⟨#[]⟩ [] []
  | f :: fs => plug fs (.mk f.nm (f.ps ++ f.rp) (eraseL f.ks ++ f.rk))

/-- The block of the outermost open node. -/
def bot : List Fra → Nat
  | [] => 0
  | [f] => f.b
  | _ :: f :: fs => bot (f :: fs)

theorem bot_cons (f g : Fra) (fs : List Fra) : bot (f :: g :: fs) = bot (g :: fs) := rfl
theorem bot_head (f f' : Fra) (fs : List Fra) (h : f.b = f'.b) : bot (f :: fs) = bot (f' :: fs) := by
  cases fs with
  | nil => exact h
  | cons g gs => rfl

theorem eraseL_snocF (ks : List LT) (x : LT) : eraseL (ks ++ [x]) = eraseL ks ++ [x.erase] := by simp [eraseL_eq]

def AscZ (s : ByteArray) : Prop := s.size ≤ 31 ∧ ∀ k, ∀ h : k < s.size, s[k] ≠ 0 ∧ s[k].toNat < 128

theorem AscZ.of_name {s : ByteArray} (h : NameP s) : AscZ s := ⟨h.2.2, fun k hk => by
  have h1 := (h.1 k hk).1
  have h2 := (h.1 k hk).2
  refine ⟨fun e => ?_, by omega⟩
  rw [e] at h1
  exact absurd h1 (by decide)⟩

mutual
def Nd.okk : Nd → Prop
  | .mk n ps ks => AscZ n ∧ (∀ p ∈ ps, AscZ p.name) ∧ okkL ks
def okkL : List Nd → Prop
  | [] => True
  | k :: r => k.okk ∧ okkL r
end

theorem okkL_append : ∀ (a b : List Nd), okkL (a ++ b) ↔ okkL a ∧ okkL b
  | [], b => by simp [okkL]
  | p :: a, b => by simp [okkL, okkL_append a b, and_assoc]

mutual
theorem Nd.okk_of_proper : ∀ n : Nd, n.proper → n.okk
  | .mk n ps ks, h => by
    simp only [Nd.proper] at h
    exact ⟨.of_name h.1, fun p hp => .of_name (h.2.1 p hp), okkL_of_proper ks h.2.2⟩
theorem okkL_of_proper : ∀ ks : List Nd, properL ks → okkL ks
  | [], _ => trivial
  | k :: r, h => by
    simp only [properL] at h
    exact ⟨Nd.okk_of_proper k h.1, okkL_of_proper r h.2⟩
end

theorem root_okk {n : Nd} (h : ProperR true n) : n.okk := by
  obtain ⟨name, ps, ks⟩ := n
  simp only [ProperR, if_true] at h
  refine ⟨?_, fun p hp => .of_name (h.2.1 p hp), okkL_of_proper ks h.2.2⟩
  rw [h.1]
  exact ⟨by simp [ByteArray.size], fun k hk => absurd hk (Nat.not_lt_zero k)⟩

theorem plug_okk : ∀ (fs : List Fra) (n : Nd), (plug fs n).okk → n.okk
  | [], n, h => h
  | f :: fs, n, h => by
    have := plug_okk fs _ h
    simp only [Nd.okk, okkL_append, okkL] at this
    exact this.2.2.2.1

theorem plug_cost : ∀ (fs : List Fra) (n : Nd), n.costQ + 8 * fs.length ≤ (plug fs n).costQ
  | [], n => by simp [plug]
  | f :: fs, n => by
    have := plug_cost fs (.mk f.nm (f.ps ++ f.rp) (eraseL f.ks ++ n :: f.rk))
    simp only [Nd.costQ, costQL_append, costQL] at this
    simp only [plug, List.length_cons]
    omega

theorem costQP_len (ps : List Pr) : 8 * ps.length ≤ costQP ps := by
  induction ps with
  | nil => simp
  | cons p r ih => simp only [costQP, List.length_cons]; omega
theorem costQL_len (ks : List Nd) : 8 * ks.length ≤ costQL ks := by
  induction ks with
  | nil => simp
  | cons p r ih => obtain ⟨n, ps, k⟩ := p; simp only [costQL, Nd.costQ, List.length_cons]; omega

/-- What is known of the innermost open node. -/
theorem whole_facts {f : Fra} {fs : List Fra} {root : Nd} (h : whole (f :: fs) = root) (hr : root.okk) (hc : root.costQ ≤ 2000) :
    AscZ f.nm ∧ (∀ p ∈ f.ps ++ f.rp, AscZ p.name) ∧ okkL f.rk ∧ f.ps.length + f.rp.length ≤ 250 ∧ f.ks.length + f.rk.length ≤ 250 ∧ fs.length ≤ 250 ∧ costQP f.rp ≤ 2000 := by
  subst h
  have h1 := plug_okk fs _ hr
  have h2 := plug_cost fs (.mk f.nm (f.ps ++ f.rp) (eraseL f.ks ++ f.rk))
  have h3 := costQP_len (f.ps ++ f.rp)
  have h4 := costQL_len (eraseL f.ks ++ f.rk)
  simp only [Nd.okk, okkL_append] at h1
  simp only [Nd.costQ] at h2
  simp only [whole] at hc
  rw [costQP_append] at h2 h3
  have hel : (eraseL f.ks).length = f.ks.length := by rw [eraseL_eq, List.length_map]
  rw [List.length_append, hel] at h4
  rw [List.length_append] at h3
  exact ⟨h1.1, h1.2.1, h1.2.2.2, by omega, by omega, by omega, by omega⟩

/-! The bytes that are left. -/
def Rem (strs : List UInt8) (nop : Nat) : List Fra → List UInt8 → Prop
  | [], l => l = tok nop 9
  | f :: fs, l => ∃ bp bk more, EncP strs nop f.rp bp ∧ EncL strs nop f.rk bk ∧ Rem strs nop fs more ∧ l = bp ++ bk ++ tok nop 2 ++ more

theorem nops_add (i j : Nat) : nops (i + j) = nops i ++ nops j := by
  induction j with
  | zero => simp [nops]
  | succ j ih => rw [← Nat.add_assoc, nops_succ, ih, nops_succ, List.append_assoc]

/-- The next token. -/
theorem next_tok {nop i : Nat} {n : Int} {rest more : List UInt8} (h : tok nop n ++ more = nops i ++ rest) (hi : i ≤ nop) :
    (i < nop ∧ ∃ r, rest = be4 4 ++ r ∧ tok nop n ++ more = nops (i + 1) ++ r) ∨ rest = be4 n ++ more := by
  have e : tok nop n = nops nop ++ be4 n := rfl
  rw [e] at h ⊢
  obtain ⟨j, rfl⟩ := Nat.exists_eq_add_of_le hi
  rw [nops_add, List.append_assoc, List.append_assoc] at h
  have h := (List.append_right_inj _).1 h
  cases j with
  | zero => exact .inr (by simpa [nops] using h.symm)
  | succ j =>
    refine .inl ⟨by omega, nops j ++ (be4 n ++ more), ?_, ?_⟩
    · rw [← h, Nat.add_comm j 1, nops_add]
      simp [nops]
    · rw [show i + (j + 1) = (i + 1) + j by omega, nops_add (i + 1) j]
      simp only [List.append_assoc]

inductive Pha (strs : List UInt8) (nop : Nat) (root : Nd) (w : World) (col : Nat → Nat) : List Fra → Value → List UInt8 → Prop
  | start {st : List UInt8} (h : EncN strs nop root st) : Pha strs nop root w col [] (.pointer none) (st ++ tok nop 9)
  | mid {f : Fra} {fs : List Fra} {full : List UInt8} (h : Rem strs nop (f :: fs) full) (hw : whole (f :: fs) = root) : Pha strs nop root w col (f :: fs) (ptr (bot (f :: fs))) full
  | fin {lt : LT} (h : PN w (Done col) lt) (he : lt.erase = root) : Pha strs nop root w col [] (ptr lt.b) (tok nop 9)

theorem Pha.keep {strs : List UInt8} {nop : Nat} {root : Nd} {w w' : World} {col : Nat → Nat} {fs : List Fra} {pv : Value} {full : List UInt8} (h : Pha strs nop root w col fs pv full) (hs : Same (Done col) w w') : Pha strs nop root w' col fs pv full := by
  cases h with
  | start h => exact .start h
  | mid h hw => exact .mid h hw
  | fin h he => exact .fin (h.mono hs fun _ h => h) he

/-- Nothing of the right kind is ever left behind a token: each way begins with a token. -/
theorem Pha.tok {strs : List UInt8} {nop : Nat} {root : Nd} {w : World} {col : Nat → Nat} {fs : List Fra} {pv : Value} {full : List UInt8} (h : Pha strs nop root w col fs pv full) : ∃ n more, full = Ytlbhadggfipckaa.tok nop n ++ more := by
  cases h with
  | start h =>
    cases h with
    | mk hp hk => exact ⟨1, _, by simp only [List.append_assoc]; rfl⟩
  | @mid f fs full h hw =>
    obtain ⟨bp, bk, more, h1, h2, h3, rfl⟩ := h
    generalize f.rp = rp at h1
    generalize f.rk = rk at h2
    cases h1 with
    | cons h hr => exact ⟨3, _, by simp only [List.append_assoc]; rfl⟩
    | nil =>
      cases h2 with
      | nil => exact ⟨2, _, by simp only [List.append_assoc, List.nil_append]; rfl⟩
      | cons h hr =>
        cases h with
        | mk hp hk => exact ⟨1, _, by simp only [List.append_assoc, List.nil_append]; rfl⟩
  | fin h he => exact ⟨9, [], by simp⟩
end Go.Proofs.Ytlbhadggfipckaa
