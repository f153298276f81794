/-
  spec.number, reader.take, reader.token, spec.text; what reader.node needs.
-/
import Derived.Test.YtlbhadggfipckaaMa14
import Derived.Test.YtlbhadggfipckaaMa01
set_option linter.unusedVariables false
set_option linter.unusedSimpArgs false
namespace Go.Proofs.Ytlbhadggfipckaa
open Go.RowKit

theorem i64_or8 (m x : Nat) (hm : m < 16777216) (hx : x < 256) : bits .or .i64 ((m : Int) * 256) (x : Int) = ((m * 256 + x : Nat) : Int) := by
  show IntKind.i64.wrap ((BitVec.ofInt 64 ((m : Int) * 256) ||| BitVec.ofInt 64 (x : Int)).toNat : Int) = _
  have h1 : (BitVec.ofInt 64 ((m : Int) * 256)).toNat = m * 256 := by rw [BitVec.toNat_ofInt]; omega
  have h2 : (BitVec.ofInt 64 (x : Int)).toNat = x := by rw [BitVec.toNat_ofInt]; omega
  rw [BitVec.toNat_or, h1, h2, nat_join 8 (m * 256) x (by omega) (by omega)]
  simp only [IntKind.wrap, IntKind.bits, IntKind.signed]
  simp
  omega

def numOf (l : List UInt8) : Nat := l.foldl (fun n x => n * 256 + x.toNat) 0

theorem numOf_snoc (l : List UInt8) (x : UInt8) : numOf (l ++ [x]) = numOf l * 256 + x.toNat := by simp [numOf]

theorem fold_lt : ∀ (l : List UInt8) (n : Nat), l.foldl (fun n x => n * 256 + x.toNat) n < (n + 1) * 256 ^ l.length
  | [], n => by simp
  | x :: l, n => by
    have h1 := fold_lt l (n * 256 + x.toNat)
    have h2 := x.toNat_lt
    have h3 : (n * 256 + x.toNat + 1) * 256 ^ l.length ≤ ((n + 1) * 256) * 256 ^ l.length := Nat.mul_le_mul_right _ (by omega)
    rw [List.foldl_cons, List.length_cons, Nat.pow_succ, Nat.mul_comm (256 ^ l.length) 256, ← Nat.mul_assoc]
    omega

theorem numOf_lt (l : List UInt8) : numOf l < 256 ^ l.length := by
  have := fold_lt l 0
  unfold numOf
  omega

theorem byteOf_nat (n k : Nat) : (byteOf (n : Int) k).toNat = n / 2 ^ k % 256 := by
  unfold byteOf
  rw [UInt8.toNat_ofNat']
  have e : ((n : Int) / 2 ^ k % 256).toNat = n / 2 ^ k % 256 := by
    have : ((n : Int) / 2 ^ k % 256) = ((n / 2 ^ k % 256 : Nat) : Int) := by simp
    rw [this, Int.toNat_natCast]
  rw [e]
  omega

theorem numOf_be4 (n : Nat) (h : n < 4294967296) : numOf (be4 (n : Int)) = n := by
  simp only [numOf, be4, List.foldl_cons, List.foldl_nil, byteOf_nat]
  omega

theorem number_walk (w : World) (A : Option Addr) (c : Nat) (l : List UInt8) (hr : Rd w A (l.map bv)) (hl : l.length ≤ 4) :
    Calls Try.prog 43 #[.slice A l.length c] w fun e w' => e = .returned (.int .i64 (numOf l)) ∧ w = w' := by
  have Hr := Lib.hid hr
  clear hr
  go_enter Try.func43, Try.ntmps43
  go_wp2_with fail
  go_loopw [8, 3] (fun i n wr => ∃ k : Nat, k ≤ l.length ∧ i = .int .i64 k ∧ n = .int .i64 (numOf (l.take k)) ∧ w = wr) (fun i _ _ => l.length - (intOf i).toNat)
  case atStart => exact ⟨0, by omega, by go_num, rfl, rfl⟩
  case round =>
    obtain ⟨k, hk, rfl, rfl, rfl⟩ := hrel
    by_cases hlt : k < l.length
    · obtain ⟨b, o, rfl, hD⟩ := rd_at Hr.out (.inl (by simp; omega))
      have d1 := hD k (bv l[k]) (by simp [hlt])
      have hn : numOf (l.take k) < 16777216 := by
        have h1 := numOf_lt (l.take k)
        rw [List.length_take, Nat.min_eq_left hk] at h1
        have h2 : (256 : Nat) ^ k ≤ 256 ^ 3 := Nat.pow_le_pow_right (by omega) (by omega)
        omega
      have hx := l[k].toNat_lt
      have hsn : numOf (l.take (k + 1)) = numOf (l.take k) * 256 + l[k].toNat := by rw [List.take_succ_eq_append_getElem hlt, numOf_snoc]
      have hor := i64_or8 (numOf (l.take k)) l[k].toNat hn (by omega)
      generalize l[k] = y at *
      unfold bv at d1
      generalize y.toNat = x at *
      generalize numOf (l.take k) = m at *
      have hx : x < 256 := by omega
      have hw2 : wrap64 (x : Int) = (x : Int) := by unfold wrap64; omega
      have hki : (0 : Int) ≤ (k : Int) := by omega
      have hw : IntKind.i64.wrap ((m : Int) * 256) = (m : Int) * 256 := by simp only [IntKind.wrap, IntKind.bits, IntKind.signed]; simp; omega
      have Hsn := Lib.hid hsn
      clear hD hsn
      go_wp2_with fail
      go_roundw
      case rel => exact ⟨k + 1, hlt, by go_num, by rw [Hsn.out]; simp, trivial⟩
      case measure => simp [intOf]; omega
    · obtain rfl : k = l.length := by omega
      rw [List.take_length]
      go_wp2_with fail
      go_ret
      exact ⟨rfl, rfl⟩

/-- The reader at block r: the structure st and the strings ss, at the place at; not bad. -/
def RS (w : World) (r : Nat) (b o c : Nat) (st : List UInt8) (A2 : Option Addr) (c2 : Nat) (ss : List UInt8) (at_ : Nat) : Prop :=
  Cs w r #[.slice (some ⟨b, o, none⟩) st.length c, .slice A2 ss.length c2, .int .i64 at_, .bool false] ∧ (∀ j u, (st.map bv)[j]? = some u → w.cell? ⟨b, o + j, none⟩ = some u) ∧ Rd w A2 (ss.map bv) ∧
    st.length ≤ c ∧ c ≤ maxLen ∧ ss.length ≤ c2 ∧ c2 ≤ maxLen ∧ b ≠ r ∧ (∀ a, A2 = some a → a.block ≠ r ∨ ss = []) ∧ st.length ≤ 10000000 ∧ ss.length ≤ 10000000

theorem rd_sub {w : World} {b o : Nat} {st : List UInt8} (h : ∀ j u, (st.map bv)[j]? = some u → w.cell? ⟨b, o + j, none⟩ = some u) (i n : Nat) : Rd w (some ⟨b, o + i, none⟩) (((st.drop i).take n).map bv) :=
  .inr ⟨b, o + i, rfl, fun j u hu => by
    have hj := (List.getElem?_eq_some_iff.1 hu).1
    simp at hj
    rw [List.getElem?_map, List.getElem?_take_of_lt (by omega), List.getElem?_drop, ← List.getElem?_map] at hu
    rw [Nat.add_assoc]
    exact h _ u hu⟩

theorem RS.step {w w' : World} {r b o c : Nat} {st : List UInt8} {A2 : Option Addr} {c2 : Nat} {ss : List UInt8} {at_ at' : Nat} (h : RS w r b o c st A2 c2 ss at_) (hf : Fr w.heap.size (· = r) w w')
    (hq : Cs w' r #[.slice (some ⟨b, o, none⟩) st.length c, .slice A2 ss.length c2, .int .i64 at', .bool false]) : RS w' r b o c st A2 c2 ss at' := by
  obtain ⟨h1, h2, h3, h4, h5, h6, h7, h8, h9, h10, h11⟩ := h
  refine ⟨hq, fun j u hu => (hf.cell (World.block_lt_of_cell? w _ (h2 j u hu)) h8).trans (h2 j u hu), ?_, h4, h5, h6, h7, h8, h9, h10, h11⟩
  rcases h3 with h3 | ⟨b2, o2, e, h3⟩
  · exact .inl h3
  · rcases h9 _ e with hne | hne
    · exact .inr ⟨b2, o2, e, fun j u hu => (hf.cell (World.block_lt_of_cell? w _ (h3 j u hu)) hne).trans (h3 j u hu)⟩
    · exact .inl (by rw [hne]; rfl)

def TakePost (w : World) (r b o c : Nat) (st : List UInt8) (A2 : Option Addr) (c2 : Nat) (ss : List UInt8) (at_ n : Nat) (e : Ending) (w' : World) : Prop :=
  (∃ A' c', e = .returned (.slice A' n c') ∧ (A' = some ⟨b, o + at_, none⟩ ∨ n = 0 ∧ A' = some ⟨b, o, none⟩) ∧ n ≤ c' ∧ c' ≤ c) ∧ RS w' r b o c st A2 c2 ss (at_ + n) ∧ Fr w.heap.size (· = r) w w'

theorem take_walk (w : World) (r b o c : Nat) (st : List UInt8) (A2 : Option Addr) (c2 : Nat) (ss : List UInt8) (at_ n : Nat) (h : RS w r b o c st A2 c2 ss at_) (hn : at_ + n ≤ st.length) :
    Calls Try.prog 62 #[.pointer (some ⟨r, 0, none⟩), .int .i64 n] w (TakePost w r b o c st A2 c2 ss at_ n) := by
  obtain ⟨h1, h2, h3, h4, h5, h6, h7, h8, h9, h10, h11⟩ := id h
  have c0 := h1.cell 0
  have c1 := h1.cell 1
  have c2' := h1.cell 2
  have f2 := h1.frozen 2
  simp at c0 c1 c2'
  simp only [maxLen] at h5
  have g1 : decide ((n : Int) < 0) = false := decide_eq_false (by omega)
  have hw : IntKind.i64.wrap ((st.length : Int) - (at_ : Int)) = (st.length : Int) - (at_ : Int) := by simp only [IntKind.wrap, IntKind.bits, IntKind.signed]; simp; omega
  have g2 : decide ((st.length : Int) - (at_ : Int) < (n : Int)) = false := decide_eq_false (by omega)
  have hw2 : IntKind.i64.wrap ((at_ : Int) + (n : Int)) = (at_ : Int) + (n : Int) := by simp only [IntKind.wrap, IntKind.bits, IntKind.signed]; simp; omega
  have Hh := Lib.hid h
  clear h h1 h2 h3 h9
  go_enter Try.func62, Try.ntmps62
  go_wp2_with fail
  go_quiet (fail)
  go_wp2_with fail
  have q3 := (Hh.out.1.drewN nq).set_ 2 (.int .i64 ((at_ : Int) + (n : Int)))
  simp only [List.setIfInBounds_toArray, List.set_cons_zero, List.set_cons_succ] at q3
  have hfr : Fr w.heap.size (· = r) w ((w.drewN nq).setCell ⟨r, 2, none⟩ (.int .i64 ((at_ : Int) + (n : Int)))) := ((Fr.refl w.heap.size (· = r) w).drewN nq).setCell (p := ⟨r, 2, none⟩) (.inr rfl) _
  generalize (w.drewN nq).setCell ⟨r, 2, none⟩ (.int .i64 ((at_ : Int) + (n : Int))) = W3 at q3 hfr ⊢
  have k0 : W3.cell? ⟨r, 0, none⟩ = some (.slice (some ⟨b, o, none⟩) st.length c) := (q3.cell 0).trans rfl
  have k2 : W3.cell? ⟨r, 2, none⟩ = some (.int .i64 ((at_ : Int) + (n : Int))) := (q3.cell 2).trans rfl
  have hw3 : IntKind.i64.wrap ((at_ : Int) + (n : Int) - (n : Int)) = (at_ : Int) := by simp only [IntKind.wrap, IntKind.bits, IntKind.signed]; simp; omega
  have i1 : (0 : Int) ≤ (at_ : Int) := by omega
  have i2 : (at_ : Int) ≤ (at_ : Int) + (n : Int) := by omega
  have i3 : (at_ : Int) + (n : Int) ≤ (c : Int) := by omega
  have Hrs := Lib.hid (fun m => Hh.out.step (hfr.drewN m) (by rw [Int.natCast_add]; exact q3.drewN m) : ∀ m, RS (W3.drewN m) r b o c st A2 c2 ss (at_ + n))
  have Hfr := Lib.hid hfr
  clear q3 hfr c0 c1 c2' f2 g1 g2 hw hw2
  go_quiet (fail)
  go_wp2_with fail
  · have e : c = at_ := by assumption
    subst e
    go_ret
    exact ⟨⟨_, _, rfl, .inr ⟨by omega, rfl⟩, by omega, by omega⟩, Hrs.out nq, Hfr.out.drewN nq⟩
  · go_ret
    exact ⟨⟨_, _, rfl, .inl rfl, by omega, by omega⟩, Hrs.out nq, Hfr.out.drewN nq⟩

theorem take_rd {w : World} {r b o c : Nat} {st : List UInt8} {A2 : Option Addr} {c2 : Nat} {ss : List UInt8} {at_ n : Nat} {A' : Option Addr} (h : RS w r b o c st A2 c2 ss at_) (hA : A' = some ⟨b, o + at_ - n, none⟩ ∧ n ≤ at_ ∨ n = 0 ∧ A' = some ⟨b, o, none⟩) : Rd w A' (((st.drop (at_ - n)).take n).map bv) := by
  obtain ⟨h1, h2, -⟩ := h
  rcases hA with ⟨rfl, hn⟩ | ⟨rfl, rfl⟩
  · rw [show o + at_ - n = o + (at_ - n) by omega]
    exact rd_sub h2 _ _
  · exact .inl (by simp)

def TokPost (w : World) (r b o c : Nat) (st : List UInt8) (A2 : Option Addr) (c2 : Nat) (ss : List UInt8) (at_ : Nat) (v : Nat) (e : Ending) (w' : World) : Prop :=
  e = .returned (.int .i64 v) ∧ RS w' r b o c st A2 c2 ss (at_ + 4) ∧ Fr w.heap.size (· = r) w w'

theorem token_walk (w : World) (r b o c : Nat) (st : List UInt8) (A2 : Option Addr) (c2 : Nat) (ss : List UInt8) (at_ : Nat) (l : List UInt8) (h : RS w r b o c st A2 c2 ss at_) (hn : at_ + 4 ≤ st.length) (hl : (st.drop at_).take 4 = l) (hv : numOf l ≠ 4) :
    Calls Try.prog 44 #[.pointer (some ⟨r, 0, none⟩)] w (TokPost w r b o c st A2 c2 ss at_ (numOf l)) := by
  have hll : l.length = 4 := by rw [← hl]; simp; omega
  have HT := Lib.hid (take_walk w r b o c st A2 c2 ss at_ 4 h hn)
  have hne : ((numOf l : Nat) : Int) ≠ 4 := by omega
  have hne2 : (((numOf l : Nat) : Int) != 4) = true := by simp; omega
  have Hl := Lib.hid hl
  clear h hl
  go_enter Try.func44, Try.ntmps44
  go_wp2_with fail
  go_loopw [3] (fun i wr => w = wr) (fun i _ => 0)
  case atStart => rfl
  case round =>
    subst hrel
    go_wp2_with fail
    refine HT.out.mono ?_
    rintro e w1 ⟨⟨A', c', rfl, hA, h1, h2⟩, hrs, hfr⟩
    have hrd : Rd w1 A' (l.map bv) := by
      have := take_rd (n := 4) hrs (A' := A') (by rcases hA with h | h; exact .inl ⟨by rw [h]; congr 1, by omega⟩; exact .inr h)
      rw [show at_ + 4 - 4 = at_ by omega, Hl.out] at this
      exact this
    have HN := Lib.hid (number_walk w1 A' c' l hrd (by omega))
    rw [hll] at HN
    have Hrs := Lib.hid (And.intro hrs hfr)
    clear hA hrs hfr hrd hll
    go_wp2_with fail
    refine HN.out.mono ?_
    rintro e w2 ⟨rfl, rfl⟩
    go_wp2_with fail
    go_ret
    exact ⟨rfl, Hrs.out.1, Hrs.out.2⟩

theorem text_walk2 (w : World) (A : Option Addr) (c : Nat) (l : List UInt8) (hr : Rd w A (l.map bv)) (hc : l.length ≤ c) (hcm : c ≤ maxLen) (hll : l.length ≤ 100000000) (at_ : Nat) (s : ByteArray) (hs : Has l at_ s) (h0 : ∀ k, ∀ h : k < s.size, s[k] ≠ 0) :
    Calls Try.prog 63 #[.slice A l.length c, .int .i64 at_] w fun e w' => e = .returned (.tuple #[.string s, .bool true]) ∧ w = w' := by
  have hlt := hs.lt
  obtain ⟨b, o, rfl, hD⟩ := rd_at hr (.inl (by simp; omega))
  simp only [maxLen] at hcm
  have hget : ∀ j (h : j < s.size), (l.map bv)[at_ + j]? = some (bv s[j]) := fun j h => by
    obtain ⟨pre, post, rfl, rfl⟩ := hs
    rw [List.getElem?_map, List.append_assoc, List.getElem?_append_right (by omega), Nat.add_sub_cancel_left, List.getElem?_append_left (by simp [bytesOf]; omega)]
    unfold bytesOf
    rw [List.getElem?_eq_getElem (by simpa using h)]
    rfl
  have hend : (l.map bv)[at_ + s.size]? = some (bv 0) := by
    obtain ⟨pre, post, rfl, rfl⟩ := hs
    rw [List.getElem?_map, List.append_assoc, List.getElem?_append_right (by omega), Nat.add_sub_cancel_left, List.getElem?_append_right (by simp [bytesOf])]
    simp [bytesOf]
  have hsub : (l.drop at_).take s.size = bytesOf s := by
    obtain ⟨pre, post, rfl, rfl⟩ := hs
    rw [List.append_assoc, List.drop_left, List.take_left']
    simp [bytesOf]
  have Hr2 : Rd w (some ⟨b, o + at_, none⟩) ((bytesOf s).map bv) := by rw [← hsub]; exact rd_sub hD _ _
  have hcv := conv_str w (some ⟨b, o + at_, none⟩) s.size (c - at_ : Nat) (bytesOf s) (bytesOf_len s).symm Hr2
  have hso : strOf (bytesOf s) = s := strOf_toList s
  rw [hso] at hcv
  have HD := Lib.hid hD
  have Hget := Lib.hid hget
  have Hend := Lib.hid hend
  have H0 := Lib.hid h0
  have hat : (0 : Int) ≤ (at_ : Int) := by omega
  have hge : decide ((0 : Int) ≤ (at_ : Int)) = true := decide_eq_true hat
  clear hr hs h0 hD hget hend hsub Hr2 hso
  go_enter Try.func63, Try.ntmps63
  go_wp2_with fail
  go_loopw [6] (fun i wr => w = wr ∧ ∃ j : Nat, at_ ≤ j ∧ j ≤ at_ + s.size ∧ i = .int .i64 j) (fun i _ => at_ + s.size - (intOf i).toNat)
  case atStart =>
    refine ⟨rfl, at_, by omega, by omega, ?_⟩
    simp
    try omega
  case round =>
    obtain ⟨rfl, j, hj0, hj, rfl⟩ := hrel
    have i0 : (0 : Int) ≤ (j : Int) := by omega
    have i1 : (j : Int) < (l.length : Int) := by omega
    by_cases hlt : j < at_ + s.size
    · have hd := HD.out _ _ (Hget.out (j - at_) (by omega))
      have h1 := H0.out (j - at_) (by omega)
      rw [show at_ + (j - at_) = j by omega] at hd
      generalize s[j - at_] = y at *
      unfold bv at hd
      have hy0 : y.toNat ≠ 0 := fun e => h1 (UInt8.toNat.inj e)
      have hyl := y.toNat_lt
      generalize y.toNat = x at *
      have hy : ((x : Int) == 0) = false := by simp; omega
      go_wp2_with fail
      go_roundw
      case rel => exact ⟨trivial, j + 1, by omega, by omega, by go_num⟩
      case measure => simp [intOf]; omega
    · have hje : at_ + s.size = j := by omega
      have hd := HD.out _ _ Hend.out
      rw [hje] at hd
      have hy : ((((0 : UInt8).toNat : Nat) : Int) == 0) = true := rfl
      unfold bv at hd
      have i2 : (at_ : Int) ≤ (j : Int) := by omega
      have i3 : (j : Int) ≤ (c : Int) := by omega
      have i4 : ¬ c = at_ := by omega
      have hsz : s.size = j - at_ := by omega
      rw [hsz] at hcv
      clear hsz hje hlt hj hj0
      go_wp2_with fail
      go_ret2
      exact ⟨rfl, rfl⟩

theorem sub_at {st pre x rest : List UInt8} (h : st = pre ++ (x ++ rest)) : (st.drop pre.length).take x.length = x := by
  rw [h, List.drop_left, List.take_left]
theorem len_at {st pre x rest : List UInt8} (h : st = pre ++ (x ++ rest)) : pre.length + x.length ≤ st.length := by
  rw [h]; simp

def zfree (s : ByteArray) : Prop := ∀ k, ∀ h : k < s.size, s[k] ≠ 0

mutual
/-- No name has a nought. -/
def Nd.zf : Nd → Prop
  | .mk n ps ks => zfree n ∧ (∀ p ∈ ps, zfree p.name) ∧ zfL ks
def zfL : List Nd → Prop
  | [] => True
  | k :: r => k.zf ∧ zfL r
end

theorem zfL_mem : ∀ {ks : List Nd}, zfL ks → ∀ k ∈ ks, k.zf
  | [], _, k, hk => by simp at hk
  | x :: r, h, k, hk => by
    simp only [zfL] at h
    rcases List.mem_cons.1 hk with rfl | hk
    · exact h.1
    · exact zfL_mem h.2 k hk

theorem zfree_of_name {s : ByteArray} (h : NameP s) : zfree s := fun k hk e => by
  have := (h.1 k hk).1
  rw [e] at this
  exact absurd this (by decide)

mutual
theorem Nd.zf_of_proper : ∀ n : Nd, n.proper → n.zf
  | .mk n ps ks, h => by
    simp only [Nd.proper] at h
    exact ⟨zfree_of_name h.1, fun p hp => zfree_of_name (h.2.1 p hp), zfL_of_proper ks h.2.2⟩
theorem zfL_of_proper : ∀ ks : List Nd, properL ks → zfL ks
  | [], _ => trivial
  | k :: r, h => by
    simp only [properL] at h
    exact ⟨Nd.zf_of_proper k h.1, zfL_of_proper r h.2⟩
end

theorem root_zf {n : Nd} (h : ProperR true n) : n.zf := by
  obtain ⟨name, ps, ks⟩ := n
  simp only [ProperR, if_true] at h
  exact ⟨fun k hk => absurd hk (by rw [h.1]; exact Nat.not_lt_zero k), fun p hp => zfree_of_name (h.2.1 p hp), zfL_of_proper ks h.2.2⟩

theorem EncL.len_ge {strs : List UInt8} {nop : Nat} : ∀ {ks : List Nd} {r : List UInt8}, EncL strs nop ks r → 8 * ks.length ≤ r.length
  | _, _, .nil => by simp
  | _, _, .cons (.mk hp hk) hr => by
    have := EncL.len_ge hr
    simp [tok, be4] at this ⊢
    omega

/-- The structure's block, and what lies behind lo, but for one row. -/
def OkN (b lo : Nat) (w' : World) (g : Option Nat) : Nat → Prop := fun k => k = b ∨ OkR lo w' g k
def OkB (b : Nat) (w w' : World) : Nat → Prop := fun k => k = b ∨ Rng w w' k

theorem rn_frame {wr w1 w2 : World} {lo q r b j : Nat} {o2 : Obj} {e : TypeId} {size n : Nat} {v v' u : Value} {xs : List Value} (hown : wr.ownsRow lo e size v n xs) (hq : q + 1 = lo) (hr : r < q) (hb : b < q) (hbr : b ≠ r) (hlo : lo ≤ wr.heap.size)
    (hf : Fr wr.heap.size (· = r) wr w1) (hgrow : (w1.alloc o2).grownBy w2 v.ownBlock) (hat : v'.ownBlock = v.ownBlock ∨ v'.ownBlock = some (w1.alloc o2).heap.size) :
    Same (OkN b lo wr v.ownBlock) wr (w2.setCell ⟨q, j, none⟩ u) ∧ (∀ k, OkN b lo wr v.ownBlock k → OkN b lo (w2.setCell ⟨q, j, none⟩ u) v'.ownBlock k) ∧ Same (OkB b wr w1) w1 (w2.setCell ⟨q, j, none⟩ u) ∧
      (∀ k, OkB b wr w1 k → OkN b lo (w2.setCell ⟨q, j, none⟩ u) v'.ownBlock k) ∧ Fr lo (fun k => k = r ∨ k = q) wr (w2.setCell ⟨q, j, none⟩ u) := by
  have s1 := hf.size
  have s2 := hgrow.size
  have s2' : (w1.alloc o2).heap.size = w1.heap.size + 1 := by simp
  have hne : ∀ k, k < lo → some k ≠ v.ownBlock := fun k hk => own_ne hown hk
  have hg0 : ∀ k, wr.heap.size ≤ k → some k ≠ v.ownBlock := fun k hk e => by
    have := (hown.lt k e.symm).2
    omega
  have hg1 : ∀ k, k < w1.heap.size → some k ≠ v.ownBlock → some k ≠ v'.ownBlock := fun k hk h1 e => by
    rcases hat with h2 | h2
    · exact h1 (e.trans h2)
    · rw [h2] at e
      injection e with e
      omega
  have k1 : ∀ k, k < w1.heap.size → k ≠ q → some k ≠ v.ownBlock → (w2.setCell ⟨q, j, none⟩ u).heap[k]? = w1.heap[k]? := fun k h1 h2 h4 => by
    rw [Below.heap_setCell _ _ _ _ h2, hgrow.block k (by omega) h4, Below.heap_alloc _ _ _ (by omega)]
  have key : ∀ k, k < wr.heap.size → k ≠ q → k ≠ r → some k ≠ v.ownBlock → (w2.setCell ⟨q, j, none⟩ u).heap[k]? = wr.heap[k]? := fun k h1 h2 h3 h4 => by
    rw [k1 k (by omega) h2 h4, hf.block k h1 h3]
  refine ⟨fun k hk => ?_, fun k hk => ?_, fun k hk => ?_, fun k hk => ?_, ?_⟩
  · rcases hk with rfl | hk
    · exact key k (by omega) (by omega) hbr (hne k (by omega))
    · exact key k hk.2.1 (by have := hk.1; omega) (by have := hk.1; omega) hk.2.2
  · rcases hk with rfl | hk
    · exact .inl rfl
    · exact .inr ⟨hk.1, by have := hk.2.1; simp [World.setCell]; omega, hg1 k (by have := hk.2.1; omega) hk.2.2⟩
  · rcases hk with rfl | hk
    · exact k1 k (by omega) (by omega) (hne k (by omega))
    · exact k1 k hk.2 (by have := hk.1; omega) (hg0 k hk.1)
  · rcases hk with rfl | hk
    · exact .inl rfl
    · exact .inr ⟨by have := hk.1; omega, by have := hk.2; simp [World.setCell]; omega, hg1 k hk.2 (hg0 k hk.1)⟩
  · refine ⟨hgrow.os.trans hf.os, hgrow.tape.trans hf.tape, hgrow.output.trans hf.output, by simp [World.setCell]; omega, fun k h1 h2 => ?_⟩
    exact key k (by omega) (fun e => h2 (.inr e)) (fun e => h2 (.inl e)) (hne k h1)

/-- The reader is as it was, where its own block is. -/
theorem RS.keep {w w' : World} {r b o c : Nat} {st : List UInt8} {A2 : Option Addr} {c2 : Nat} {ss : List UInt8} {at_ : Nat} (h : RS w r b o c st A2 c2 ss at_) (hf : Below w.heap.size w w') : RS w' r b o c st A2 c2 ss at_ :=
  h.step (Fr.of_below hf) (h.1.below hf h.1.lt)

end Go.Proofs.Ytlbhadggfipckaa
