/-
  Node.Walk over a closure.
  FDT.Write's third closure: a node's bytes are written.
-/
import Derived.Test.YtlbhadggfipckaaMa10
set_option linter.unusedVariables false
set_option linter.unusedSimpArgs false
namespace Go.Proofs.Ytlbhadggfipckaa
open Go.RowKit

mutual
/-- The nodes in the order of the walk: names and properties. -/
def LT.nodes : LT → List (ByteArray × List Pr)
  | .mk _ n ps ks => (n, ps) :: nodesL ks
def nodesL : List LT → List (ByteArray × List Pr)
  | [] => []
  | k :: r => k.nodes ++ nodesL r
end

theorem nodesL_append : ∀ (a b : List LT), nodesL (a ++ b) = nodesL a ++ nodesL b
  | [], b => by simp [nodesL]
  | k :: a, b => by simp [nodesL, nodesL_append a b]

def WalkPost (ok : Nat → Prop) (J : List (ByteArray × List Pr) → World → Prop) (vis : List (ByteArray × List Pr)) (w : World) (e : Ending) (w' : World) : Prop :=
  e = .returned .nilIface ∧ J vis w' ∧ Same ok w w'

set_option maxHeartbeats 1000000 in
theorem walk_gen68 (mv sv : Nat) (ok : Nat → Prop) (J : List (ByteArray × List Pr) → World → Prop) (all : List (ByteArray × List Pr)) (hsz : ∀ vis w, J vis w → ∀ k, ok k → k < w.heap.size)
    (hJ : ∀ (w : World) (pre post : List (ByteArray × List Pr)) (b : Nat) (name : ByteArray) (ps : List Pr) (ks : List LT), all = pre ++ (name, ps) :: post → PN w ok (.mk b name ps ks) → J pre w →
      Calls Try.prog 68 #[.pointer (some ⟨b, 0, none⟩), .pointer (some ⟨mv, 0, none⟩), .pointer (some ⟨sv, 0, none⟩)] w (WalkPost ok J (pre ++ [(name, ps)]) w))
    (lt : LT) : ∀ (w : World) (pre post : List (ByteArray × List Pr)), all = pre ++ lt.nodes ++ post → PN w ok lt → J pre w →
      Calls Try.prog 67 #[.pointer (some ⟨lt.b, 0, none⟩), .func (.func 68) #[] #[.pointer (some ⟨mv, 0, none⟩), .pointer (some ⟨sv, 0, none⟩)]] w (WalkPost ok J (pre ++ lt.nodes) w) := by
  refine LT.ind (P := fun lt => ∀ (w : World) (pre post : List (ByteArray × List Pr)), all = pre ++ lt.nodes ++ post → PN w ok lt → J pre w →
      Calls Try.prog 67 #[.pointer (some ⟨lt.b, 0, none⟩), .func (.func 68) #[] #[.pointer (some ⟨mv, 0, none⟩), .pointer (some ⟨sv, 0, none⟩)]] w (WalkPost ok J (pre ++ lt.nodes) w)) ?_ lt
  intro b name ps ks IH w pre post hall hn hj
  have hcl := hJ w pre (nodesL ks ++ post) b name ps ks (by rw [hall]; simp [LT.nodes]) hn hj
  obtain ⟨vp, A, c, hob, hns, hcs, hps, hl1, hl2, hl3, hks, hrow⟩ := hn.open_
  have Hk := Lib.hid hks
  have Hr := Lib.hid hrow
  have IH := Lib.hid IH
  have Hcs := Lib.hid hcs
  have Hcl := Lib.hid hcl
  have Hall := Lib.hid hall
  have Hsz := Lib.hid hsz
  clear hps hn hks hrow hcs hcl hJ hall hj hsz
  show Calls Try.prog 67 #[.pointer (some ⟨b, 0, none⟩), .func (.func 68) #[] #[.pointer (some ⟨mv, 0, none⟩), .pointer (some ⟨sv, 0, none⟩)]] w (WalkPost ok J (pre ++ LT.nodes (.mk b name ps ks)) w)
  go_enter Try.func67, Try.ntmps67
  go_wp2_with fail
  refine Hcl.out.mono ?_
  rintro e w1 ⟨rfl, hj, hs⟩
  have q1 := Hcs.out.keep (hs b hob)
  have c2 := q1.cell 2
  simp at c2
  have Hs := Lib.hid hs
  have Hj := Lib.hid hj
  clear hs hj q1
  go_wp2_with fail
  go_loopw [20] (fun i wr => ∃ k : Nat, k ≤ ks.length ∧ i = .int .i64 k ∧ J (pre ++ (name, ps) :: nodesL (ks.take k)) wr ∧ Same ok w wr) (fun i _ => ks.length - (intOf i).toNat)
  case atStart => exact ⟨0, by omega, by go_num, by simpa [nodesL] using Hj.out, Hs.out⟩
  case round =>
    obtain ⟨k, hk, rfl, hj, hs⟩ := hrel
    by_cases hlt : k < ks.length
    · have hne : ks ≠ [] := by rintro rfl; simp at hlt
      obtain ⟨g, o, rfl, hog, hD⟩ := Hr.out.resolve_left hne
      have d1 := hD k ks[k] (List.getElem?_eq_getElem hlt)
      rw [← hs.cell hog] at d1
      have hki : (0 : Int) ≤ (k : Int) := by omega
      have hI := IH.out ks[k] (List.getElem_mem hlt) wr (pre ++ (name, ps) :: nodesL (ks.take k)) (nodesL (ks.drop (k + 1)) ++ post) (by
        rw [Hall.out]
        have e1 : ks = ks.take k ++ ks[k] :: ks.drop (k + 1) := by simp
        have e2 : nodesL ks = nodesL (ks.take k) ++ (ks[k].nodes ++ nodesL (ks.drop (k + 1))) := by
          conv => lhs; rw [e1, nodesL_append]
          rfl
        simp only [LT.nodes]
        rw [e2]
        simp [List.append_assoc]) ((Hk.out _ (List.getElem_mem hlt)).mono hs (fun _ h => h)) hj
      have hst : (pre ++ (name, ps) :: nodesL (ks.take k)) ++ ks[k].nodes = pre ++ (name, ps) :: nodesL (ks.take (k + 1)) := by
        rw [List.take_succ_eq_append_getElem hlt, nodesL_append]
        simp [nodesL]
      rw [hst] at hI
      have HI := Lib.hid hI
      have HS := Lib.hid hs
      clear hD hI hs hst hj c2
      generalize ks[k] = kk at *
      go_wp2_with fail
      refine HI.out.mono ?_
      rintro e w2 ⟨rfl, hj, hs⟩
      have HJ := Lib.hid (And.intro hj (HS.out.trans hs))
      clear hj hs
      go_wp2_with fail
      exact ⟨⟨k + 1, by omega, by go_num, HJ.out⟩, by simp [intOf]; omega⟩
    · obtain rfl : k = ks.length := by omega
      rw [List.take_length] at hj
      have HF := Lib.hid (And.intro hj hs)
      clear hj hs c2
      go_wp2_with fail
      go_ret
      exact ⟨rfl, HF.out⟩

set_option maxHeartbeats 1000000 in
theorem walk_gen69 (fv : Nat) (ok : Nat → Prop) (J : List (ByteArray × List Pr) → World → Prop) (all : List (ByteArray × List Pr)) (hsz : ∀ vis w, J vis w → ∀ k, ok k → k < w.heap.size)
    (hJ : ∀ (w : World) (pre post : List (ByteArray × List Pr)) (b : Nat) (name : ByteArray) (ps : List Pr) (ks : List LT), all = pre ++ (name, ps) :: post → PN w ok (.mk b name ps ks) → J pre w →
      Calls Try.prog 69 #[.pointer (some ⟨b, 0, none⟩), .pointer (some ⟨fv, 0, none⟩)] w (WalkPost ok J (pre ++ [(name, ps)]) w))
    (lt : LT) : ∀ (w : World) (pre post : List (ByteArray × List Pr)), all = pre ++ lt.nodes ++ post → PN w ok lt → J pre w →
      Calls Try.prog 67 #[.pointer (some ⟨lt.b, 0, none⟩), .func (.func 69) #[] #[.pointer (some ⟨fv, 0, none⟩)]] w (WalkPost ok J (pre ++ lt.nodes) w) := by
  refine LT.ind (P := fun lt => ∀ (w : World) (pre post : List (ByteArray × List Pr)), all = pre ++ lt.nodes ++ post → PN w ok lt → J pre w →
      Calls Try.prog 67 #[.pointer (some ⟨lt.b, 0, none⟩), .func (.func 69) #[] #[.pointer (some ⟨fv, 0, none⟩)]] w (WalkPost ok J (pre ++ lt.nodes) w)) ?_ lt
  intro b name ps ks IH w pre post hall hn hj
  have hcl := hJ w pre (nodesL ks ++ post) b name ps ks (by rw [hall]; simp [LT.nodes]) hn hj
  obtain ⟨vp, A, c, hob, hns, hcs, hps, hl1, hl2, hl3, hks, hrow⟩ := hn.open_
  have Hk := Lib.hid hks
  have Hr := Lib.hid hrow
  have IH := Lib.hid IH
  have Hcs := Lib.hid hcs
  have Hcl := Lib.hid hcl
  have Hall := Lib.hid hall
  have Hsz := Lib.hid hsz
  clear hps hn hks hrow hcs hcl hJ hall hj hsz
  show Calls Try.prog 67 #[.pointer (some ⟨b, 0, none⟩), .func (.func 69) #[] #[.pointer (some ⟨fv, 0, none⟩)]] w (WalkPost ok J (pre ++ LT.nodes (.mk b name ps ks)) w)
  go_enter Try.func67, Try.ntmps67
  go_wp2_with fail
  refine Hcl.out.mono ?_
  rintro e w1 ⟨rfl, hj, hs⟩
  have q1 := Hcs.out.keep (hs b hob)
  have c2 := q1.cell 2
  simp at c2
  have Hs := Lib.hid hs
  have Hj := Lib.hid hj
  clear hs hj q1
  go_wp2_with fail
  go_loopw [20] (fun i wr => ∃ k : Nat, k ≤ ks.length ∧ i = .int .i64 k ∧ J (pre ++ (name, ps) :: nodesL (ks.take k)) wr ∧ Same ok w wr) (fun i _ => ks.length - (intOf i).toNat)
  case atStart => exact ⟨0, by omega, by go_num, by simpa [nodesL] using Hj.out, Hs.out⟩
  case round =>
    obtain ⟨k, hk, rfl, hj, hs⟩ := hrel
    by_cases hlt : k < ks.length
    · have hne : ks ≠ [] := by rintro rfl; simp at hlt
      obtain ⟨g, o, rfl, hog, hD⟩ := Hr.out.resolve_left hne
      have d1 := hD k ks[k] (List.getElem?_eq_getElem hlt)
      rw [← hs.cell hog] at d1
      have hki : (0 : Int) ≤ (k : Int) := by omega
      have hI := IH.out ks[k] (List.getElem_mem hlt) wr (pre ++ (name, ps) :: nodesL (ks.take k)) (nodesL (ks.drop (k + 1)) ++ post) (by
        rw [Hall.out]
        have e1 : ks = ks.take k ++ ks[k] :: ks.drop (k + 1) := by simp
        have e2 : nodesL ks = nodesL (ks.take k) ++ (ks[k].nodes ++ nodesL (ks.drop (k + 1))) := by
          conv => lhs; rw [e1, nodesL_append]
          rfl
        simp only [LT.nodes]
        rw [e2]
        simp [List.append_assoc]) ((Hk.out _ (List.getElem_mem hlt)).mono hs (fun _ h => h)) hj
      have hst : (pre ++ (name, ps) :: nodesL (ks.take k)) ++ ks[k].nodes = pre ++ (name, ps) :: nodesL (ks.take (k + 1)) := by
        rw [List.take_succ_eq_append_getElem hlt, nodesL_append]
        simp [nodesL]
      rw [hst] at hI
      have HI := Lib.hid hI
      have HS := Lib.hid hs
      clear hD hI hs hst hj c2
      generalize ks[k] = kk at *
      go_wp2_with fail
      refine HI.out.mono ?_
      rintro e w2 ⟨rfl, hj, hs⟩
      have HJ := Lib.hid (And.intro hj (HS.out.trans hs))
      clear hj hs
      go_wp2_with fail
      exact ⟨⟨k + 1, by omega, by go_num, HJ.out⟩, by simp [intOf]; omega⟩
    · obtain rfl : k = ks.length := by omega
      rw [List.take_length] at hj
      have HF := Lib.hid (And.intro hj hs)
      clear hj hs c2
      go_wp2_with fail
      go_ret
      exact ⟨rfl, HF.out⟩

end Go.Proofs.Ytlbhadggfipckaa

set_option linter.unusedVariables false
set_option linter.unusedSimpArgs false
namespace Go.Proofs.Ytlbhadggfipckaa
open Go.RowKit

theorem WS.below {w w' : World} {a z lo : Nat} {bs : List UInt8} (h : WS w a z lo bs) (hb : Below w.heap.size w w') : WS w' a z lo bs := by
  obtain ⟨A, c, h1, h2, h3, h4, h5, h6, h7⟩ := h
  exact ⟨A, c, h1.below hb (by omega), own_keep h2 (fun g hg => hb.block g (h2.lt g hg).2), h3.below hb (by omega), h4, h5, h6, Nat.le_trans h7 hb.size⟩

theorem WS.lo {w : World} {a z lo : Nat} {bs : List UInt8} (h : WS w a z lo bs) : lo ≤ w.heap.size := by
  obtain ⟨A, c, h1, h2, h3, h4, h5, h6, h7⟩ := h
  exact h7
theorem WS.zlt {w : World} {a z lo : Nat} {bs : List UInt8} (h : WS w a z lo bs) : z < w.heap.size := by
  obtain ⟨A, c, h1, h2, h3, h4, h5, h6, h7⟩ := h
  omega
theorem WS.alt {w : World} {a z lo : Nat} {bs : List UInt8} (h : WS w a z lo bs) : a < w.heap.size := by
  obtain ⟨A, c, h1, h2, h3, h4, h5, h6, h7⟩ := h
  omega
theorem WS.row_lt {w : World} {a z lo k : Nat} {bs : List UInt8} (h : WS w a z lo bs) (hr : RowOf w z k) : k < w.heap.size := by
  obtain ⟨A, c, h1, h2, h3, h4, h5, h6, h7⟩ := h
  obtain ⟨o, n, c', h⟩ := hr
  have c0 := (h1.cell 0).trans rfl
  rw [h] at c0
  injection c0 with c0
  injection c0 with e1 e2 e3
  subst e1
  exact (h2.lt k rfl).2

/-- Block k is no part of the writer. -/
def Out (w : World) (a z k : Nat) : Prop := k < w.heap.size ∧ k ≠ a ∧ k ≠ z ∧ ¬ RowOf w z k

theorem WS.out_new {w w' : World} {a z lo k : Nat} {bs : List UInt8} (h : WS w a z lo bs) (hb : Below w.heap.size w w') (h1 : w.heap.size ≤ k) (h2 : k < w'.heap.size) : Out w' a z k :=
  ⟨h2, by have := h.alt; omega, by have := h.zlt; omega, fun hr => by have := h.row_lt (hr.of_block (hb.block z h.zlt)); omega⟩

/-- What the writer's calls leave as it was. -/
structure Kp (a z lo : Nat) (w w' : World) : Prop where
  fr : Fr lo (fun k => k = a ∨ k = z) w w'
  kp : Keep a z w w'

section
variable {a z lo : Nat} {w w' w'' : World}
theorem Kp.refl (a z lo : Nat) (w : World) : Kp a z lo w w := ⟨Fr.refl _ _ _, Keep.refl _ _ _⟩
theorem Kp.trans (h : Kp a z lo w w') (k : Kp a z lo w' w'') : Kp a z lo w w'' := ⟨h.fr.trans k.fr, h.kp.trans k.kp h.fr.size⟩
theorem Kp.of_below (hb : Below w.heap.size w w') (hz : z < w.heap.size) (hl : lo ≤ w.heap.size) : Kp a z lo w w' := ⟨Fr.of_below (hb.mono hl), Keep.below hb hz⟩
theorem Kp.eq (h : Kp a z lo w w') {k : Nat} (ho : Out w a z k) : w'.heap[k]? = w.heap[k]? := (h.kp k ho.1 ho.2.1 ho.2.2.1 ho.2.2.2).1
theorem Kp.out (h : Kp a z lo w w') {k : Nat} (ho : Out w a z k) : Out w' a z k := ⟨by have := ho.1; have := h.fr.size; omega, ho.2.1, ho.2.2.1, (h.kp k ho.1 ho.2.1 ho.2.2.1 ho.2.2.2).2⟩
theorem Kp.cell (h : Kp a z lo w w') {k o : Nat} (ho : Out w a z k) : w'.cell? ⟨k, o, none⟩ = w.cell? ⟨k, o, none⟩ := World.cell?_of_block (a := ⟨k, o, none⟩) (h.eq ho)
theorem Kp.same (h : Kp a z lo w w') {ok : Nat → Prop} (ho : ∀ k, ok k → Out w a z k) : Same ok w w' := fun k hk => h.eq (ho k hk)
end

/-- beAppend32 onto nothing, of a row that has just been built. -/
def Put32 (w : World) (ns : List Int) (e : Ending) (w' : World) : Prop :=
  ∃ A c, e = .returned (.slice A (ns.flatMap be4).length c) ∧ Rd w' A ((ns.flatMap be4).map bv) ∧ Below w.heap.size w w'

theorem put32 (w : World) (ns : List Int) (hb : ∀ n ∈ ns, 0 ≤ n ∧ n ≤ 4294967295) (hl : ns.length ≤ 100) :
    Calls Try.prog 77 #[.slice none 0 0, .slice (some ⟨w.heap.size, 0, none⟩) ns.length ns.length] (w.alloc (.cells (ns.map (Value.int .u32 ·)).toArray 22)) (Put32 w ns) := by
  have hc := Cs.new w 22 (ns.map (Value.int .u32 ·)).toArray
  refine (app32_walk (w.alloc (.cells (ns.map (Value.int .u32 ·)).toArray 22)) (w.heap.size + 1) none 0 [] (World.ownsRow_nil _ _ _ _) (by simp) (some ⟨w.heap.size, 0, none⟩) ns.length ns (.inr ⟨w.heap.size, 0, rfl, ⟨by simp, by simp [Value.ownBlock]⟩, fun j u hu => ?_⟩) hb (by simp; omega)).mono ?_
  · rw [Nat.zero_add, hc.cell]
    simpa using hu
  rintro e w1 ⟨A, c, rfl, hown, hf, -⟩
  refine ⟨A, c, by simp, by simpa using own_rd hown, ?_⟩
  exact ((Below.refl w.heap.size w).alloc (Nat.le_refl _) _).trans (hf.below (by simp) (fun k hk h => by simp [Value.ownBlock] at h))

/-- What the closure needs of its variables: aw (the writer), mv (the map), wn (itself). -/
structure WV (w : World) (a z aw mv m wn : Nat) (S : List (ByteArray × Nat)) : Prop where
  ca : Cs w aw #[.pointer (some ⟨a, 0, none⟩)]
  cm : Cs w mv #[.map (some m)]
  cw : Cs w wn #[.func (.func 76) #[] #[.pointer (some ⟨aw, 0, none⟩), .pointer (some ⟨mv, 0, none⟩), .pointer (some ⟨wn, 0, none⟩)]]
  mo : MapOff w m S
  oa : Out w a z aw
  om : Out w a z mv
  ow : Out w a z wn
  oo : Out w a z m

theorem WV.kp {w w' : World} {a z lo aw mv m wn : Nat} {S : List (ByteArray × Nat)} (h : WV w a z aw mv m wn S) (hk : Kp a z lo w w') : WV w' a z aw mv m wn S :=
  ⟨h.ca.keep (hk.eq h.oa), h.cm.keep (hk.eq h.om), h.cw.keep (hk.eq h.ow), h.mo.keep (hk.eq h.oo), hk.out h.oa, hk.out h.om, hk.out h.ow, hk.out h.oo⟩

theorem pad4_len (l : List UInt8) : (pad4 l).length = al4 l.length := by
  unfold pad4 pad al4
  rw [List.length_append]
  split
  · simp; omega
  · rw [zeros_len]; omega

theorem EncP.len {strs : List UInt8} {ps : List Pr} {r : List UInt8} (h : EncP strs 0 ps r) : r.length = szP ps := by
  induction h with
  | nil => rfl
  | @cons p ps off r h hr ih =>
    have e4 := pad4_len p.val
    simp only [List.length_append, szP, ih, e4, tok, be4, List.length_cons, List.length_nil, List.replicate, List.flatten_nil]

def szNs : List (ByteArray × List Pr) → Nat
  | [] => 0
  | n :: r => 8 + al4 (n.1.size + 1) + szP n.2 + szNs r

theorem szNs_append : ∀ (a b : List (ByteArray × List Pr)), szNs (a ++ b) = szNs a + szNs b
  | [], b => by simp [szNs]
  | n :: a, b => by simp [szNs, szNs_append a b]; omega

mutual
theorem LT.enc_len {strs : List UInt8} : ∀ (lt : LT) {r : List UInt8}, EncN strs 0 lt.erase r → r.length = szNs lt.nodes
  | .mk b n ps ks, _, .mk hp hk => by
    have h1 := hp.len
    have h2 := encL_len ks hk
    have h3 := pad4_len (bytesOf n ++ [0])
    have h4 : (bytesOf n ++ [0]).length = n.size + 1 := by simp [bytesOf]
    rw [h4] at h3
    simp only [List.length_append, LT.nodes, szNs, h1, h2, h3, tok, be4, List.length_cons, List.length_nil, List.replicate, List.flatten_nil]
    omega
theorem encL_len {strs : List UInt8} : ∀ (ks : List LT) {r : List UInt8}, EncL strs 0 (eraseL ks) r → r.length = szNs (nodesL ks)
  | [], _, .nil => rfl
  | k :: ks, _, .cons h hr => by
    have h1 := LT.enc_len k h
    have h2 := encL_len ks hr
    simp only [List.length_append, nodesL, szNs_append, h1, h2]
end

theorem szP_mod (ps : List Pr) : szP ps % 4 = 0 := by
  induction ps with
  | nil => rfl
  | cons p ps ih => simp only [szP]; unfold al4; omega
theorem szNs_mod (ns : List (ByteArray × List Pr)) : szNs ns % 4 = 0 := by
  induction ns with
  | nil => rfl
  | cons p ps ih => have := szP_mod p.2; simp only [szNs]; unfold al4; omega

theorem szNs_take (ks : List LT) (k : Nat) (h : k < ks.length) : szNs (nodesL (ks.take (k + 1))) = szNs (nodesL (ks.take k)) + szNs ks[k].nodes ∧ szNs (nodesL (ks.take (k + 1))) ≤ szNs (nodesL ks) := by
  have e1 : ks.take (k + 1) = ks.take k ++ [ks[k]] := by rw [List.take_succ_eq_append_getElem h]
  have e2 : szNs (nodesL ks) = szNs (nodesL (ks.take (k + 1))) + szNs (nodesL (ks.drop (k + 1))) := by rw [← szNs_append, ← nodesL_append, List.take_append_drop]
  refine ⟨?_, by omega⟩
  rw [e1, nodesL_append, szNs_append]
  simp [nodesL]

theorem pad_of_mod {a b : Nat} (h : a % 4 = 0) : pad 4 (a + b) = pad 4 b := by
  unfold pad
  rw [show (a + b) % 4 = b % 4 by omega]

theorem bytes_push (s : ByteArray) : (bytesOf (s ++ ⟨#[0]⟩)).map bv = (bytesOf s ++ [0]).map bv := by
  simp [bytesOf]
end Go.Proofs.Ytlbhadggfipckaa
