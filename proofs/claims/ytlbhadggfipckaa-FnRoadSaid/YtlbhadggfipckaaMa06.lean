/-
  spec.Proper: whether a node is one that is compared.
  spec.Proper, of a node that is not the root; and the law.
-/
import Derived.Test.YtlbhadggfipckaaMa05
set_option linter.unusedVariables false
set_option linter.unusedSimpArgs false
namespace Go.Proofs.Ytlbhadggfipckaa
open Go.RowKit

def PropR (w : World) (p : Nat) (n : Nd) (root : Bool) (deep : Nat) (r : Int) (e : Ending) (w' : World) : Prop :=
  Fr w.heap.size (· = p) w w' ∧ (e = .returned (.bool false) ∨ (e = .returned (.bool true) ∧ ProperR root n ∧ n.depth ≤ deep ∧ 0 ≤ r - n.costQ ∧ Cs w' p #[.int .i64 (r - n.costQ)]))

def PropAll (root : Bool) (deep : Nat) : Prop := ∀ (w : World) (ok : Nat → Prop) (p : Nat) (n : Nd) (t : Value × Value × Value) (r : Int), 0 ≤ r → r ≤ 10000 → (∀ k, ok k → k < w.heap.size) → ¬ ok p → NodeC w ok n t → Cs w p #[.int .i64 r] →
    Calls Try.prog 35 #[.agg #[t.1, t.2.1, t.2.2], .bool root, .int .i64 (deep : Int), .pointer (some ⟨p, 0, none⟩)] w (PropR w p n root deep r)

/-- loop 1 -/
def QInv1 (w : World) (p : Nat) (ps : List Pr) (cs : Array Value) (r : Int) (k : Nat) (wr : World) : Prop :=
  Fr w.heap.size (· = p) w wr ∧ Cs wr w.heap.size cs ∧ Cs wr p #[.int .i64 (r - 8 - costQP (ps.take k))] ∧ 0 ≤ r - 8 - costQP (ps.take k) ∧ ∀ q ∈ ps.take k, NameP q.name

/-- loop 3 -/
def QInv3 (w : World) (p deep : Nat) (ps : List Pr) (ks : List Nd) (cs : Array Value) (r : Int) (k : Nat) (wr : World) : Prop :=
  Fr w.heap.size (· = p) w wr ∧ Cs wr w.heap.size cs ∧ Cs wr p #[.int .i64 (r - 8 - costQP ps - costQL (ks.take k))] ∧ 0 ≤ r - 8 - costQP ps - costQL (ks.take k) ∧ properL (ks.take k) ∧ depthL (ks.take k) ≤ deep

theorem okSigns1 : ∀ k, ∀ h : k < (⟨#[44, 46, 95, 43, 45, 64]⟩ : ByteArray).size, okName (⟨#[44, 46, 95, 43, 45, 64]⟩ : ByteArray)[k] := fun k h => by
  have h' : ∀ k : Fin 6, 33 ≤ (#[44, 46, 95, 43, 45, 64] : Array UInt8)[k].toNat ∧ (#[44, 46, 95, 43, 45, 64] : Array UInt8)[k].toNat ≤ 126 := by decide
  have h2 := h' ⟨k, h⟩
  unfold okName
  show (33 : Int) ≤ (((#[44, 46, 95, 43, 45, 64] : Array UInt8)[k]'h).toNat : Int) ∧ (((#[44, 46, 95, 43, 45, 64] : Array UInt8)[k]'h).toNat : Int) ≤ 126
  have h3 : 33 ≤ ((#[44, 46, 95, 43, 45, 64] : Array UInt8)[k]'h).toNat ∧ ((#[44, 46, 95, 43, 45, 64] : Array UInt8)[k]'h).toNat ≤ 126 := h2
  omega
theorem okSigns2 : ∀ k, ∀ h : k < (⟨#[44, 46, 95, 43, 63, 35, 45]⟩ : ByteArray).size, okName (⟨#[44, 46, 95, 43, 63, 35, 45]⟩ : ByteArray)[k] := fun k h => by
  have h' : ∀ k : Fin 7, 33 ≤ (#[44, 46, 95, 43, 63, 35, 45] : Array UInt8)[k].toNat ∧ (#[44, 46, 95, 43, 63, 35, 45] : Array UInt8)[k].toNat ≤ 126 := by decide
  have h2 := h' ⟨k, h⟩
  unfold okName
  show (33 : Int) ≤ (((#[44, 46, 95, 43, 63, 35, 45] : Array UInt8)[k]'h).toNat : Int) ∧ (((#[44, 46, 95, 43, 63, 35, 45] : Array UInt8)[k]'h).toNat : Int) ≤ 126
  have h3 : 33 ≤ ((#[44, 46, 95, 43, 63, 35, 45] : Array UInt8)[k]'h).toNat ∧ ((#[44, 46, 95, 43, 63, 35, 45] : Array UInt8)[k]'h).toNat ≤ 126 := h2
  omega

theorem empty_true {s : ByteArray} (h : s = ⟨#[]⟩) : s.toList = [] ∧ s.toList.isEmpty = true := by
  subst h
  rw [ByteArray.toList_eq]
  exact ⟨rfl, rfl⟩
theorem empty_false {s : ByteArray} (h : ¬ s = ⟨#[]⟩) : ¬ s.toList = [] ∧ s.toList.isEmpty = false := by
  have h1 : ¬ s.toList = [] := fun e => h (by
    rw [ByteArray.toList_eq] at e
    exact ByteArray.ext (Array.ext' e))
  exact ⟨h1, by simpa using h1⟩
theorem str_ne {s u : ByteArray} (h : ¬ s = u) : ¬ s.toList = u.toList ∧ (s.toList == u.toList) = false := by
  have h1 : ¬ s.toList = u.toList := fun e => h (by
    rw [ByteArray.toList_eq, ByteArray.toList_eq] at e
    exact ByteArray.ext (Array.ext' e))
  exact ⟨h1, by simpa using h1⟩
theorem prop_early (root : Bool) (w : World) (ok : Nat → Prop) (p : Nat) (n : Nd) (t : Value × Value × Value) (deep : Nat) (r : Int) (hr0 : 0 ≤ r) (hr1 : r ≤ 10000) (hok : ∀ k, ok k → k < w.heap.size) (hp : ¬ ok p) (hn : NodeC w ok n t) (hc : Cs w p #[.int .i64 r])
    (he : r < 8 ∨ deep = 0) (hd : deep ≤ 12) :
    Calls Try.prog 35 #[.agg #[t.1, t.2.1, t.2.2], .bool root, .int .i64 (deep : Int), .pointer (some ⟨p, 0, none⟩)] w (PropR w p n root deep r) := by
  obtain ⟨s1, A3, n3, c3, A4, n4, c4, rfl⟩ := hn.form
  have hpl := hc.lt
  have c0 := hc.cell 0
  have f0 := hc.frozen 0
  simp at c0
  have hf : Fr w.heap.size (· = p) w ((w.setCell ⟨p, 0, none⟩ (.int .i64 (r - 8))).alloc (.cells #[.string s1, .slice A3 n3 c3, .slice A4 n4 c4] 46)) := ((Fr.refl w.heap.size (· = p) w).setCell (p := ⟨p, 0, none⟩) (.inr rfl) _).alloc (by simp [World.setCell]) _
  have Hf := Lib.hid hf
  clear hc hn hf
  by_cases h1 : r < 8
  · go_enter Try.func35, Try.ntmps35
    go_wp2_with fail
    go_ret
    exact ⟨Hf.out, .inl rfl⟩
  · obtain rfl : deep = 0 := by omega
    have hd1 : decide (r - 8 < 0) = false := decide_eq_false (by omega)
    go_enter Try.func35, Try.ntmps35
    go_wp2_with fail
    go_ret
    exact ⟨Hf.out, .inl rfl⟩


set_option maxHeartbeats 4000000 in
theorem prop_true (w : World) (ok : Nat → Prop) (p : Nat) (n : Nd) (t : Value × Value × Value) (deep : Nat) (r : Int) (hr0 : 8 ≤ r) (hr1 : r ≤ 10000) (hok : ∀ k, ok k → k < w.heap.size) (hp : ¬ ok p) (hn : NodeC w ok n t) (hc : Cs w p #[.int .i64 r]) (hd : deep + 1 ≤ 12) (IH : PropAll false deep) :
    Calls Try.prog 35 #[.agg #[t.1, t.2.1, t.2.2], .bool true, .int .i64 ((deep : Int) + 1), .pointer (some ⟨p, 0, none⟩)] w (PropR w p n true (deep + 1) r) := by
  obtain ⟨name, ps, ks⟩ := n
  obtain ⟨vp, vk, rfl, hns, hps, hks⟩ := hn.open_
  obtain ⟨Ap, cp, ts, rfl, hp1, hp2, hp3, hp4, hp5⟩ := id hps
  obtain ⟨Ak, ck, us, rfl, hk1, hk2, hk3, hk4, hk5⟩ := id hks
  have hpl := hc.lt
  have c0 := hc.cell 0
  have f0 := hc.frozen 0
  simp at c0
  have hd1 : decide (r - 8 < 0) = false := decide_eq_false (by omega)
  have hd2 : ((deep : Int) + 1 == 0) = false := by simp; omega
  have Hp4 := Lib.hid hp4
  have Hp5 := Lib.hid hp5
  have Hk4 := Lib.hid hk4
  have Hk5 := Lib.hid hk5
  have IH := Lib.hid IH
  have Hc := Lib.hid hc
  have Hf := Lib.hid (((Fr.refl w.heap.size (· = p) w).setCell (p := ⟨p, 0, none⟩) (.inr rfl) (.int .i64 (r - 8))).alloc (by simp [World.setCell]) (.cells #[.string name, .slice Ap ps.length cp, .slice Ak ks.length ck] 46))
  clear hc hps hks hn hp4 hp5 hk4 hk5
  by_cases hname : name = ⟨#[]⟩
  case neg =>
    have hq := empty_false hname
    go_enter Try.func35, Try.ntmps35
    go_wp2_with fail
    go_ret
    exact ⟨Hf.out, .inl rfl⟩
  have hq := empty_true hname
  have Hname := Lib.hid hname
  clear hname
  go_enter Try.func35, Try.ntmps35
  go_wp2_with fail
  go_loopw [50] (fun i wr => ∃ k : Nat, k ≤ ps.length ∧ i = .int .i64 k ∧ QInv1 w p ps #[.string name, .slice Ap ps.length cp, .slice Ak ks.length ck] r k wr) (fun i _ => ps.length - (intOf i).toNat)
  case atStart =>
    exact ⟨0, by omega, by go_num, Hf.out, Cs.new' _ _ _ _ (by simp [World.setCell]), by simpa [costQP] using (Hc.out.set_ 0 (.int .i64 (r - 8))).alloc (.cells #[.string name, .slice Ap ps.length cp, .slice Ak ks.length ck] 46), by simp [costQP]; omega, by simp⟩
  case round =>
    obtain ⟨k, hk, rfl, hF, q1, q2, hr2, hnm⟩ := hrel
    by_cases hlt : k < ps.length
    · have hne : ps ≠ [] := by rintro rfl; simp at hlt
      obtain ⟨b, o, rfl, hob, hD⟩ := Hp5.out.resolve_left hne
      have hp4 := Hp4.out
      have hkp : ps[k]? = some ps[k] := List.getElem?_eq_getElem hlt
      have hlt2 : k < ts.length := by rw [← hp4.1]; exact hlt
      have hkt : ts[k]? = some (ts[k]'hlt2) := List.getElem?_eq_getElem hlt2
      obtain ⟨e1, e2, Av, cv, e3, v1, v2, v3, v4⟩ := hp4.2 k _ _ hkp hkt
      obtain ⟨d1, d2⟩ := hD k _ hkt
      have hbo := hok b hob
      have hbp : b ≠ p := fun e => hp (e ▸ hob)
      rw [← hF.cell hbo hbp, e1] at d1
      rw [← hF.cell hbo hbp, e3] at d2
      have hct := costQP_take ps k hlt
      have hmem : ∀ q ∈ ps.take (k + 1), q ∈ ps.take k ∨ q = ps[k] := fun q hq => by
        rw [List.take_succ_eq_append_getElem hlt] at hq
        rcases List.mem_append.1 hq with h | h
        · exact .inl h
        · exact .inr (List.mem_singleton.1 h)
      generalize hpk : ps[k] = pk at *
      generalize hrk : r - 8 - (costQP (ps.take k) : Int) = rk at *
      have hr3 : r - 8 - (costQP (ps.take (k + 1)) : Int) = rk - (8 + (pk.val.length : Int)) := by omega
      have hrk1 : rk ≤ 10000 := by omega
      clear e1 e3 hkt hkp hp4 v4 c0 f0 hct hpk hrk
      have Hnm := Lib.hid (And.intro hnm hmem)
      have Hr3 := Lib.hid hr3
      have HF := Lib.hid hF
      have HD := Lib.hid hD
      have Hq := Lib.hid (And.intro q1 q2)
      have c1 := q2.cell 0
      have f1 := q2.frozen 0
      have c40 := q1.cell 0
      have c41 := q1.cell 1
      have c42 := q1.cell 2
      simp at c1 c40 c41 c42
      have z1 := q1.lt
      have z2 := q2.lt
      have hbl : b < wr.heap.size := by omega
      have hki : (0 : Int) ≤ (k : Int) := by omega
      have hkl : (k : Int) ≤ (ps.length : Int) := by omega
      have hkc : (k : Int) ≤ (cp : Int) := by omega
      clear hnm hmem hr3 hF hD q1 q2
      by_cases hneg : rk - (8 + (pk.val.length : Int)) < 0
      · go_wp2_with fail
        go_region
        go_wp2_with fail
        go_ret
        refine ⟨?_, .inl rfl⟩
        exact (((HF.out.setCell (.inr rfl) _).alloc (by simp [World.setCell]; omega) _).drew)
      · have hnn : (0 : Int) ≤ rk - (8 + (pk.val.length : Int)) := by omega
        have hd3 : decide (rk - (8 + (pk.val.length : Int)) < 0) = false := decide_eq_false hneg
        go_wp2_with fail
        go_region
        go_wp2_with (go_at_call 58; refine (name_walk _ _ _ e2 (by decide) okSigns2).mono ?_; rintro e w1 ⟨⟨rfl, hh⟩ | rfl, rfl⟩)
        · obtain ⟨wo, rfl⟩ : ∃ wo : World, wo = wr := ⟨_, rfl⟩
          have Hh := Lib.hid hh
          clear hh c1 f1 c40 c41 c42 d1 d2
          go_loopw [79] (fun i wq => ∃ m : Nat, m ≤ k ∧ i = .int .i64 m ∧ Fr w.heap.size (· = p) w wq ∧ Cs wq w.heap.size #[.string name, .slice (some ⟨b, o, none⟩) ps.length cp, .slice Ak ks.length ck] ∧ Cs wq p #[.int .i64 (rk - (8 + (pk.val.length : Int)))] ∧ Cs wq wo.heap.size #[.string pk.name, .slice Av pk.val.length cv]) (fun i _ => k - (intOf i).toNat)
          case atStart =>
            obtain ⟨q1, q2⟩ := Hq.out
            exact ⟨0, by omega, by go_num, ((HF.out.setCell (.inr rfl) _).alloc (by simp [World.setCell]; omega) _).drew, ((q1.far (by simp; omega) _).alloc _).drew, ((q2.set_ 0 _).alloc _).drew, (Cs.new' _ _ _ _ (by simp [World.setCell])).drew⟩
          case round =>
            clear HF Hq
            obtain ⟨m, hm, rfl, hF, q1, q2, q3⟩ := hrel
            have z1 := q1.lt
            have z3 := q3.lt
            have z2 := q2.lt
            by_cases hltm : m < k
            · have hp4 := Hp4.out
              have hm2 : m < ps.length := by omega
              have hkp : ps[m]? = some ps[m] := List.getElem?_eq_getElem hm2
              have hlt3 : m < ts.length := by rw [← hp4.1]; exact hm2
              have hkt : ts[m]? = some (ts[m]'hlt3) := List.getElem?_eq_getElem hlt3
              obtain ⟨e1, e2', Av2, cv2, e3, -⟩ := hp4.2 m _ _ hkp hkt
              obtain ⟨d1, d2⟩ := HD.out m _ hkt
              rw [← hF.cell hbo hbp, e1] at d1
              rw [← hF.cell hbo hbp, e3] at d2
              generalize ps[m] = pm at *
              have c100 := q3.cell 0
              simp at c100
              have HF := Lib.hid hF
              have Hq := Lib.hid (And.intro q1 (And.intro q2 q3))
              have hbl2 : b < wr.heap.size := by omega
              have hmi : (0 : Int) ≤ (m : Int) := by omega
              clear e1 e3 hkt hkp hp4 hF q1 q2 q3
              by_cases hs : pk.name = pm.name
              · have hs2 : pk.name.toList = pm.name.toList := by rw [hs]
                go_wp2_with fail
                go_ret
                exact ⟨HF.out.alloc (by omega) _, .inl rfl⟩
              · have hs2 := str_ne hs
                go_wp2_with fail
                obtain ⟨q1, q2, q3⟩ := Hq.out
                go_roundw
                case rel => exact ⟨m + 1, by omega, by go_num, HF.out.alloc (by omega) _, q1.alloc _, q2.alloc _, q3.alloc _⟩
                case measure => simp [intOf]; omega
            · have hnm2 : ∀ q ∈ ps.take (k + 1), NameP q.name := fun q hq => by
                rcases Hnm.out.2 q hq with h | h
                · exact Hnm.out.1 q h
                · rw [h]; exact Hh.out
              have Hnm2 := Lib.hid hnm2
              have HF := Lib.hid hF
              have Hq := Lib.hid (And.intro q1 (And.intro q2 q3))
              clear hnm2 hF q1 q2 q3
              go_wp2_with fail
              obtain ⟨q1, q2, q3⟩ := Hq.out
              exact ⟨⟨k + 1, by omega, by go_num, HF.out, q1, by rw [Hr3.out]; exact q2, by rw [Hr3.out]; omega, Hnm2.out⟩, by simp [intOf]; omega⟩
        · go_ret
          refine ⟨?_, .inl rfl⟩
          exact (((HF.out.setCell (.inr rfl) _).alloc (by simp [World.setCell]; omega) _).drew)
    · obtain rfl : k = ps.length := by omega
      obtain ⟨wo, rfl⟩ : ∃ wo : World, wo = wr := ⟨_, rfl⟩
      rw [List.take_length] at q2 hr2 hnm
      have c42 := q1.cell 2
      simp at c42
      have z1 := q1.lt
      have Hnm := Lib.hid hnm
      have HF := Lib.hid hF
      have Hq := Lib.hid (And.intro q1 q2)
      clear hnm hF q1 q2 c0 f0
      go_wp2_with fail
      go_loopw [93] (fun i wr => ∃ k : Nat, k ≤ ks.length ∧ i = .int .i64 k ∧ QInv3 w p deep ps ks #[.string name, .slice Ap ps.length cp, .slice Ak ks.length ck] r k wr) (fun i _ => ks.length - (intOf i).toNat)
      case atStart =>
        obtain ⟨q1, q2⟩ := Hq.out
        exact ⟨0, by omega, by go_num, HF.out, q1, by simpa [costQL] using q2, by simp [costQL]; omega, by simp [properL], by simp [depthL]⟩
      case round =>
        clear HF Hq c42 z1 wo
        obtain ⟨k, hk, rfl, hF, q1, q2, hr3, hpr, hdp⟩ := hrel
        have c40 := q1.cell 0
        have c41 := q1.cell 1
        have c42 := q1.cell 2
        simp at c40 c41 c42
        have z1 := q1.lt
        have z2 := q2.lt
        by_cases hlt : k < ks.length
        · have hne : ks ≠ [] := by rintro rfl; simp at hlt
          obtain ⟨b, o, rfl, hob, hD⟩ := Hk5.out.resolve_left hne
          have hk4 := Hk4.out
          have hkp : ks[k]? = some ks[k] := List.getElem?_eq_getElem hlt
          have hlt2 : k < us.length := by rw [← hk4.1]; exact hlt
          have hkt : us[k]? = some (us[k]'hlt2) := List.getElem?_eq_getElem hlt2
          have hN := hk4.2 k _ _ hkp hkt
          obtain ⟨d1, d2, d3⟩ := hD k _ hkt
          have hbo := hok b hob
          have hbp : b ≠ p := fun e => hp (e ▸ hob)
          rw [← hF.cell hbo hbp] at d1 d2 d3
          generalize htk : us[k]'hlt2 = tk at *
          obtain ⟨ct1, ct2, ct3⟩ := costQL_take ks k hlt
          generalize hkk : ks[k] = kk at *
          obtain ⟨kn, kps, kks⟩ := kk
          obtain ⟨vp3, vk3, rfl, hns3, hps3, hks3⟩ := hN.open_
          obtain ⟨A3, c3, -, rfl, -⟩ := hps3
          obtain ⟨A4, c4, -, rfl, -⟩ := hks3
          simp only at d1 d2 d3
          have hbl : b < wr.heap.size := by omega
          have hki : (0 : Int) ≤ (k : Int) := by omega
          have hkl : (k : Int) ≤ (ks.length : Int) := by omega
          have hkc : (k : Int) ≤ (ck : Int) := by omega
          generalize hrk : r - 8 - (costQP ps : Int) - (costQL (ks.take k) : Int) = rk at *
          have hr4 : r - 8 - (costQP ps : Int) - (costQL (ks.take (k + 1)) : Int) = rk - ((Nd.mk kn kps kks).costQ : Int) := by omega
          have hrk1 : rk ≤ 10000 := by omega
          have hwd : IntKind.i64.wrap (deep : Int) = deep := by simp only [IntKind.wrap, IntKind.bits, IntKind.signed]; simp; omega
          have hI := IH.out (wr.alloc (.cells #[.string kn, .slice A3 kps.length c3, .slice A4 kks.length c4] 46)) ok p _ _ rk (by omega) (by omega) (fun x hx => by have := hok x hx; simp; omega) hp
            (NodeC.mono (w' := wr.alloc (.cells #[.string kn, .slice A3 kps.length c3, .slice A4 kks.length c4] 46)) (fun x hx => by
              have h1 := hok x hx
              have h2 : x ≠ p := fun e => hp (e ▸ hx)
              rw [Below.heap_alloc _ _ _ (by omega)]
              exact hF.block x h1 h2) (fun _ h => h) hN) (q2.alloc _)
          have HI := Lib.hid hI
          have HF := Lib.hid hF
          have HD := Lib.hid hD
          have Hq := Lib.hid q1
          have Hpr := Lib.hid (And.intro hpr (And.intro hdp (And.intro ct2 ct3)))
          have Hr4 := Lib.hid hr4
          clear hkt hkp hk4 htk hN hF hI hD q1 q2 hpr hdp ct1 ct2 ct3 hr4 hrk hkk
          go_wp2_with (go_at_call 35; refine HI.out.mono ?_; rintro e w1 ⟨hf, hor⟩; have hs1 := hf.size; simp at hs1; have q5 := (Hq.out.alloc (.cells #[.string kn, .slice A3 kps.length c3, .slice A4 kks.length c4] 46)).fr hf (by simp; omega) (by omega); have c52 := q5.cell 2; simp at c52; have q5' := Lib.hid q5; have Hf5 := Lib.hid hf; clear q5 hf; rcases hor with rfl | ⟨rfl, hpp, hdd, hrr, hcc⟩)
          · go_ret
            exact ⟨(HF.out.alloc (by omega) _).trans (Hf5.out.mono (by simp; omega) fun _ _ h => h), .inl rfl⟩
          · obtain ⟨wo, rfl⟩ : ∃ wo : World, wo = wr := ⟨_, rfl⟩
            have Hcc := Lib.hid hcc
            have Hpp := Lib.hid (And.intro hpp hdd)
            clear hcc hpp hdd c40 c41 c42 d1 d2 d3
            go_loopw [109] (fun i wq => ∃ m : Nat, m ≤ k ∧ i = .int .i64 m ∧ Fr w.heap.size (· = p) w wq ∧ Cs wq w.heap.size #[.string name, .slice Ap ps.length cp, .slice (some ⟨b, o, none⟩) ks.length ck] ∧ Cs wq p #[.int .i64 (rk - ((Nd.mk kn kps kks).costQ : Int))] ∧ Cs wq wo.heap.size #[.string kn, .slice A3 kps.length c3, .slice A4 kks.length c4]) (fun i _ => k - (intOf i).toNat)
            case atStart =>
              exact ⟨0, by omega, by go_num, (HF.out.alloc (by omega) _).trans (Hf5.out.mono (by simp; omega) fun _ _ h => h), q5'.out, Hcc.out, (Cs.new _ _ _).fr Hf5.out (by simp) (by omega)⟩
            case round =>
              clear HF Hq q5' Hf5 Hcc c52 HI hs1
              obtain ⟨m, hm, rfl, hF, q1, q2, q3⟩ := hrel
              have z1 := q1.lt
              have z3 := q3.lt
              have z2 := q2.lt
              by_cases hltm : m < k
              · have hk4 := Hk4.out
                have hm2 : m < ks.length := by omega
                have hkp : ks[m]? = some ks[m] := List.getElem?_eq_getElem hm2
                have hlt3 : m < us.length := by rw [← hk4.1]; exact hm2
                have hkt : us[m]? = some (us[m]'hlt3) := List.getElem?_eq_getElem hlt3
                have hN2 := hk4.2 m _ _ hkp hkt
                obtain ⟨d1, d2, d3⟩ := HD.out m _ hkt
                rw [← hF.cell hbo hbp] at d1 d2 d3
                generalize us[m]'hlt3 = tm at *
                obtain ⟨s9, A9, n9, c9, B9, m9, e9, rfl⟩ := hN2.form
                simp only at d1 d2 d3
                have c140 := q3.cell 0
                simp at c140
                have HF := Lib.hid hF
                have Hq := Lib.hid (And.intro q1 (And.intro q2 q3))
                have hbl2 : b < wr.heap.size := by omega
                have hmi : (0 : Int) ≤ (m : Int) := by omega
                clear hkt hkp hk4 hN2 hF q1 q2 q3
                by_cases hs : kn = s9
                · have hs2 : kn.toList = s9.toList := by rw [hs]
                  go_wp2_with fail
                  go_ret
                  exact ⟨HF.out.alloc (by omega) _, .inl rfl⟩
                · have hs2 := str_ne hs
                  go_wp2_with fail
                  obtain ⟨q1, q2, q3⟩ := Hq.out
                  go_roundw
                  case rel => exact ⟨m + 1, by omega, by go_num, HF.out.alloc (by omega) _, q1.alloc _, q2.alloc _, q3.alloc _⟩
                  case measure => simp [intOf]; omega
              · have HF := Lib.hid hF
                have Hq := Lib.hid (And.intro q1 (And.intro q2 q3))
                clear hF q1 q2 q3
                go_wp2_with fail
                obtain ⟨q1, q2, q3⟩ := Hq.out
                refine ⟨⟨k + 1, by omega, by go_num, HF.out, q1, by rw [Hr4.out]; exact q2, by rw [Hr4.out]; omega, ?_, ?_⟩, by simp [intOf]; omega⟩
                · exact Hpr.out.2.2.2.2 ⟨Hpr.out.1, Hpp.out.1⟩
                · have h1 := Hpr.out.2.1
                  have h2 := Hpr.out.2.2.1
                  have h3 := Hpp.out.2
                  omega
        · obtain rfl : k = ks.length := by omega
          rw [List.take_length] at q2 hr3 hpr hdp
          have HF := Lib.hid hF
          have Hq := Lib.hid q2
          have Hpr := Lib.hid (And.intro hpr hdp)
          clear hF q1 q2 hpr hdp
          go_wp2_with fail
          go_ret
          refine ⟨HF.out, .inr ⟨rfl, ⟨?_, Hnm.out, Hpr.out.1⟩, ?_, ?_, ?_⟩⟩
          · exact Hname.out
          · have := Hpr.out.2
            simp only [Nd.depth]
            omega
          · simp only [Nd.costQ]
            omega
          · have e : r - ((Nd.mk name ps ks).costQ : Int) = r - 8 - (costQP ps : Int) - (costQL ks : Int) := by
              simp only [Nd.costQ]
              omega
            rw [e]
            exact Hq.out
end Go.Proofs.Ytlbhadggfipckaa

set_option linter.unusedVariables false
set_option linter.unusedSimpArgs false
namespace Go.Proofs.Ytlbhadggfipckaa
open Go.RowKit

set_option maxHeartbeats 4000000 in
theorem prop_false (w : World) (ok : Nat → Prop) (p : Nat) (n : Nd) (t : Value × Value × Value) (deep : Nat) (r : Int) (hr0 : 8 ≤ r) (hr1 : r ≤ 10000) (hok : ∀ k, ok k → k < w.heap.size) (hp : ¬ ok p) (hn : NodeC w ok n t) (hc : Cs w p #[.int .i64 r]) (hd : deep + 1 ≤ 12) (IH : PropAll false deep) :
    Calls Try.prog 35 #[.agg #[t.1, t.2.1, t.2.2], .bool false, .int .i64 ((deep : Int) + 1), .pointer (some ⟨p, 0, none⟩)] w (PropR w p n false (deep + 1) r) := by
  obtain ⟨name, ps, ks⟩ := n
  obtain ⟨vp, vk, rfl, hns, hps, hks⟩ := hn.open_
  obtain ⟨Ap, cp, ts, rfl, hp1, hp2, hp3, hp4, hp5⟩ := id hps
  obtain ⟨Ak, ck, us, rfl, hk1, hk2, hk3, hk4, hk5⟩ := id hks
  have hpl := hc.lt
  have c0 := hc.cell 0
  have f0 := hc.frozen 0
  simp at c0
  have hd1 : decide (r - 8 < 0) = false := decide_eq_false (by omega)
  have hd2 : ((deep : Int) + 1 == 0) = false := by simp; omega
  have Hp4 := Lib.hid hp4
  have Hp5 := Lib.hid hp5
  have Hk4 := Lib.hid hk4
  have Hk5 := Lib.hid hk5
  have IH := Lib.hid IH
  have Hc := Lib.hid hc
  have Hf := Lib.hid (((Fr.refl w.heap.size (· = p) w).setCell (p := ⟨p, 0, none⟩) (.inr rfl) (.int .i64 (r - 8))).alloc (by simp [World.setCell]) (.cells #[.string name, .slice Ap ps.length cp, .slice Ak ks.length ck] 46))
  clear hc hps hks hn hp4 hp5 hk4 hk5
  by_cases hname : name = ⟨#[]⟩
  case pos =>
    have hq := empty_true hname
    clear hname
    go_enter Try.func35, Try.ntmps35
    go_wp2_with fail
    go_ret
    exact ⟨Hf.out, .inl rfl⟩
  have hq := empty_false hname
  clear hname
  go_enter Try.func35, Try.ntmps35
  go_wp2_with (go_at_call 58; refine (name_walk _ _ _ hns (by decide) okSigns1).mono ?_; rintro e w1 ⟨⟨rfl, hh⟩ | rfl, rfl⟩)
  rotate_left
  · go_ret
    exact ⟨Hf.out, .inl rfl⟩
  have Hname := Lib.hid hh
  clear hh
  go_loopw [50] (fun i wr => ∃ k : Nat, k ≤ ps.length ∧ i = .int .i64 k ∧ QInv1 w p ps #[.string name, .slice Ap ps.length cp, .slice Ak ks.length ck] r k wr) (fun i _ => ps.length - (intOf i).toNat)
  case atStart =>
    exact ⟨0, by omega, by go_num, Hf.out, Cs.new' _ _ _ _ (by simp [World.setCell]), by simpa [costQP] using (Hc.out.set_ 0 (.int .i64 (r - 8))).alloc (.cells #[.string name, .slice Ap ps.length cp, .slice Ak ks.length ck] 46), by simp [costQP]; omega, by simp⟩
  case round =>
    obtain ⟨k, hk, rfl, hF, q1, q2, hr2, hnm⟩ := hrel
    by_cases hlt : k < ps.length
    · have hne : ps ≠ [] := by rintro rfl; simp at hlt
      obtain ⟨b, o, rfl, hob, hD⟩ := Hp5.out.resolve_left hne
      have hp4 := Hp4.out
      have hkp : ps[k]? = some ps[k] := List.getElem?_eq_getElem hlt
      have hlt2 : k < ts.length := by rw [← hp4.1]; exact hlt
      have hkt : ts[k]? = some (ts[k]'hlt2) := List.getElem?_eq_getElem hlt2
      obtain ⟨e1, e2, Av, cv, e3, v1, v2, v3, v4⟩ := hp4.2 k _ _ hkp hkt
      obtain ⟨d1, d2⟩ := hD k _ hkt
      have hbo := hok b hob
      have hbp : b ≠ p := fun e => hp (e ▸ hob)
      rw [← hF.cell hbo hbp, e1] at d1
      rw [← hF.cell hbo hbp, e3] at d2
      have hct := costQP_take ps k hlt
      have hmem : ∀ q ∈ ps.take (k + 1), q ∈ ps.take k ∨ q = ps[k] := fun q hq => by
        rw [List.take_succ_eq_append_getElem hlt] at hq
        rcases List.mem_append.1 hq with h | h
        · exact .inl h
        · exact .inr (List.mem_singleton.1 h)
      generalize hpk : ps[k] = pk at *
      generalize hrk : r - 8 - (costQP (ps.take k) : Int) = rk at *
      have hr3 : r - 8 - (costQP (ps.take (k + 1)) : Int) = rk - (8 + (pk.val.length : Int)) := by omega
      have hrk1 : rk ≤ 10000 := by omega
      clear e1 e3 hkt hkp hp4 v4 c0 f0 hct hpk hrk
      have Hnm := Lib.hid (And.intro hnm hmem)
      have Hr3 := Lib.hid hr3
      have HF := Lib.hid hF
      have HD := Lib.hid hD
      have Hq := Lib.hid (And.intro q1 q2)
      have c1 := q2.cell 0
      have f1 := q2.frozen 0
      have c40 := q1.cell 0
      have c41 := q1.cell 1
      have c42 := q1.cell 2
      simp at c1 c40 c41 c42
      have z1 := q1.lt
      have z2 := q2.lt
      have hbl : b < wr.heap.size := by omega
      have hki : (0 : Int) ≤ (k : Int) := by omega
      have hkl : (k : Int) ≤ (ps.length : Int) := by omega
      have hkc : (k : Int) ≤ (cp : Int) := by omega
      clear hnm hmem hr3 hF hD q1 q2
      by_cases hneg : rk - (8 + (pk.val.length : Int)) < 0
      · go_wp2_with fail
        go_region
        go_wp2_with fail
        go_ret
        refine ⟨?_, .inl rfl⟩
        exact (((HF.out.setCell (.inr rfl) _).alloc (by simp [World.setCell]; omega) _).drew)
      · have hnn : (0 : Int) ≤ rk - (8 + (pk.val.length : Int)) := by omega
        have hd3 : decide (rk - (8 + (pk.val.length : Int)) < 0) = false := decide_eq_false hneg
        go_wp2_with fail
        go_region
        go_wp2_with (go_at_call 58; refine (name_walk _ _ _ e2 (by decide) okSigns2).mono ?_; rintro e w1 ⟨⟨rfl, hh⟩ | rfl, rfl⟩)
        · obtain ⟨wo, rfl⟩ : ∃ wo : World, wo = wr := ⟨_, rfl⟩
          have Hh := Lib.hid hh
          clear hh c1 f1 c40 c41 c42 d1 d2
          go_loopw [79] (fun i wq => ∃ m : Nat, m ≤ k ∧ i = .int .i64 m ∧ Fr w.heap.size (· = p) w wq ∧ Cs wq w.heap.size #[.string name, .slice (some ⟨b, o, none⟩) ps.length cp, .slice Ak ks.length ck] ∧ Cs wq p #[.int .i64 (rk - (8 + (pk.val.length : Int)))] ∧ Cs wq wo.heap.size #[.string pk.name, .slice Av pk.val.length cv]) (fun i _ => k - (intOf i).toNat)
          case atStart =>
            obtain ⟨q1, q2⟩ := Hq.out
            exact ⟨0, by omega, by go_num, ((HF.out.setCell (.inr rfl) _).alloc (by simp [World.setCell]; omega) _).drew, ((q1.far (by simp; omega) _).alloc _).drew, ((q2.set_ 0 _).alloc _).drew, (Cs.new' _ _ _ _ (by simp [World.setCell])).drew⟩
          case round =>
            clear HF Hq
            obtain ⟨m, hm, rfl, hF, q1, q2, q3⟩ := hrel
            have z1 := q1.lt
            have z3 := q3.lt
            have z2 := q2.lt
            by_cases hltm : m < k
            · have hp4 := Hp4.out
              have hm2 : m < ps.length := by omega
              have hkp : ps[m]? = some ps[m] := List.getElem?_eq_getElem hm2
              have hlt3 : m < ts.length := by rw [← hp4.1]; exact hm2
              have hkt : ts[m]? = some (ts[m]'hlt3) := List.getElem?_eq_getElem hlt3
              obtain ⟨e1, e2', Av2, cv2, e3, -⟩ := hp4.2 m _ _ hkp hkt
              obtain ⟨d1, d2⟩ := HD.out m _ hkt
              rw [← hF.cell hbo hbp, e1] at d1
              rw [← hF.cell hbo hbp, e3] at d2
              generalize ps[m] = pm at *
              have c100 := q3.cell 0
              simp at c100
              have HF := Lib.hid hF
              have Hq := Lib.hid (And.intro q1 (And.intro q2 q3))
              have hbl2 : b < wr.heap.size := by omega
              have hmi : (0 : Int) ≤ (m : Int) := by omega
              clear e1 e3 hkt hkp hp4 hF q1 q2 q3
              by_cases hs : pk.name = pm.name
              · have hs2 : pk.name.toList = pm.name.toList := by rw [hs]
                go_wp2_with fail
                go_ret
                exact ⟨HF.out.alloc (by omega) _, .inl rfl⟩
              · have hs2 := str_ne hs
                go_wp2_with fail
                obtain ⟨q1, q2, q3⟩ := Hq.out
                go_roundw
                case rel => exact ⟨m + 1, by omega, by go_num, HF.out.alloc (by omega) _, q1.alloc _, q2.alloc _, q3.alloc _⟩
                case measure => simp [intOf]; omega
            · have hnm2 : ∀ q ∈ ps.take (k + 1), NameP q.name := fun q hq => by
                rcases Hnm.out.2 q hq with h | h
                · exact Hnm.out.1 q h
                · rw [h]; exact Hh.out
              have Hnm2 := Lib.hid hnm2
              have HF := Lib.hid hF
              have Hq := Lib.hid (And.intro q1 (And.intro q2 q3))
              clear hnm2 hF q1 q2 q3
              go_wp2_with fail
              obtain ⟨q1, q2, q3⟩ := Hq.out
              exact ⟨⟨k + 1, by omega, by go_num, HF.out, q1, by rw [Hr3.out]; exact q2, by rw [Hr3.out]; omega, Hnm2.out⟩, by simp [intOf]; omega⟩
        · go_ret
          refine ⟨?_, .inl rfl⟩
          exact (((HF.out.setCell (.inr rfl) _).alloc (by simp [World.setCell]; omega) _).drew)
    · obtain rfl : k = ps.length := by omega
      obtain ⟨wo, rfl⟩ : ∃ wo : World, wo = wr := ⟨_, rfl⟩
      rw [List.take_length] at q2 hr2 hnm
      have c42 := q1.cell 2
      simp at c42
      have z1 := q1.lt
      have Hnm := Lib.hid hnm
      have HF := Lib.hid hF
      have Hq := Lib.hid (And.intro q1 q2)
      clear hnm hF q1 q2 c0 f0
      go_wp2_with fail
      go_loopw [93] (fun i wr => ∃ k : Nat, k ≤ ks.length ∧ i = .int .i64 k ∧ QInv3 w p deep ps ks #[.string name, .slice Ap ps.length cp, .slice Ak ks.length ck] r k wr) (fun i _ => ks.length - (intOf i).toNat)
      case atStart =>
        obtain ⟨q1, q2⟩ := Hq.out
        exact ⟨0, by omega, by go_num, HF.out, q1, by simpa [costQL] using q2, by simp [costQL]; omega, by simp [properL], by simp [depthL]⟩
      case round =>
        clear HF Hq c42 z1 wo
        obtain ⟨k, hk, rfl, hF, q1, q2, hr3, hpr, hdp⟩ := hrel
        have c40 := q1.cell 0
        have c41 := q1.cell 1
        have c42 := q1.cell 2
        simp at c40 c41 c42
        have z1 := q1.lt
        have z2 := q2.lt
        by_cases hlt : k < ks.length
        · have hne : ks ≠ [] := by rintro rfl; simp at hlt
          obtain ⟨b, o, rfl, hob, hD⟩ := Hk5.out.resolve_left hne
          have hk4 := Hk4.out
          have hkp : ks[k]? = some ks[k] := List.getElem?_eq_getElem hlt
          have hlt2 : k < us.length := by rw [← hk4.1]; exact hlt
          have hkt : us[k]? = some (us[k]'hlt2) := List.getElem?_eq_getElem hlt2
          have hN := hk4.2 k _ _ hkp hkt
          obtain ⟨d1, d2, d3⟩ := hD k _ hkt
          have hbo := hok b hob
          have hbp : b ≠ p := fun e => hp (e ▸ hob)
          rw [← hF.cell hbo hbp] at d1 d2 d3
          generalize htk : us[k]'hlt2 = tk at *
          obtain ⟨ct1, ct2, ct3⟩ := costQL_take ks k hlt
          generalize hkk : ks[k] = kk at *
          obtain ⟨kn, kps, kks⟩ := kk
          obtain ⟨vp3, vk3, rfl, hns3, hps3, hks3⟩ := hN.open_
          obtain ⟨A3, c3, -, rfl, -⟩ := hps3
          obtain ⟨A4, c4, -, rfl, -⟩ := hks3
          simp only at d1 d2 d3
          have hbl : b < wr.heap.size := by omega
          have hki : (0 : Int) ≤ (k : Int) := by omega
          have hkl : (k : Int) ≤ (ks.length : Int) := by omega
          have hkc : (k : Int) ≤ (ck : Int) := by omega
          generalize hrk : r - 8 - (costQP ps : Int) - (costQL (ks.take k) : Int) = rk at *
          have hr4 : r - 8 - (costQP ps : Int) - (costQL (ks.take (k + 1)) : Int) = rk - ((Nd.mk kn kps kks).costQ : Int) := by omega
          have hrk1 : rk ≤ 10000 := by omega
          have hwd : IntKind.i64.wrap (deep : Int) = deep := by simp only [IntKind.wrap, IntKind.bits, IntKind.signed]; simp; omega
          have hI := IH.out (wr.alloc (.cells #[.string kn, .slice A3 kps.length c3, .slice A4 kks.length c4] 46)) ok p _ _ rk (by omega) (by omega) (fun x hx => by have := hok x hx; simp; omega) hp
            (NodeC.mono (w' := wr.alloc (.cells #[.string kn, .slice A3 kps.length c3, .slice A4 kks.length c4] 46)) (fun x hx => by
              have h1 := hok x hx
              have h2 : x ≠ p := fun e => hp (e ▸ hx)
              rw [Below.heap_alloc _ _ _ (by omega)]
              exact hF.block x h1 h2) (fun _ h => h) hN) (q2.alloc _)
          have HI := Lib.hid hI
          have HF := Lib.hid hF
          have HD := Lib.hid hD
          have Hq := Lib.hid q1
          have Hpr := Lib.hid (And.intro hpr (And.intro hdp (And.intro ct2 ct3)))
          have Hr4 := Lib.hid hr4
          clear hkt hkp hk4 htk hN hF hI hD q1 q2 hpr hdp ct1 ct2 ct3 hr4 hrk hkk
          go_wp2_with (go_at_call 35; refine HI.out.mono ?_; rintro e w1 ⟨hf, hor⟩; have hs1 := hf.size; simp at hs1; have q5 := (Hq.out.alloc (.cells #[.string kn, .slice A3 kps.length c3, .slice A4 kks.length c4] 46)).fr hf (by simp; omega) (by omega); have c52 := q5.cell 2; simp at c52; have q5' := Lib.hid q5; have Hf5 := Lib.hid hf; clear q5 hf; rcases hor with rfl | ⟨rfl, hpp, hdd, hrr, hcc⟩)
          · go_ret
            exact ⟨(HF.out.alloc (by omega) _).trans (Hf5.out.mono (by simp; omega) fun _ _ h => h), .inl rfl⟩
          · obtain ⟨wo, rfl⟩ : ∃ wo : World, wo = wr := ⟨_, rfl⟩
            have Hcc := Lib.hid hcc
            have Hpp := Lib.hid (And.intro hpp hdd)
            clear hcc hpp hdd c40 c41 c42 d1 d2 d3
            go_loopw [109] (fun i wq => ∃ m : Nat, m ≤ k ∧ i = .int .i64 m ∧ Fr w.heap.size (· = p) w wq ∧ Cs wq w.heap.size #[.string name, .slice Ap ps.length cp, .slice (some ⟨b, o, none⟩) ks.length ck] ∧ Cs wq p #[.int .i64 (rk - ((Nd.mk kn kps kks).costQ : Int))] ∧ Cs wq wo.heap.size #[.string kn, .slice A3 kps.length c3, .slice A4 kks.length c4]) (fun i _ => k - (intOf i).toNat)
            case atStart =>
              exact ⟨0, by omega, by go_num, (HF.out.alloc (by omega) _).trans (Hf5.out.mono (by simp; omega) fun _ _ h => h), q5'.out, Hcc.out, (Cs.new _ _ _).fr Hf5.out (by simp) (by omega)⟩
            case round =>
              clear HF Hq q5' Hf5 Hcc c52 HI hs1
              obtain ⟨m, hm, rfl, hF, q1, q2, q3⟩ := hrel
              have z1 := q1.lt
              have z3 := q3.lt
              have z2 := q2.lt
              by_cases hltm : m < k
              · have hk4 := Hk4.out
                have hm2 : m < ks.length := by omega
                have hkp : ks[m]? = some ks[m] := List.getElem?_eq_getElem hm2
                have hlt3 : m < us.length := by rw [← hk4.1]; exact hm2
                have hkt : us[m]? = some (us[m]'hlt3) := List.getElem?_eq_getElem hlt3
                have hN2 := hk4.2 m _ _ hkp hkt
                obtain ⟨d1, d2, d3⟩ := HD.out m _ hkt
                rw [← hF.cell hbo hbp] at d1 d2 d3
                generalize us[m]'hlt3 = tm at *
                obtain ⟨s9, A9, n9, c9, B9, m9, e9, rfl⟩ := hN2.form
                simp only at d1 d2 d3
                have c140 := q3.cell 0
                simp at c140
                have HF := Lib.hid hF
                have Hq := Lib.hid (And.intro q1 (And.intro q2 q3))
                have hbl2 : b < wr.heap.size := by omega
                have hmi : (0 : Int) ≤ (m : Int) := by omega
                clear hkt hkp hk4 hN2 hF q1 q2 q3
                by_cases hs : kn = s9
                · have hs2 : kn.toList = s9.toList := by rw [hs]
                  go_wp2_with fail
                  go_ret
                  exact ⟨HF.out.alloc (by omega) _, .inl rfl⟩
                · have hs2 := str_ne hs
                  go_wp2_with fail
                  obtain ⟨q1, q2, q3⟩ := Hq.out
                  go_roundw
                  case rel => exact ⟨m + 1, by omega, by go_num, HF.out.alloc (by omega) _, q1.alloc _, q2.alloc _, q3.alloc _⟩
                  case measure => simp [intOf]; omega
              · have HF := Lib.hid hF
                have Hq := Lib.hid (And.intro q1 (And.intro q2 q3))
                clear hF q1 q2 q3
                go_wp2_with fail
                obtain ⟨q1, q2, q3⟩ := Hq.out
                refine ⟨⟨k + 1, by omega, by go_num, HF.out, q1, by rw [Hr4.out]; exact q2, by rw [Hr4.out]; omega, ?_, ?_⟩, by simp [intOf]; omega⟩
                · exact Hpr.out.2.2.2.2 ⟨Hpr.out.1, Hpp.out.1⟩
                · have h1 := Hpr.out.2.1
                  have h2 := Hpr.out.2.2.1
                  have h3 := Hpp.out.2
                  omega
        · obtain rfl : k = ks.length := by omega
          rw [List.take_length] at q2 hr3 hpr hdp
          have HF := Lib.hid hF
          have Hq := Lib.hid q2
          have Hpr := Lib.hid (And.intro hpr hdp)
          clear hF q1 q2 hpr hdp
          go_wp2_with fail
          go_ret
          refine ⟨HF.out, .inr ⟨rfl, ⟨?_, Hnm.out, Hpr.out.1⟩, ?_, ?_, ?_⟩⟩
          · exact Hname.out
          · have := Hpr.out.2
            simp only [Nd.depth]
            omega
          · simp only [Nd.costQ]
            omega
          · have e : r - ((Nd.mk name ps ks).costQ : Int) = r - 8 - (costQP ps : Int) - (costQL ks : Int) := by
              simp only [Nd.costQ]
              omega
            rw [e]
            exact Hq.out

theorem prop_kid : ∀ deep : Nat, deep ≤ 12 → PropAll false deep
  | 0, h => fun w ok p n t r h1 h2 h3 h4 h5 h6 => prop_early false w ok p n t 0 r h1 h2 h3 h4 h5 h6 (.inr rfl) h
  | deep + 1, h => fun w ok p n t r h1 h2 h3 h4 h5 h6 => by
    by_cases hr : r < 8
    · exact prop_early false w ok p n t (deep + 1) r h1 h2 h3 h4 h5 h6 (.inl hr) h
    · rw [show ((deep + 1 : Nat) : Int) = (deep : Int) + 1 from by omega]
      exact prop_false w ok p n t deep r (by omega) h2 h3 h4 h5 h6 h (prop_kid deep (by omega))

theorem prop_root (deep : Nat) (h : deep + 1 ≤ 12) : PropAll true (deep + 1) := fun w ok p n t r h1 h2 h3 h4 h5 h6 => by
  by_cases hr : r < 8
  · exact prop_early true w ok p n t (deep + 1) r h1 h2 h3 h4 h5 h6 (.inl hr) h
  · rw [show ((deep + 1 : Nat) : Int) = (deep : Int) + 1 from by omega]
    exact prop_true w ok p n t deep r (by omega) h2 h3 h4 h5 h6 h (prop_kid deep (by omega))
end Go.Proofs.Ytlbhadggfipckaa
