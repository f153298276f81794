/-
  Node.Find, FDT.NodeByName, impl.Find.
-/
import Derived.Test.YtlbhadggfipckaaGd
set_option linter.unusedVariables false
set_option linter.unusedSimpArgs false
namespace Go.Proofs.Ytlbhadggfipckaa
open Go.RowKit

theorem byname_walk (w : World) (b x : Nat) (name s : ByteArray) (c0 : w.cell? ⟨b, 0, none⟩ = some (.string name)) (c1 : w.cell? ⟨x, 0, none⟩ = some (.string s)) :
    Calls Try.prog 60 #[.pointer (some ⟨b, 0, none⟩), .pointer (some ⟨x, 0, none⟩)] w fun e w' => e = .returned (.bool (decide (name = s))) ∧ Below w.heap.size w w' := by
  by_cases hs : name = s
  · subst hs
    go_enter Try.func60, Try.ntmps60
    go_wp2_with fail
    go_quiet (fail)
    go_wp2_with fail
    go_ret
    exact ⟨by simp, ⟨rfl, rfl, rfl, Nat.le_refl _, fun _ _ => rfl⟩⟩
  · have hs2 := str_ne hs
    have hd : decide (name = s) = false := decide_eq_false hs
    rw [hd]
    clear hd
    go_enter Try.func60, Try.ntmps60
    go_wp2_with fail
    go_quiet (fail)
    go_wp2_with fail
    go_ret
    exact ⟨rfl, ⟨rfl, rfl, rfl, Nat.le_refl _, fun _ _ => rfl⟩⟩

def ptrOf : Option Nat → Value
  | some b => .pointer (some ⟨b, 0, none⟩)
  | none => .pointer none

def NFindPost (w : World) (r : Option Nat) (e : Ending) (w' : World) : Prop := e = .returned (.tuple #[ptrOf r, .bool r.isSome]) ∧ Below w.heap.size w w'

theorem nfind_walk (s : ByteArray) (x : Nat) (lt : LT) : ∀ (w : World) (ok : Nat → Prop), (∀ k, ok k → k < w.heap.size) → PN w ok lt → x < w.heap.size → w.cell? ⟨x, 0, none⟩ = some (.string s) →
    Calls Try.prog 59 #[.pointer (some ⟨lt.b, 0, none⟩), .func (.func 60) #[] #[.pointer (some ⟨x, 0, none⟩)]] w (NFindPost w (lt.findA s)) := by
  refine LT.ind (P := fun lt => ∀ (w : World) (ok : Nat → Prop), (∀ k, ok k → k < w.heap.size) → PN w ok lt → x < w.heap.size → w.cell? ⟨x, 0, none⟩ = some (.string s) → Calls Try.prog 59 #[.pointer (some ⟨lt.b, 0, none⟩), .func (.func 60) #[] #[.pointer (some ⟨x, 0, none⟩)]] w (NFindPost w (lt.findA s))) ?_ lt
  intro b name ps ks IH w ok hok hn hxl hx
  obtain ⟨vp, A, c, hob, hns, hcs, hps, hl1, hl2, hl3, hks, hrow⟩ := hn.open_
  have hfd : (LT.mk b name ps ks).findA s = if name = s then some b else findAL s ks := by simp only [LT.findA]
  have c0 := hcs.cell 0
  have c2 := hcs.cell 2
  simp at c0 c2
  have hbl0 := hok b hob
  have Hk := Lib.hid hks
  have Hr := Lib.hid hrow
  have IH := Lib.hid IH
  have HB := byname_walk w b x name s c0 hx
  have HB := Lib.hid HB
  clear hps hn hks hrow hcs
  show Calls Try.prog 59 #[.pointer (some ⟨b, 0, none⟩), .func (.func 60) #[] #[.pointer (some ⟨x, 0, none⟩)]] w _
  by_cases hs : name = s
  · rw [if_pos hs] at hfd
    rw [hfd]
    have hd : decide (name = s) = true := decide_eq_true hs
    rw [hd] at HB
    clear hfd hs hd
    go_enter Try.func59, Try.ntmps59
    go_wp2_with (go_at_call 60; refine HB.out.mono ?_; rintro e w1 ⟨rfl, hb⟩)
    refine bodyPost_ret (v := .tuple #[.pointer (some ⟨b, 0, none⟩), .bool true]) (by simp [results, Try.results59, go_sem]) rfl ?_
    exact ⟨rfl, hb⟩
  · rw [if_neg hs] at hfd
    rw [hfd]
    have hd : decide (name = s) = false := decide_eq_false hs
    rw [hd] at HB
    clear hfd hs hd
    go_enter Try.func59, Try.ntmps59
    go_wp2_with (go_at_call 60; refine HB.out.mono ?_; rintro e w1 ⟨rfl, hb⟩; have c2' : w1.cell? ⟨b, 2, none⟩ = some (.slice A ks.length c) := (hb.cell hbl0).trans c2)
    go_loopw [22] (fun i wr => ∃ k : Nat, k ≤ ks.length ∧ i = .int .i64 k ∧ Below w.heap.size w wr ∧ findAL s (ks.take k) = none) (fun i _ => ks.length - (intOf i).toNat)
    case atStart => exact ⟨0, by omega, by go_num, hb, rfl⟩
    case round =>
      obtain ⟨k, hk, rfl, hF, hno⟩ := hrel
      clear hb c2'
      by_cases hlt : k < ks.length
      · have hne : ks ≠ [] := by rintro rfl; simp at hlt
        obtain ⟨g, o, rfl, hog, hD⟩ := Hr.out.resolve_left hne
        have d1 := hD k ks[k] (List.getElem?_eq_getElem hlt)
        have hgo := hok g hog
        have tr : ∀ x y, x < w.heap.size → wr.cell? ⟨x, y, none⟩ = w.cell? ⟨x, y, none⟩ := fun x y hx => (World.cell?_of_block (a := ⟨x, y, none⟩) (hF.block x hx))
        rw [← tr g _ hgo] at d1
        have sz := hF.size
        have hgl : g < wr.heap.size := by omega
        have hki : (0 : Int) ≤ (k : Int) := by omega
        have hI := IH.out ks[k] (List.getElem_mem hlt) wr ok (fun x hx => by have := hok x hx; omega) ((Hk.out _ (List.getElem_mem hlt)).mono (Same.of_below hF hok) (fun _ h => h)) (by omega) ((tr x 0 hxl).trans hx)
        have hst : findAL s (ks.take (k + 1)) = ks[k].findA s := by rw [List.take_succ_eq_append_getElem hlt]; exact findAL_snoc s _ _ hno
        have hfl : ∀ l, ks[k].findA s = some l → findAL s ks = some l := fun l hl => by
          rw [← List.take_append_drop (k + 1) ks]
          exact findAL_some s _ _ l (hst.trans hl)
        have HI := Lib.hid hI
        have HF := Lib.hid hF
        have Hst := Lib.hid (And.intro hst hfl)
        clear hD hI hF tr hst hfl hno c0 c2
        generalize hfr : ks[k].findA s = fr at *
        cases fr with
        | none =>
          go_wp2_with (go_at_call 59; refine HI.out.mono ?_; rintro e w1 ⟨rfl, hb⟩; simp only [ptrOf])
          go_roundw
          case rel => exact ⟨k + 1, by omega, by go_num, HF.out.trans (hb.mono (by omega)), Hst.out.1⟩
          case measure => simp [intOf]; omega
        | some l =>
          go_wp2_with (go_at_call 59; refine HI.out.mono ?_; rintro e w1 ⟨rfl, hb⟩; simp only [ptrOf])
          refine bodyPost_ret (v := .tuple #[.pointer (some ⟨l, 0, none⟩), .bool true]) (by simp [results, Try.results59, go_sem]) rfl ?_
          rw [Hst.out.2 l rfl]
          exact ⟨rfl, HF.out.trans (hb.mono (by omega))⟩
      · obtain rfl : k = ks.length := by omega
        rw [List.take_length] at hno
        clear c0 c2
        have HF := Lib.hid hF
        clear hF
        go_wp2_with fail
        refine bodyPost_ret (v := .tuple #[.pointer none, .bool false]) (by simp [results, Try.results59, go_sem]) rfl ?_
        rw [hno]
        exact ⟨rfl, HF.out⟩

theorem nodebyname_walk (s : ByteArray) (lt : LT) (w : World) (ok : Nat → Prop) (f : Nat) (hok : ∀ k, ok k → k < w.heap.size) (hn : PN w ok lt) (hf : w.cell? ⟨f, 11, none⟩ = some (.pointer (some ⟨lt.b, 0, none⟩))) :
    Calls Try.prog 38 #[.pointer (some ⟨f, 0, none⟩), .string s] w (NFindPost w (lt.findA s)) := by
  have hmf : ∀ (fn : Fn) (first cap : Array Value) (w : World), (Instr.makeFunc fn first cap).run Try.prog w = .ok (.func fn first cap) w := fun _ _ _ _ => rfl
  have hfl := World.block_lt_of_cell? w _ hf
  simp at hfl
  have hI := nfind_walk s w.heap.size lt (w.alloc (.cells #[.string s] 9)) ok (fun x hx => by have := hok x hx; simp; omega) (hn.mono (Same.of_below ((Below.refl _ _).alloc (Nat.le_refl _) _) hok) (fun _ h => h)) (by simp) (by simp [go_sem])
  have HI := Lib.hid hI
  clear hI hn
  go_enter Try.func38, Try.ntmps38
  go_wp2_with fail
  refine HI.out.mono ?_
  rintro e w1 ⟨rfl, hb⟩
  have Hb := Lib.hid hb
  clear hb hmf
  generalize lt.findA s = fr at *
  cases fr with
  | none =>
    simp only [ptrOf]
    go_wp2_with fail
    refine bodyPost_ret (v := .tuple #[.pointer none, .bool false]) (by simp [results, Try.results38, go_sem]) rfl ?_
    exact ⟨rfl, ((Below.refl _ _).alloc (Nat.le_refl _) _).trans (Hb.out.mono (by simp))⟩
  | some l =>
    simp only [ptrOf]
    go_wp2_with fail
    refine bodyPost_ret (v := .tuple #[.pointer (some ⟨l, 0, none⟩), .bool true]) (by simp [results, Try.results38, go_sem]) rfl ?_
    exact ⟨rfl, ((Below.refl _ _).alloc (Nat.le_refl _) _).trans (Hb.out.mono (by simp))⟩

/-- The block of a node that has been found. -/
theorem pn_mem {w : World} {ok : Nat → Prop} (lt : LT) : PN w ok lt → ∀ q, q ∈ lt.flat → ∃ cs, Cs w q cs := by
  refine LT.ind (P := fun lt => PN w ok lt → ∀ q, q ∈ lt.flat → ∃ cs, Cs w q cs) ?_ lt
  intro b name ps ks IH h q hq
  obtain ⟨vp, A, c, hob, hns, hcs, hps, hl1, hl2, hl3, hks, hrow⟩ := h.open_
  simp only [LT.flat, flatL_eq] at hq
  rcases List.mem_cons.1 hq with rfl | hq
  · exact ⟨_, hcs⟩
  · obtain ⟨k, hk, hq⟩ := List.mem_flatMap.1 hq
    exact IH k hk (hks k hk) q hq

theorem own_mono {w : World} {base base' n : Nat} {e : TypeId} {size : Nat} {v : Value} {xs : List Value} (h : w.ownsRow base e size v n xs) (hb : base' ≤ base) : w.ownsRow base' e size v n xs :=
  ⟨h.1, h.2.imp id fun ⟨g, cap, cur, hv, h1, rest⟩ => ⟨g, cap, cur, hv, by omega, rest⟩⟩

theorem rng_lt (w w1 : World) : ∀ x, Rng w w1 x → x < w1.heap.size := fun x hx => hx.2

def FindClos (w : World) (pv : Nat) (r : Option (List ByteArray)) (e : Ending) (w' : World) : Prop :=
  e = .returned (.bool r.isSome) ∧ Fr w.heap.size (· = pv) w w' ∧ ∃ v, Cs w' pv #[v] ∧ ∀ l, r = some l → StrR w' w.heap.size v l ∧ 1 ≤ l.length

set_option maxHeartbeats 1000000 in
theorem findclos_walk (s : ByteArray) (t : Tr) (cs : Array Value) (w : World) (ok : Nat → Prop) (p0 p1 pv : Nat) (y : Value) (hok : ∀ k, ok k → k < w.heap.size) (hpv : ¬ ok pv) (ht : TreeC w ok t cs) (h0 : Cs w p0 cs) (h1 : Cs w p1 #[.string s]) (h2 : Cs w pv #[y]) (n0 : p0 ≠ pv) (n1 : p1 ≠ pv) (hd : t.root.depth ≤ 1000) :
    Calls Try.prog 36 #[.pointer (some ⟨p0, 0, none⟩), .pointer (some ⟨p1, 0, none⟩), .pointer (some ⟨pv, 0, none⟩)] w (FindClos w pv (t.root.find s)) := by
  have hin := fun (w : World) (a : Option Addr) (n c : Nat) => Lib.run_eql_slice_nil (P := Try.prog) w 51 9 a n c 0 0 Try.underlying51
  obtain ⟨vr, ⟨k1, k2, k3⟩, rfl, hr, hn, hb⟩ := ht
  obtain ⟨s1, A3, n3, c3, A4, n4, c4, hk⟩ := id hn.form
  simp only [Prod.mk.injEq] at hk
  obtain ⟨rfl, rfl, rfl⟩ := hk
  have hG := given_walk t.root w ok _ hok hn
  have HG := Lib.hid hG
  have a4 := h0.cell 4
  have a5 := h0.cell 5
  have a6 := h0.cell 6
  have b0 := h1.cell 0
  have d0 := h2.cell 0
  have f0 := h2.frozen 0
  simp at a4 a5 a6 b0 d0
  have l0 := h0.lt
  have l1 := h1.lt
  have l2 := h2.lt
  have H1 := Lib.hid h1
  have H2 := Lib.hid h2
  clear hr hn hb hG h0 h1 h2
  go_enter Try.func36, Try.ntmps36
  go_wp2_with fail
  refine HG.out.mono ?_
  rintro e w1 ⟨lt, rfl, her, hpn, hb, hnd, hfl⟩
  have b0' : w1.cell? ⟨p1, 0, none⟩ = some (.string s) := (hb.cell l1).trans b0
  have s1z := hb.size
  have l1' : p1 < w1.heap.size := by omega
  have HB := Lib.hid hb
  have Hpn := Lib.hid hpn
  have Hnd := Lib.hid (And.intro her (And.intro hnd hfl))
  clear hb hpn her hnd hfl a4 a5 a6 b0
  go_wp2_with fail
  have hrl := rng_lt w w1
  have hB1 : Below w1.heap.size w1 (w1.alloc (.cells #[.int .u32 0, .int .u32 0, .int .u32 0, .int .u32 0, .int .u32 0, .int .u32 0, .int .u32 0, .int .u32 0, .int .u32 0, .int .u32 0, .slice none 0 0, .pointer (some ⟨lt.b, 0, none⟩)] 93)) := (Below.refl w1.heap.size w1).alloc (Nat.le_refl _) _
  refine (nodebyname_walk s lt (w1.alloc (.cells #[.int .u32 0, .int .u32 0, .int .u32 0, .int .u32 0, .int .u32 0, .int .u32 0, .int .u32 0, .int .u32 0, .int .u32 0, .int .u32 0, .slice none 0 0, .pointer (some ⟨lt.b, 0, none⟩)] 93)) (Rng w w1) w1.heap.size (fun x hx => Nat.lt_of_lt_of_le (hrl x hx) hB1.size) (PN.mono (Same.of_below hB1 hrl) (fun _ h => h) Hpn.out) (by simp [go_sem])).mono ?_
  rintro e w2 ⟨rfl, hb2⟩
  have e11 : w2.cell? ⟨w1.heap.size, 11, none⟩ = some (.pointer (some ⟨lt.b, 0, none⟩)) := (hb2.cell (by simp)).trans (by simp [go_sem])
  have s2z := hb2.size
  simp at s2z
  have HB3 := Lib.hid (hB1.trans (hb2.mono hB1.size))
  have HB2 := Lib.hid (HB.out.trans (HB3.out.mono s1z))
  clear hb2 hB1
  rcases hfa : lt.findA s with _ | q
  all_goals simp only [ptrOf]
  all_goals have Hfa := Lib.hid hfa
  all_goals clear hfa
  · go_wp2_with fail
    go_ret
    have hno : t.root.find s = none := by rw [← Hnd.out.1]; exact LT.find_none s lt Hfa.out
    rw [hno]
    exact ⟨rfl, Fr.of_below HB2.out, y, H2.out.below HB2.out l2, fun l h => by cases h⟩
  · obtain ⟨csq, hcq⟩ := pn_mem lt Hpn.out q (LT.findA_mem s lt q Hfa.out)
    have hql := (Hnd.out.2.2 q (LT.findA_mem s lt q Hfa.out)).2
    obtain ⟨hw1, hw2⟩ := LT.way_find s lt q Hnd.out.2.1 Hfa.out
    rw [Hnd.out.1] at hw1 hw2
    obtain ⟨l, hl⟩ := Option.isSome_iff_exists.1 hw2
    have hlen := (Nd.find_len s t.root l hl).1
    have WH := way_walk q lt w2 (Rng w w1) (fun x hx => by have := hrl x hx; omega) (PN.mono (Same.of_below HB3.out hrl) (fun _ h => h) Hpn.out) (by rw [Hnd.out.1]; exact hd) csq (hcq.below HB3.out hql)
    rw [hw1, hl] at WH
    have Hl := Lib.hid hl
    have WH := Lib.hid WH
    have H3 := Lib.hid (H2.out.below HB2.out l2)
    clear hw1 hw2 hl hcq d0 f0
    go_wp2_with fail
    refine WH.out.mono ?_
    rintro e w3 ⟨v, rfl, hb3, hst, -⟩
    obtain ⟨A5, c5, rfl⟩ := own_slice hst
    obtain ⟨g5, rfl⟩ := own_some hst hlen
    have h3 := H3.out.below hb3 (by omega)
    have d0 := h3.cell 0
    have f0 := h3.frozen 0
    simp at d0
    have l3 := h3.lt
    have hfin : FindClos w pv (t.root.find s) (.returned (.bool true)) (w3.setCell ⟨pv, 0, none⟩ (.slice (some ⟨g5, 0, none⟩) l.length c5)) := by
      rw [Hl.out]
      refine ⟨rfl, (Fr.of_below (HB2.out.trans (hb3.mono (by omega)))).setCell (X := (· = pv)) (p := ⟨pv, 0, none⟩) (.inr rfl) _, _, h3.set_ 0 _, fun l' h => ?_⟩
      cases h
      exact ⟨own_mono (ownsRow_setCell_below (a := ⟨pv, 0, none⟩) hst (by show pv < w2.heap.size; omega) _) (by omega), hlen⟩
    have HFIN := Lib.hid hfin
    clear h3 hfin hst hb3
    go_wp2_with fail
    go_ret
    exact HFIN.out
end Go.Proofs.Ytlbhadggfipckaa
