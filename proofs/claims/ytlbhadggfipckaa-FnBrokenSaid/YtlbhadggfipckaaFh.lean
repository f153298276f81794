/-
  spec.some; what spec.Proper says, as plain data.
-/
import Derived.Test.YtlbhadggfipckaaFg
set_option linter.unusedVariables false
set_option linter.unusedSimpArgs false
namespace Go.Proofs.Ytlbhadggfipckaa
open Go.RowKit

mutual
def Nd.has : Nd → Prop
  | .mk _ ps ks => ps ≠ [] ∨ hasL ks
def hasL : List Nd → Prop
  | [] => False
  | k :: r => k.has ∨ hasL r
end

theorem hasL_of_mem : ∀ {ks : List Nd} {x : Nd}, x ∈ ks → x.has → hasL ks
  | k :: r, x, h, hx => by
    rcases List.mem_cons.1 h with rfl | h
    · exact .inl hx
    · exact .inr (hasL_of_mem h hx)

mutual
def Nd.proper : Nd → Prop
  | .mk n ps ks => NameP n ∧ (∀ p ∈ ps, NameP p.name) ∧ properL ks
def properL : List Nd → Prop
  | [] => True
  | k :: r => k.proper ∧ properL r
end

theorem properL_append : ∀ (a b : List Nd), properL (a ++ b) ↔ properL a ∧ properL b
  | [], b => by simp [properL]
  | p :: a, b => by simp [properL, properL_append a b, and_assoc]

def ProperR (root : Bool) : Nd → Prop
  | .mk n ps ks => (if root then n = ⟨#[]⟩ else NameP n) ∧ (∀ p ∈ ps, NameP p.name) ∧ properL ks

def costQP : List Pr → Nat
  | [] => 0
  | p :: r => 8 + p.val.length + costQP r

mutual
def Nd.costQ : Nd → Nat
  | .mk _ ps ks => 8 + costQP ps + costQL ks
def costQL : List Nd → Nat
  | [] => 0
  | k :: r => k.costQ + costQL r
end

theorem costQP_append : ∀ (a b : List Pr), costQP (a ++ b) = costQP a + costQP b
  | [], b => by simp [costQP]
  | p :: a, b => by simp [costQP, costQP_append a b]; omega
theorem costQL_append : ∀ (a b : List Nd), costQL (a ++ b) = costQL a + costQL b
  | [], b => by simp [costQL]
  | p :: a, b => by simp [costQL, costQL_append a b]; omega

theorem costQP_take (ps : List Pr) (k : Nat) (h : k < ps.length) : costQP (ps.take (k + 1)) = costQP (ps.take k) + (8 + ps[k].val.length) := by
  rw [List.take_succ_eq_append_getElem h, costQP_append]
  simp [costQP]
theorem costQL_take (ks : List Nd) (k : Nat) (h : k < ks.length) : costQL (ks.take (k + 1)) = costQL (ks.take k) + ks[k].costQ ∧ depthL (ks.take (k + 1)) = max (depthL (ks.take k)) ks[k].depth ∧ (properL (ks.take (k + 1)) ↔ properL (ks.take k) ∧ ks[k].proper) := by
  rw [List.take_succ_eq_append_getElem h, costQL_append, depthL_append, properL_append]
  simp [costQL, depthL, properL]

/-- spec.some -/
def SomePost (w : World) (n : Nd) (e : Ending) (w' : World) : Prop := (e = .returned (.bool false) ∨ e = .returned (.bool true) ∧ n.has) ∧ Below w.heap.size w w'

theorem some_walk (n : Nd) : ∀ (w : World) (ok : Nat → Prop) (t : Value × Value × Value), (∀ k, ok k → k < w.heap.size) → NodeC w ok n t → Calls Try.prog 34 #[.agg #[t.1, t.2.1, t.2.2]] w (SomePost w n) := by
  refine Nd.ind (P := fun n => ∀ (w : World) (ok : Nat → Prop) (t : Value × Value × Value), (∀ k, ok k → k < w.heap.size) → NodeC w ok n t → Calls Try.prog 34 #[.agg #[t.1, t.2.1, t.2.2]] w (SomePost w n)) ?_ n
  intro name ps ks IH w ok t hok hn
  obtain ⟨vp, vk, rfl, hns, hps, hks⟩ := hn.open_
  obtain ⟨Ap, cp, ts, rfl, hp1, hp2, hp3, hp4, hp5⟩ := hps
  obtain ⟨Ak, ck, us, rfl, hk1, hk2, hk3, hk4, hk5⟩ := hks
  have Hk4 := Lib.hid hk4
  have Hk5 := Lib.hid hk5
  have IH := Lib.hid IH
  clear hp4 hp5 hk4 hk5 hn
  go_enter Try.func34, Try.ntmps34
  go_wp2_with fail
  go_loopw [8] (fun i wr => ∃ k : Nat, k ≤ ks.length ∧ i = .int .i64 k ∧ Below w.heap.size w wr ∧ Cs wr w.heap.size #[.string name, .slice Ap ps.length cp, .slice Ak ks.length ck]) (fun i _ => ks.length - (intOf i).toNat)
  case atStart => exact ⟨0, by omega, by go_num, (Below.refl _ _).alloc (by omega) _, Cs.new' _ _ _ _ rfl⟩
  case round =>
    obtain ⟨k, hk, rfl, hF, q⟩ := hrel
    have z := q.lt
    by_cases hlt : k < ks.length
    · have hne : ks ≠ [] := by rintro rfl; simp at hlt
      obtain ⟨b, o, rfl, hob, hD⟩ := Hk5.out.resolve_left hne
      have hk4 := Hk4.out
      have hkp : ks[k]? = some ks[k] := List.getElem?_eq_getElem hlt
      have hlt2 : k < us.length := by rw [← hk4.1]; exact hlt
      have hkt : us[k]? = some (us[k]'hlt2) := List.getElem?_eq_getElem hlt2
      have hN := hk4.2 k _ _ hkp hkt
      obtain ⟨d1, d2, d3⟩ := hD k _ hkt
      have hbo := hok b hob
      have tr : ∀ x, w.cell? ⟨b, x, none⟩ = wr.cell? ⟨b, x, none⟩ := fun x => (World.cell?_of_block (a := ⟨b, x, none⟩) (hF.block b hbo)).symm
      rw [tr] at d1 d2 d3
      generalize us[k]'hlt2 = tk at *
      obtain ⟨s1, A3, n3, c3, A4, n4, c4, rfl⟩ := hN.form
      simp only at d1 d2 d3
      have hbl : b < wr.heap.size := by omega
      have hki : (0 : Int) ≤ (k : Int) := by omega
      have hI := IH.out ks[k] (List.getElem_mem hlt) (wr.alloc (.cells #[.string s1, .slice A3 n3 c3, .slice A4 n4 c4] 46)) ok _ (fun x hx => by have := hok x hx; simp; omega) (NodeC.mono (Same.of_below (hF.alloc (by omega) _) hok) (fun _ h => h) hN)
      have HI := Lib.hid hI
      have HF := Lib.hid hF
      have Hq := Lib.hid q
      have hhas : ks[k].has → (Nd.mk name ps ks).has := fun h => .inr (hasL_of_mem (List.getElem_mem hlt) h)
      have Hhas := Lib.hid hhas
      clear hkt hkp hD hk4 hN hI hF q tr hhas
      go_wp2_with (go_at_call 34; refine HI.out.mono ?_; rintro e w1 ⟨h | ⟨h, hh⟩, hb⟩)
      · subst h
        go_wp2_with fail
        go_roundw
        case rel => exact ⟨k + 1, by omega, by go_num, (HF.out.alloc (by omega) _).trans (hb.mono (by simp; omega)), (Hq.out.alloc _).below hb (by simp; omega)⟩
        case measure => simp [intOf]; omega
      · subst h
        go_wp2_with fail
        go_ret
        exact ⟨.inr ⟨rfl, Hhas.out hh⟩, (HF.out.alloc (by omega) _).trans (hb.mono (by simp; omega))⟩
    · obtain rfl : k = ks.length := by omega
      have c0 := q.cell 0
      have c1 := q.cell 1
      have c2 := q.cell 2
      simp at c0 c1 c2
      by_cases hp0 : 0 < ps.length
      · have hh : (Nd.mk name ps ks).has := .inl (by rintro rfl; simp at hp0)
        have Hh := Lib.hid hh
        have HF := Lib.hid hF
        clear hh hF q
        go_wp2_with fail
        go_ret
        exact ⟨.inr ⟨rfl, Hh.out⟩, HF.out⟩
      · have hd : decide ((0:Int) < (ps.length : Int)) = false := decide_eq_false (by omega)
        have HF := Lib.hid hF
        clear hF q
        go_wp2_with fail
        go_ret
        exact ⟨.inl rfl, HF.out⟩
end Go.Proofs.Ytlbhadggfipckaa
