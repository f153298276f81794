/-
  Node.Walk over a closure.
-/
import Derived.Test.YtlbhadggfipckaaIe
set_option linter.unusedVariables false
set_option linter.unusedSimpArgs false
namespace Go.Proofs.Ytlbhadggfipckaa
open Go.RowKit

mutual
/-- The nodes in the order of the walk: names and properties. -/
def LT.nodes : LT → List (ByteArray × List Pr)
  | .mk _ n ps ks => (n, ps) :: nodesL ks
def nodesL : List LT → List (ByteArray × List Pr)
  | [] => []
  | k :: r => k.nodes ++ nodesL r
end

theorem nodesL_append : ∀ (a b : List LT), nodesL (a ++ b) = nodesL a ++ nodesL b
  | [], b => by simp [nodesL]
  | k :: a, b => by simp [nodesL, nodesL_append a b]

def WalkPost (ok : Nat → Prop) (J : List (ByteArray × List Pr) → World → Prop) (vis : List (ByteArray × List Pr)) (w : World) (e : Ending) (w' : World) : Prop :=
  e = .returned .nilIface ∧ J vis w' ∧ Same ok w w'

set_option maxHeartbeats 1000000 in
theorem walk_gen68 (mv sv : Nat) (ok : Nat → Prop) (J : List (ByteArray × List Pr) → World → Prop) (all : List (ByteArray × List Pr)) (hsz : ∀ vis w, J vis w → ∀ k, ok k → k < w.heap.size)
    (hJ : ∀ (w : World) (pre post : List (ByteArray × List Pr)) (b : Nat) (name : ByteArray) (ps : List Pr) (ks : List LT), all = pre ++ (name, ps) :: post → PN w ok (.mk b name ps ks) → J pre w →
      Calls Try.prog 68 #[.pointer (some ⟨b, 0, none⟩), .pointer (some ⟨mv, 0, none⟩), .pointer (some ⟨sv, 0, none⟩)] w (WalkPost ok J (pre ++ [(name, ps)]) w))
    (lt : LT) : ∀ (w : World) (pre post : List (ByteArray × List Pr)), all = pre ++ lt.nodes ++ post → PN w ok lt → J pre w →
      Calls Try.prog 67 #[.pointer (some ⟨lt.b, 0, none⟩), .func (.func 68) #[] #[.pointer (some ⟨mv, 0, none⟩), .pointer (some ⟨sv, 0, none⟩)]] w (WalkPost ok J (pre ++ lt.nodes) w) := by
  refine LT.ind (P := fun lt => ∀ (w : World) (pre post : List (ByteArray × List Pr)), all = pre ++ lt.nodes ++ post → PN w ok lt → J pre w →
      Calls Try.prog 67 #[.pointer (some ⟨lt.b, 0, none⟩), .func (.func 68) #[] #[.pointer (some ⟨mv, 0, none⟩), .pointer (some ⟨sv, 0, none⟩)]] w (WalkPost ok J (pre ++ lt.nodes) w)) ?_ lt
  intro b name ps ks IH w pre post hall hn hj
  have hcl := hJ w pre (nodesL ks ++ post) b name ps ks (by rw [hall]; simp [LT.nodes]) hn hj
  obtain ⟨vp, A, c, hob, hns, hcs, hps, hl1, hl2, hl3, hks, hrow⟩ := hn.open_
  have Hk := Lib.hid hks
  have Hr := Lib.hid hrow
  have IH := Lib.hid IH
  have Hcs := Lib.hid hcs
  have Hcl := Lib.hid hcl
  have Hall := Lib.hid hall
  have Hsz := Lib.hid hsz
  clear hps hn hks hrow hcs hcl hJ hall hj hsz
  show Calls Try.prog 67 #[.pointer (some ⟨b, 0, none⟩), .func (.func 68) #[] #[.pointer (some ⟨mv, 0, none⟩), .pointer (some ⟨sv, 0, none⟩)]] w (WalkPost ok J (pre ++ LT.nodes (.mk b name ps ks)) w)
  go_enter Try.func67, Try.ntmps67
  go_wp2_with fail
  refine Hcl.out.mono ?_
  rintro e w1 ⟨rfl, hj, hs⟩
  have q1 := Hcs.out.keep (hs b hob)
  have c2 := q1.cell 2
  simp at c2
  have Hs := Lib.hid hs
  have Hj := Lib.hid hj
  clear hs hj q1
  go_wp2_with fail
  go_loopw [20] (fun i wr => ∃ k : Nat, k ≤ ks.length ∧ i = .int .i64 k ∧ J (pre ++ (name, ps) :: nodesL (ks.take k)) wr ∧ Same ok w wr) (fun i _ => ks.length - (intOf i).toNat)
  case atStart => exact ⟨0, by omega, by go_num, by simpa [nodesL] using Hj.out, Hs.out⟩
  case round =>
    obtain ⟨k, hk, rfl, hj, hs⟩ := hrel
    by_cases hlt : k < ks.length
    · have hne : ks ≠ [] := by rintro rfl; simp at hlt
      obtain ⟨g, o, rfl, hog, hD⟩ := Hr.out.resolve_left hne
      have d1 := hD k ks[k] (List.getElem?_eq_getElem hlt)
      rw [← hs.cell hog] at d1
      have hki : (0 : Int) ≤ (k : Int) := by omega
      have hI := IH.out ks[k] (List.getElem_mem hlt) wr (pre ++ (name, ps) :: nodesL (ks.take k)) (nodesL (ks.drop (k + 1)) ++ post) (by
        rw [Hall.out]
        have e1 : ks = ks.take k ++ ks[k] :: ks.drop (k + 1) := by simp
        have e2 : nodesL ks = nodesL (ks.take k) ++ (ks[k].nodes ++ nodesL (ks.drop (k + 1))) := by
          conv => lhs; rw [e1, nodesL_append]
          rfl
        simp only [LT.nodes]
        rw [e2]
        simp [List.append_assoc]) ((Hk.out _ (List.getElem_mem hlt)).mono hs (fun _ h => h)) hj
      have hst : (pre ++ (name, ps) :: nodesL (ks.take k)) ++ ks[k].nodes = pre ++ (name, ps) :: nodesL (ks.take (k + 1)) := by
        rw [List.take_succ_eq_append_getElem hlt, nodesL_append]
        simp [nodesL]
      rw [hst] at hI
      have HI := Lib.hid hI
      have HS := Lib.hid hs
      clear hD hI hs hst hj c2
      generalize ks[k] = kk at *
      go_wp2_with fail
      refine HI.out.mono ?_
      rintro e w2 ⟨rfl, hj, hs⟩
      have HJ := Lib.hid (And.intro hj (HS.out.trans hs))
      clear hj hs
      go_wp2_with fail
      exact ⟨⟨k + 1, by omega, by go_num, HJ.out⟩, by simp [intOf]; omega⟩
    · obtain rfl : k = ks.length := by omega
      rw [List.take_length] at hj
      have HF := Lib.hid (And.intro hj hs)
      clear hj hs c2
      go_wp2_with fail
      go_ret
      exact ⟨rfl, HF.out⟩

set_option maxHeartbeats 1000000 in
theorem walk_gen69 (fv : Nat) (ok : Nat → Prop) (J : List (ByteArray × List Pr) → World → Prop) (all : List (ByteArray × List Pr)) (hsz : ∀ vis w, J vis w → ∀ k, ok k → k < w.heap.size)
    (hJ : ∀ (w : World) (pre post : List (ByteArray × List Pr)) (b : Nat) (name : ByteArray) (ps : List Pr) (ks : List LT), all = pre ++ (name, ps) :: post → PN w ok (.mk b name ps ks) → J pre w →
      Calls Try.prog 69 #[.pointer (some ⟨b, 0, none⟩), .pointer (some ⟨fv, 0, none⟩)] w (WalkPost ok J (pre ++ [(name, ps)]) w))
    (lt : LT) : ∀ (w : World) (pre post : List (ByteArray × List Pr)), all = pre ++ lt.nodes ++ post → PN w ok lt → J pre w →
      Calls Try.prog 67 #[.pointer (some ⟨lt.b, 0, none⟩), .func (.func 69) #[] #[.pointer (some ⟨fv, 0, none⟩)]] w (WalkPost ok J (pre ++ lt.nodes) w) := by
  refine LT.ind (P := fun lt => ∀ (w : World) (pre post : List (ByteArray × List Pr)), all = pre ++ lt.nodes ++ post → PN w ok lt → J pre w →
      Calls Try.prog 67 #[.pointer (some ⟨lt.b, 0, none⟩), .func (.func 69) #[] #[.pointer (some ⟨fv, 0, none⟩)]] w (WalkPost ok J (pre ++ lt.nodes) w)) ?_ lt
  intro b name ps ks IH w pre post hall hn hj
  have hcl := hJ w pre (nodesL ks ++ post) b name ps ks (by rw [hall]; simp [LT.nodes]) hn hj
  obtain ⟨vp, A, c, hob, hns, hcs, hps, hl1, hl2, hl3, hks, hrow⟩ := hn.open_
  have Hk := Lib.hid hks
  have Hr := Lib.hid hrow
  have IH := Lib.hid IH
  have Hcs := Lib.hid hcs
  have Hcl := Lib.hid hcl
  have Hall := Lib.hid hall
  have Hsz := Lib.hid hsz
  clear hps hn hks hrow hcs hcl hJ hall hj hsz
  show Calls Try.prog 67 #[.pointer (some ⟨b, 0, none⟩), .func (.func 69) #[] #[.pointer (some ⟨fv, 0, none⟩)]] w (WalkPost ok J (pre ++ LT.nodes (.mk b name ps ks)) w)
  go_enter Try.func67, Try.ntmps67
  go_wp2_with fail
  refine Hcl.out.mono ?_
  rintro e w1 ⟨rfl, hj, hs⟩
  have q1 := Hcs.out.keep (hs b hob)
  have c2 := q1.cell 2
  simp at c2
  have Hs := Lib.hid hs
  have Hj := Lib.hid hj
  clear hs hj q1
  go_wp2_with fail
  go_loopw [20] (fun i wr => ∃ k : Nat, k ≤ ks.length ∧ i = .int .i64 k ∧ J (pre ++ (name, ps) :: nodesL (ks.take k)) wr ∧ Same ok w wr) (fun i _ => ks.length - (intOf i).toNat)
  case atStart => exact ⟨0, by omega, by go_num, by simpa [nodesL] using Hj.out, Hs.out⟩
  case round =>
    obtain ⟨k, hk, rfl, hj, hs⟩ := hrel
    by_cases hlt : k < ks.length
    · have hne : ks ≠ [] := by rintro rfl; simp at hlt
      obtain ⟨g, o, rfl, hog, hD⟩ := Hr.out.resolve_left hne
      have d1 := hD k ks[k] (List.getElem?_eq_getElem hlt)
      rw [← hs.cell hog] at d1
      have hki : (0 : Int) ≤ (k : Int) := by omega
      have hI := IH.out ks[k] (List.getElem_mem hlt) wr (pre ++ (name, ps) :: nodesL (ks.take k)) (nodesL (ks.drop (k + 1)) ++ post) (by
        rw [Hall.out]
        have e1 : ks = ks.take k ++ ks[k] :: ks.drop (k + 1) := by simp
        have e2 : nodesL ks = nodesL (ks.take k) ++ (ks[k].nodes ++ nodesL (ks.drop (k + 1))) := by
          conv => lhs; rw [e1, nodesL_append]
          rfl
        simp only [LT.nodes]
        rw [e2]
        simp [List.append_assoc]) ((Hk.out _ (List.getElem_mem hlt)).mono hs (fun _ h => h)) hj
      have hst : (pre ++ (name, ps) :: nodesL (ks.take k)) ++ ks[k].nodes = pre ++ (name, ps) :: nodesL (ks.take (k + 1)) := by
        rw [List.take_succ_eq_append_getElem hlt, nodesL_append]
        simp [nodesL]
      rw [hst] at hI
      have HI := Lib.hid hI
      have HS := Lib.hid hs
      clear hD hI hs hst hj c2
      generalize ks[k] = kk at *
      go_wp2_with fail
      refine HI.out.mono ?_
      rintro e w2 ⟨rfl, hj, hs⟩
      have HJ := Lib.hid (And.intro hj (HS.out.trans hs))
      clear hj hs
      go_wp2_with fail
      exact ⟨⟨k + 1, by omega, by go_num, HJ.out⟩, by simp [intOf]; omega⟩
    · obtain rfl : k = ks.length := by omega
      rw [List.take_length] at hj
      have HF := Lib.hid (And.intro hj hs)
      clear hj hs c2
      go_wp2_with fail
      go_ret
      exact ⟨rfl, HF.out⟩

end Go.Proofs.Ytlbhadggfipckaa
