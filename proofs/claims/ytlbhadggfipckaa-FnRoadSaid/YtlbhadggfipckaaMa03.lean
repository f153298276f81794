/-
  laws.node: a node of the reference, cut where it is too deep or too large.
-/
import Derived.Test.YtlbhadggfipckaaMa02
import Derived.Deep.RegionHeld3
import Derived.Deep.DrawnRows
set_option linter.unusedVariables false
set_option linter.unusedSimpArgs false
namespace Go.Proofs.Ytlbhadggfipckaa
open Go.RowKit

theorem info125 : (Try.prog.info? 125).map (fun i => (i.zero, i.size, i.bytes)) = some (some (.agg #[.string ⟨#[]⟩, .slice none 0 0]), 2, 40) := by kernel_rfl
theorem info46 : (Try.prog.info? 46).map (fun i => (i.zero, i.size, i.bytes)) = some (some (.agg #[.string ⟨#[]⟩, .slice none 0 0, .slice none 0 0]), 3, 64) := by kernel_rfl
theorem el43 : Elem Try.prog 43 125 2 40 := by
  obtain ⟨i, hi, hz0, hz1, hz2⟩ := info_parts info125
  exact ⟨Try.underlying43, i, _, hi, hz0, hz1, hz2, rfl, by omega⟩
theorem el44 : Elem Try.prog 44 46 3 64 := by
  obtain ⟨i, hi, hz0, hz1, hz2⟩ := info_parts info46
  exact ⟨Try.underlying44, i, _, hi, hz0, hz1, hz2, rfl, by omega⟩

/-- The blocks that 'ok' names, and those that came between two worlds. -/
def Blo (ok : Nat → Prop) (w w' : World) : Nat → Prop := fun k => ok k ∨ (w.heap.size ≤ k ∧ k < w'.heap.size)

def NodePost (w : World) (ok : Nat → Prop) (p : Nat) (n : Nd) (deep : Nat) (r : Int) (e : Ending) (w' : World) : Prop :=
  ∃ x t r', e = .returned (.agg #[t.1, t.2.1, t.2.2]) ∧ NodeC w' (Blo ok w w') x t ∧ Cs w' p #[.int .i64 r'] ∧ Fr w.heap.size (· = p) w w' ∧ CutRel deep r n x r'

def badN : Nd := .mk ⟨#[0]⟩ [] []
def badT : Value × Value × Value := (.string ⟨#[0]⟩, .slice none 0 0, .slice none 0 0)

theorem badN_c (w : World) (ok : Nat → Prop) : NodeC w ok badN badT :=
  .shut (by decide) ⟨none, 0, [], rfl, by simp, by simp, by simp [maxLen], Each.nil, .inl rfl⟩ ⟨none, 0, [], rfl, by simp, by simp, by simp [maxLen], Each.nil, .inl rfl⟩

theorem badN_bad : badN.bad := .inl rfl

/-- An end with the node that is none. -/
theorem bad_end {w w' : World} {ok : Nat → Prop} {p : Nat} {n : Nd} {deep : Nat} {r r' : Int} (hf : Fr w.heap.size (· = p) w w') (hc : Cs w' p #[.int .i64 r']) (h1 : -140737488351240 ≤ r') (h2 : r' ≤ r) (hno : ¬ ((n.cost : Int) ≤ r ∧ n.depth ≤ deep)) :
    NodePost w ok p n deep r (.returned (.agg #[.string ⟨#[0]⟩, .slice none 0 0, .slice none 0 0])) w' :=
  ⟨badN, badT, r', rfl, badN_c _ _, hc, hf, .inr ⟨badN_bad, hno, h1, h2⟩⟩

theorem cost_pos : ∀ n : Nd, 1 ≤ n.cost
  | .mk _ ps ks => by simp only [Nd.cost]; omega
theorem depth_pos : ∀ n : Nd, 1 ≤ n.depth
  | .mk _ ps ks => by simp only [Nd.depth]; omega

theorem node_early (w : World) (ok : Nat → Prop) (p : Nat) (n : Nd) (t : Value × Value × Value) (deep : Nat) (r : Int) (hr0 : 0 ≤ r) (hr1 : r ≤ 10000) (hok : ∀ k, ok k → k < w.heap.size) (hp : ¬ ok p) (hn : NodeC w ok n t) (hc : Cs w p #[.int .i64 r])
    (he : r < 1 ∨ deep = 0) (hd : deep ≤ 12) :
    Calls Try.prog 33 #[.agg #[t.1, t.2.1, t.2.2], .int .i64 (deep : Int), .pointer (some ⟨p, 0, none⟩)] w (NodePost w ok p n deep r) := by
  have hpl := hc.lt
  have c0 := hc.cell 0
  have f0 := hc.frozen 0
  simp at c0
  have hfin : ∀ (cs cs' : Array Value), Fr w.heap.size (· = p) w (((w.setCell ⟨p, 0, none⟩ (.int .i64 (r - 1))).alloc (.cells cs 38)).alloc (.cells cs' 46)) ∧ Cs (((w.setCell ⟨p, 0, none⟩ (.int .i64 (r - 1))).alloc (.cells cs 38)).alloc (.cells cs' 46)) p #[.int .i64 (r - 1)] := fun cs cs' =>
    ⟨(((Fr.refl w.heap.size (· = p) w).setCell (p := ⟨p, 0, none⟩) (.inr rfl) _).alloc (by simp [World.setCell]) _).alloc (by simp [World.setCell]) _, ((hc.set_ 0 _).alloc _).alloc _⟩
  have Hc := Lib.hid hc
  have hcp := cost_pos n
  have hdp := depth_pos n
  clear hc hn
  by_cases h1 : r < 1
  · have Hfin := Lib.hid hfin
    clear hfin
    go_enter Try.func33, Try.ntmps33
    go_wp2_with fail
    refine bodyPost_ret (v := .agg #[.string ⟨#[0]⟩, .slice none 0 0, .slice none 0 0]) (by simp [results, Try.results33, go_sem]) rfl ?_
    exact bad_end (Hfin.out _ _).1 (Hfin.out _ _).2 (by omega) (by omega) (by omega)
  · obtain rfl : deep = 0 := by omega
    have hd1 : decide (r - 1 < 0) = false := decide_eq_false (by omega)
    have Hfin := Lib.hid hfin
    clear hfin
    go_enter Try.func33, Try.ntmps33
    go_wp2_with fail
    refine bodyPost_ret (v := .agg #[.string ⟨#[0]⟩, .slice none 0 0, .slice none 0 0]) (by simp [results, Try.results33, go_sem]) rfl ?_
    exact bad_end (Hfin.out _ _).1 (Hfin.out _ _).2 (by omega) (by omega) (by omega)

theorem costP_take (ps : List Pr) (k : Nat) (h : k < ps.length) : costP (ps.take k) + (1 + ps[k].val.length) = costP (ps.take (k + 1)) ∧ costP (ps.take (k + 1)) ≤ costP ps := by
  have e1 : ps.take (k + 1) = ps.take k ++ [ps[k]] := by rw [List.take_succ_eq_append_getElem h]
  have e2 : costP ps = costP (ps.take (k + 1)) + costP (ps.drop (k + 1)) := by rw [← costP_append, List.take_append_drop]
  refine ⟨?_, by omega⟩
  rw [e1, costP_append]
  simp [costP]

theorem own_slice {w : World} {base n : Nat} {e : TypeId} {size : Nat} {v : Value} {xs : List Value} (h : w.ownsRow base e size v n xs) : ∃ A c, v = .slice A n c := by
  rcases h.2 with ⟨rfl, rfl⟩ | ⟨g, cap, cur, rfl, _⟩
  · exact ⟨none, 0, rfl⟩
  · exact ⟨_, cap, rfl⟩

theorem res46 {fn : Func} {t : Tmp} {tmps : Array Value} {w : World} {b : Nat} {x y z : Value} (h : fn.results = #[.cell t 46]) (ht : tmps.getD t undef = .pointer (some ⟨b, 0, none⟩)) (hc : Cs w b #[x, y, z]) :
    (results fn tmps).run Try.prog w = .ok (.agg #[x, y, z]) w := by
  have c0 := hc.cell 0
  have c1 := hc.cell 1
  have c2 := hc.cell 2
  simp at c0 c1 c2 ht
  simp [results, h, ht, go_sem, c0, c1, c2]

theorem bad_world1 {w wr : World} {p : Nat} {a b c u v x y z : Value} (hF : Fr w.heap.size (· = p) w wr) (q1 : Cs wr p #[u]) (q3 : Cs wr (w.heap.size + 1) #[a, b, c]) (hp : p < w.heap.size) (o : Obj) :
    Fr w.heap.size (· = p) w (((((wr.setCell ⟨p, 0, none⟩ v).setCell ⟨w.heap.size + 1, 0, none⟩ x).setCell ⟨w.heap.size + 1, 1, none⟩ y).setCell ⟨w.heap.size + 1, 2, none⟩ z).alloc o).drew ∧
    Cs (((((wr.setCell ⟨p, 0, none⟩ v).setCell ⟨w.heap.size + 1, 0, none⟩ x).setCell ⟨w.heap.size + 1, 1, none⟩ y).setCell ⟨w.heap.size + 1, 2, none⟩ z).alloc o).drew p #[v] ∧
    Cs (((((wr.setCell ⟨p, 0, none⟩ v).setCell ⟨w.heap.size + 1, 0, none⟩ x).setCell ⟨w.heap.size + 1, 1, none⟩ y).setCell ⟨w.heap.size + 1, 2, none⟩ z).alloc o).drew (w.heap.size + 1) #[x, y, z] := by
  refine ⟨?_, ?_, ?_⟩
  · refine Fr.drew (Fr.alloc ((((hF.setCell (.inr rfl) _).setCell (.inl (by simp)) _).setCell (.inl (by simp)) _).setCell (.inl (by simp)) _) ?_ _)
    have := q3.lt
    simp [World.setCell]
    omega
  · have h0 : Cs (wr.setCell ⟨p, 0, none⟩ v) p #[v] := q1.set_ 0 v
    exact ((((h0.far (by simp; omega) _).far (by simp; omega) _).far (by simp; omega) _).alloc _).drew
  · have h0 : Cs (wr.setCell ⟨p, 0, none⟩ v) (w.heap.size + 1) #[a, b, c] := q3.far (by simp; omega) _
    have h1 : Cs _ _ #[x, y, z] := ((h0.set_ 0 x).set_ 1 y).set_ 2 z
    exact (h1.alloc _).drew

theorem bad_world2 {w wr : World} {p : Nat} {a b c u x y z : Value} (hF : Fr w.heap.size (· = p) w wr) (q1 : Cs wr p #[u]) (q3 : Cs wr (w.heap.size + 1) #[a, b, c]) (hp : p < w.heap.size) (o : Obj) :
    Fr w.heap.size (· = p) w ((((wr.setCell ⟨w.heap.size + 1, 0, none⟩ x).setCell ⟨w.heap.size + 1, 1, none⟩ y).setCell ⟨w.heap.size + 1, 2, none⟩ z).alloc o) ∧
    Cs ((((wr.setCell ⟨w.heap.size + 1, 0, none⟩ x).setCell ⟨w.heap.size + 1, 1, none⟩ y).setCell ⟨w.heap.size + 1, 2, none⟩ z).alloc o) p #[u] ∧
    Cs ((((wr.setCell ⟨w.heap.size + 1, 0, none⟩ x).setCell ⟨w.heap.size + 1, 1, none⟩ y).setCell ⟨w.heap.size + 1, 2, none⟩ z).alloc o) (w.heap.size + 1) #[x, y, z] := by
  refine ⟨?_, ?_, ?_⟩
  · refine Fr.alloc (((hF.setCell (.inl (by simp)) _).setCell (.inl (by simp)) _).setCell (.inl (by simp)) _) ?_ _
    have := q3.lt
    simp [World.setCell]
    omega
  · exact (((q1.far (by simp; omega) _).far (by simp; omega) _).far (by simp; omega) _).alloc _
  · have h1 : Cs _ _ #[x, y, z] := ((q3.set_ 0 x).set_ 1 y).set_ 2 z
    exact h1.alloc _

theorem Cs.new' (w : World) (t : TypeId) (cs : Array Value) (b : Nat) (hb : w.heap.size = b) : Cs (w.alloc (.cells cs t)) b cs := by
  subst hb
  exact Cs.new w t cs

theorem Cs.rd {w : World} {b : Nat} {cs : Array Value} (h : Cs w b cs) {xs : List Value} (hx : cs.toList = xs) : Rd w (some ⟨b, 0, none⟩) xs := by
  subst hx
  refine .inr ⟨b, 0, rfl, fun j u hu => ?_⟩
  rw [Nat.zero_add, h.cell]
  simpa using hu

theorem own_ne {w : World} {base n : Nat} {e : TypeId} {size : Nat} {v : Value} {xs : List Value} (h : w.ownsRow base e size v n xs) {b : Nat} (hb : b < base) : some b ≠ v.ownBlock := fun e => by
  have := (h.lt b e.symm).1
  omega

end Go.Proofs.Ytlbhadggfipckaa
