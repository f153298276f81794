/-
  An argument that reads as data is a tree in memory.
  Frames: what a call leaves as it was; blocks that are known whole; the cost of a node.
  A drawn region as one row of steps: what only reads is taken first, under a condition S on the world that holds behind every step but the last one.
-/
import Derived.Test.YtlbhadggfipckaaMa01
import Derived.ProofKit
import Derived.OpenShut
import Derived.Deep.Slices
import Derived.Deep.Strs
import Derived.SizedLaws
import Derived.OrdersHeld
import Derived.Deep.RegionHeld3
set_option linter.unusedVariables false
set_option linter.unusedSimpArgs false
namespace Go.Proofs.Ytlbhadggfipckaa
open Go.ChangeShapes Go.WideShapes Go.ChangeAt Go.RowKit Go.Deep

theorem add_plain' (b o n : Nat) : (⟨b, o, none⟩ : Addr).add n = ⟨b, o + n, none⟩ := by unfold Addr.add; split <;> simp_all
theorem add_add_plain (b o n j : Nat) : ((⟨b, o, none⟩ : Addr).add n).add j = ⟨b, o + n + j, none⟩ := by rw [add_plain', add_plain']

theorem list2 {α : Type} {l : List α} (h : l.length = 2) : ∃ a b, l = [a, b] := by
  match l, h with
  | [a, b], _ => exact ⟨a, b, rfl⟩
theorem list3 {α : Type} {l : List α} (h : l.length = 3) : ∃ a b c, l = [a, b, c] := by
  match l, h with
  | [a, b, c], _ => exact ⟨a, b, c, rfl⟩
theorem list5 {α : Type} {l : List α} (h : l.length = 5) : ∃ a b c d e, l = [a, b, c, d, e] := by
  match l, h with
  | [a, b, c, d, e], _ => exact ⟨a, b, c, d, e, rfl⟩
theorem list7 {α : Type} {l : List α} (h : l.length = 7) : ∃ a b c d e f g, l = [a, b, c, d, e, f, g] := by
  match l, h with
  | [a, b, c, d, e, f, g], _ => exact ⟨a, b, c, d, e, f, g, rfl⟩

section
variable {H : Type} {enc : TypeId × Value → H} {w : World} {base : Nat} {spare : Nat → Bool} {held : Bool}

/-- Each weight of a datum is within the reach. -/
def Light (t : TypeId) (d : DataW H) : Prop := ∀ n ∈ d.weights Try.prog t, n ≤ reachBytes

theorem light_slice {t e : TypeId} (ht : Try.prog.underlying t = some (.slice e)) {es sp : List (DataW H)} (h : Light t (.slice es sp)) : (es.length + sp.length) * Try.prog.bytesOf e ≤ reachBytes ∧ ∀ d ∈ es, Light e d := by
  constructor
  · exact h _ (by simp [DataW.weights, ht])
  · intro d hd n hn
    refine h n ?_
    simp only [DataW.weights, ht, List.mem_cons, List.mem_append]
    refine .inr (.inl ?_)
    clear h
    induction es with
    | nil => simp at hd
    | cons x es ih =>
      simp only [DataW.weightsAll, List.mem_append]
      rcases List.mem_cons.1 hd with rfl | hd
      · exact .inl hn
      · exact .inr (ih hd)

theorem light_struct {t : TypeId} {fs : Array Field} (ht : Try.prog.underlying t = some (.struct fs)) {ds : List (DataW H)} (h : Light t (.agg ds)) (j : Nat) (f : Field) (d : DataW H) (hf : fs[j]? = some f) (hd : ds[j]? = some d) : Light f.type d := fun n hn =>
  h n (by
    simp only [DataW.weights, ht]
    exact DataW.weights_mem_each (j := j) (by simp; exact ⟨f, hf, rfl⟩) hd n hn)

def Old (w : World) : Nat → Prop := fun k => k < w.heap.size

theorem cell_lt {w : World} {a : Addr} {v : Value} (h : w.cell? a = some v) : a.block < w.heap.size := World.block_lt_of_cell? w a h

theorem spot_none {w : World} {a : Addr} {v : Value} (h : w.cell? a = some v) : a.spot = none := by
  obtain ⟨b, o, sp⟩ := a
  simp only [World.cell?] at h
  split at h
  · split at h
    · cases h
    · rename_i hs
      simpa using hs
  · cases h

theorem bytes5 : Try.prog.bytesOf 5 = 1 := by kernel_rfl
theorem cells5 : Try.prog.cellsOf 5 = 1 := by kernel_rfl
theorem bytes124 : Try.prog.bytesOf 124 = 40 := by kernel_rfl
theorem cells124 : Try.prog.cellsOf 124 = 2 := by kernel_rfl
theorem bytes38 : Try.prog.bytesOf 38 = 64 := by kernel_rfl
theorem cells38 : Try.prog.cellsOf 38 = 3 := by kernel_rfl
theorem bytes80 : Try.prog.bytesOf 80 = 16 := by kernel_rfl
theorem cells80 : Try.prog.cellsOf 80 = 2 := by kernel_rfl
theorem cells40 : Try.prog.cellsOf 40 = 7 := by kernel_rfl
theorem cells9 : Try.prog.cellsOf 9 = 1 := by kernel_rfl
theorem cells24 : Try.prog.cellsOf 24 = 1 := by kernel_rfl
theorem cells34 : Try.prog.cellsOf 34 = 1 := by kernel_rfl
theorem cells35 : Try.prog.cellsOf 35 = 1 := by kernel_rfl
theorem cells36 : Try.prog.cellsOf 36 = 1 := by kernel_rfl
theorem cells3 : Try.prog.cellsOf 3 = 1 := by kernel_rfl
theorem cells23 : Try.prog.cellsOf 23 = 1 := by kernel_rfl

/-- A slice that is read: at every index below its length the elements' cells, and how they read. -/
theorem slice_cells {t e : TypeId} {C : Nat} {fuel : Nat} {cs : List Value} {x : DataW H × List MemPlace} (ht : Try.prog.underlying t = some (.slice e)) (hC : Try.prog.cellsOf e = C) (hC0 : 0 < C)
    (h : DataW.trod enc Try.prog w base spare held fuel t cs = some x) (hL : Light t x.1) :
    ∃ (A : Option Addr) (len cap n : Nat), n < fuel ∧ cs = [.slice A len cap] ∧ len ≤ cap ∧ cap ≤ maxLen ∧ len * Try.prog.bytesOf e ≤ reachBytes ∧
      (len = 0 ∨ ∃ b o, A = some ⟨b, o, none⟩ ∧ b < w.heap.size ∧ ∀ i, i < len → ∃ cs' y, cs'.length = C ∧ (∀ j, j < C → w.cell? ⟨b, o + i * C + j, none⟩ = cs'[j]?) ∧ DataW.trod enc Try.prog w base spare held n e cs' = some y ∧ Light e y.1) := by
  rcases DataW.trod_slice ht h with ⟨rfl, rfl⟩ | ⟨a, len, cap, elems, rest, n, hf, rfl, rfl, hb, hl, hm, hel, hi, _⟩
  · refine ⟨none, 0, 0, 0, ?_, rfl, by omega, by simp [maxLen], by simp, .inl rfl⟩
    rcases Nat.eq_zero_or_pos fuel with h0 | h0
    · subst h0
      simp [DataW.trod] at h
    · exact h0
  · obtain ⟨l1, l2⟩ := light_slice ht hL
    have hw1 : len * Try.prog.bytesOf e ≤ reachBytes := Nat.le_trans (Nat.mul_le_mul_right _ (by simp; omega)) l1
    have key : ∀ i, i < len → ∃ cs' y, w.cells? base (a.add (i * C)) C = some cs' ∧ DataW.trod enc Try.prog w base spare held n e cs' = some y ∧ Light e y.1 := fun i hil => by
      have h1 := hi i hil
      rw [List.getElem?_eq_getElem (by omega), hC] at h1
      obtain ⟨cs', h2, h3⟩ := Option.bind_eq_some_iff.1 h1
      exact ⟨cs', _, h2, h3, l2 _ (List.mem_map.2 ⟨_, List.getElem_mem _, rfl⟩)⟩
    refine ⟨some a, len, cap, n, by omega, rfl, hl, hm, hw1, ?_⟩
    clear hi hel hf l1 l2 hL h
    rcases Nat.eq_zero_or_pos len with h0 | h0
    · exact .inl h0
    · right
      obtain ⟨cs0, _, hc0, _⟩ := key 0 h0
      obtain ⟨_, hcl0, hat0⟩ := World.cells?_some hc0
      have ha0 := hat0 0 hC0
      rw [Nat.zero_mul] at ha0
      have e0 : (a.add 0).add 0 = a := by simp [Addr.add]
      rw [e0] at ha0
      have hcl0' : 0 < cs0.length := by rw [hcl0]; exact hC0
      have hv : cs0[0]? = some (cs0[0]'hcl0') := List.getElem?_eq_getElem hcl0'
      rw [hv] at ha0
      obtain ⟨b, o, sp⟩ := a
      have hsp : sp = none := spot_none ha0
      subst hsp
      refine ⟨b, o, rfl, cell_lt ha0, fun i hil => ?_⟩
      obtain ⟨cs', y, hc', ht', hy⟩ := key i hil
      obtain ⟨_, hcl, hat⟩ := World.cells?_some hc'
      refine ⟨cs', y, hcl, fun j hj => ?_, ht', hy⟩
      rw [← hat j hj, add_add_plain]

theorem val_of {fuel : Nat} {cs : List Value} {x : DataW H × List MemPlace} (h : DataW.trod enc Try.prog w base spare held fuel 24 cs = some x) (hL : Light 24 x.1) : ∃ v l, cs = [v] ∧ ValC w (Old w) v l := by
  obtain ⟨A, len, cap, n, _, rfl, hl, hm, hr, hc⟩ := slice_cells Try.underlying24 cells5 (by omega) h hL
  rw [bytes5] at hr
  have hre : reachBytes = 140737488351232 := rfl
  rcases hc with rfl | ⟨b, o, rfl, hb, hc⟩
  · exact ⟨_, [], rfl, A, cap, rfl, by simp, by simp, hm, .inl rfl⟩
  · have key : ∀ i, i < len → ∃ u : UInt8, w.cell? ⟨b, o + i, none⟩ = some (bv u) := fun i hi => by
      obtain ⟨cs', y, hlen, hat, ht, _⟩ := hc i hi
      obtain ⟨z, rfl, _, hz⟩ := DataW.trod_int Try.underlying5 ht
      have h0 := hat 0 (by omega)
      simp at h0
      obtain ⟨z0, z1⟩ := bounds_u8 hz
      refine ⟨UInt8.ofNat z.toNat, ?_⟩
      rw [h0]
      congr 1
      unfold bv
      congr 1
      rw [UInt8.toNat_ofNat']
      omega
    obtain ⟨f, hf⟩ : ∃ f : Nat → UInt8, ∀ i, i < len → w.cell? ⟨b, o + i, none⟩ = some (bv (f i)) := ⟨fun i => if h : i < len then Classical.choose (key i h) else 0, fun i hi => by simp only [dif_pos hi]; exact Classical.choose_spec (key i hi)⟩
    refine ⟨_, (List.range len).map f, rfl, some ⟨b, o, none⟩, cap, by simp, by simp; omega, by simpa using hl, hm, .inr ⟨b, o, rfl, hb, fun j u hu => ?_⟩⟩
    have hj := (List.getElem?_eq_some_iff.1 hu).1
    simp at hj
    rw [hf j hj]
    simpa [hj] using hu

theorem str_of {fuel : Nat} {cs : List Value} {x : DataW H × List MemPlace} (h : DataW.trod enc Try.prog w base spare held fuel 9 cs = some x) (hL : Light 9 x.1) : ∃ s : ByteArray, cs = [.string s] ∧ s.size ≤ 140737488351232 := by
  obtain ⟨s, rfl, rfl, hs⟩ := DataW.trod_string Try.underlying9 h
  have hre : reachBytes = 140737488351232 := rfl
  have := hL s.data.toList.length (by simp [DataW.weights])
  exact ⟨s, rfl, by simp at this; rw [hre] at this; exact this⟩

theorem pr_of {fuel : Nat} {cs : List Value} {x : DataW H × List MemPlace} (h : DataW.trod enc Try.prog w base spare held fuel 124 cs = some x) (hL : Light 124 x.1) : ∃ v0 v1 p, cs = [v0, v1] ∧ PrC w (Old w) p (v0, v1) := by
  obtain ⟨y0, y1, n, rfl, hlen, h0, h1⟩ := trod_struct2 Try.underlying124 h
  rw [cells124] at hlen
  obtain ⟨c0, c1, rfl⟩ := list2 hlen
  · simp only [cells9, cells24, List.drop_zero, List.take_succ_cons, List.take_zero, List.drop_succ_cons] at h0 h1
    have l0 := light_struct Try.underlying124 hL 0 _ y0.1 rfl rfl
    have l1 := light_struct Try.underlying124 hL 1 _ y1.1 rfl rfl
    obtain ⟨s, hs, hsz⟩ := str_of h0 l0
    obtain ⟨v, l, hv, hval⟩ := val_of h1 l1
    have hs := (List.cons.inj hs).1
    have hv := (List.cons.inj hv).1
    subst hs hv
    exact ⟨_, _, ⟨s, l⟩, rfl, rfl, hsz, hval⟩

/-- Choose an element for each index. -/
theorem each_of {α β : Type} {R : α → β → Prop} : ∀ (len : Nat) (key : ∀ i, i < len → ∃ x y, R x y), ∃ (xs : List α) (ys : List β), xs.length = len ∧ Each R xs ys ∧ True
  | 0, _ => ⟨[], [], rfl, Each.nil, trivial⟩
  | len + 1, key => by
    obtain ⟨xs, ys, h1, h2, _⟩ := each_of len (fun i hi => key i (by omega))
    obtain ⟨x, y, h⟩ := key len (by omega)
    exact ⟨xs ++ [x], ys ++ [y], by simp [h1], h2.snoc h, trivial⟩

theorem each_at {α β : Type} {R : α → β → Prop} {S : Nat → β → Prop} : ∀ (len : Nat) (key : ∀ i, i < len → ∃ x y, R x y ∧ S i y), ∃ (xs : List α) (ys : List β), xs.length = len ∧ Each R xs ys ∧ ∀ i y, ys[i]? = some y → S i y
  | 0, _ => ⟨[], [], rfl, Each.nil, fun i y h => by simp at h⟩
  | len + 1, key => by
    obtain ⟨xs, ys, h1, h2, h3⟩ := each_at len (fun i hi => key i (by omega))
    obtain ⟨x, y, h, hs⟩ := key len (by omega)
    refine ⟨xs ++ [x], ys ++ [y], by simp [h1], h2.snoc h, fun i z hz => ?_⟩
    have hl : ys.length = len := h2.1.symm.trans h1
    rcases Nat.lt_or_ge i len with hi | hi
    · exact h3 i z (by rwa [List.getElem?_append_left (by omega)] at hz)
    · have hi2 := (List.getElem?_eq_some_iff.1 hz).1
      simp [hl] at hi2
      obtain rfl : i = len := by omega
      rw [List.getElem?_append_right (by omega), hl] at hz
      simp at hz
      subst hz
      exact hs

theorem props_of {fuel : Nat} {cs : List Value} {x : DataW H × List MemPlace} (h : DataW.trod enc Try.prog w base spare held fuel 35 cs = some x) (hL : Light 35 x.1) : ∃ v ps, cs = [v] ∧ PropsC w (Old w) v ps := by
  obtain ⟨A, len, cap, n, _, rfl, hl, hm, hr, hc⟩ := slice_cells Try.underlying35 cells124 (by omega) h hL
  rw [bytes124] at hr
  have hre : reachBytes = 140737488351232 := rfl
  rcases hc with rfl | ⟨b, o, rfl, hb, hc⟩
  · exact ⟨_, [], rfl, A, cap, [], rfl, by simp, by simp, hm, Each.nil, .inl rfl⟩
  · obtain ⟨ps, ts, h1, h2, h3⟩ := each_at (R := PrC w (Old w)) (S := fun i t => w.cell? ⟨b, o + i * 2, none⟩ = some t.1 ∧ w.cell? ⟨b, o + i * 2 + 1, none⟩ = some t.2) len (fun i hi => by
      obtain ⟨cs', y, hlen, hat, ht, hLe⟩ := hc i hi
      obtain ⟨v0, v1, p, rfl, hp⟩ := pr_of ht hLe
      exact ⟨p, (v0, v1), hp, hat 0 (by omega), hat 1 (by omega)⟩)
    subst h1
    exact ⟨_, ps, rfl, some ⟨b, o, none⟩, cap, ts, rfl, by omega, hl, hm, h2, .inr ⟨b, o, rfl, hb, fun i t ht => h3 i t ht⟩⟩

theorem rooms_of {fuel : Nat} {cs : List Value} {x : DataW H × List MemPlace} (h : DataW.trod enc Try.prog w base spare held fuel 34 cs = some x) (hL : Light 34 x.1) : ∃ v rs, cs = [v] ∧ RoomsC w (Old w) v rs := by
  obtain ⟨A, len, cap, n, _, rfl, hl, hm, hr, hc⟩ := slice_cells Try.underlying34 cells80 (by omega) h hL
  rw [bytes80] at hr
  have hre : reachBytes = 140737488351232 := rfl
  rcases hc with rfl | ⟨b, o, rfl, hb, hc⟩
  · exact ⟨_, [], rfl, A, cap, rfl, by simp, by simp, hm, by simp, .inl rfl⟩
  · obtain ⟨rs, ts, h1, h2, h3⟩ := each_at (R := fun (r : Int × Int) (t : Value × Value) => t = roomC r ∧ 0 ≤ r.1 ∧ r.1 ≤ 18446744073709551615 ∧ 0 ≤ r.2 ∧ r.2 ≤ 18446744073709551615)
      (S := fun i t => w.cell? ⟨b, o + i * 2, none⟩ = some t.1 ∧ w.cell? ⟨b, o + i * 2 + 1, none⟩ = some t.2) len (fun i hi => by
      obtain ⟨cs', y, hlen, hat, ht, hLe⟩ := hc i hi
      obtain ⟨y0, y1, n', rfl, hlen', h0, h1⟩ := trod_struct2 Try.underlying80 ht
      obtain ⟨c0, c1, rfl⟩ := list2 hlen
      · simp only [cells23, List.drop_zero, List.take_succ_cons, List.take_zero, List.drop_succ_cons] at h0 h1
        obtain ⟨z0, e0, _, w0⟩ := DataW.trod_int Try.underlying23 h0
        obtain ⟨z1, e1, _, w1⟩ := DataW.trod_int Try.underlying23 h1
        have e0 := (List.cons.inj e0).1
        have e1 := (List.cons.inj e1).1
        subst e0 e1
        obtain ⟨b0, b1⟩ := bounds_u64 w0
        obtain ⟨b2, b3⟩ := bounds_u64 w1
        exact ⟨(z0, z1), roomC (z0, z1), ⟨rfl, b0, b1, b2, b3⟩, hat 0 (by omega), hat 1 (by omega)⟩)
    subst h1
    have hts : ts = rs.map roomC := by
      refine List.ext_getElem? fun i => ?_
      rw [List.getElem?_map]
      rcases Nat.lt_or_ge i rs.length with hi | hi
      · have a1 : rs[i]? = some rs[i] := List.getElem?_eq_getElem hi
        have a2 : ts[i]? = some (ts[i]'(by have := h2.1; omega)) := List.getElem?_eq_getElem _
        rw [a2, a1, (h2.2 i _ _ a1 a2).1]
        rfl
      · rw [List.getElem?_eq_none hi, List.getElem?_eq_none (by have := h2.1; omega)]
        rfl
    subst hts
    refine ⟨_, rs, rfl, some ⟨b, o, none⟩, cap, rfl, by omega, hl, hm, fun r hr => ?_, .inr ⟨b, o, rfl, hb, fun i t ht => h3 i t ht⟩⟩
    obtain ⟨i, hi, rfl⟩ := List.getElem_of_mem hr
    exact (h2.2 i _ (roomC rs[i]) (List.getElem?_eq_getElem hi) (by rw [List.getElem?_map, List.getElem?_eq_getElem hi]; rfl)).2

theorem node_step {fuel : Nat} {cs : List Value} {x : DataW H × List MemPlace}
    (ih : ∀ m, m < fuel → ∀ (cs : List Value) (x : DataW H × List MemPlace), DataW.trod enc Try.prog w base spare held m 38 cs = some x → Light 38 x.1 → ∃ v0 v1 v2 n, cs = [v0, v1, v2] ∧ NodeC w (Old w) n (v0, v1, v2))
    (h : DataW.trod enc Try.prog w base spare held fuel 38 cs = some x) (hL : Light 38 x.1) : ∃ v0 v1 v2 n, cs = [v0, v1, v2] ∧ NodeC w (Old w) n (v0, v1, v2) := by
  obtain ⟨xs, m, hf, rfl, hlen, hxl, hfs⟩ := DataW.trod_struct Try.underlying38 h
  obtain ⟨y0, y1, y2, rfl⟩ := list3 hxl
  have h0 := hfs 0 _ rfl
  have h1 := hfs 1 _ rfl
  have h2 := hfs 2 _ rfl
  rw [cells38] at hlen
  obtain ⟨c0, c1, c2, rfl⟩ := list3 hlen
  simp only [List.getElem_toArray, List.getElem_cons_zero, List.getElem_cons_succ, cells9, cells35, cells36, List.drop_zero, List.take_succ_cons, List.take_zero, List.drop_succ_cons, List.getElem?_cons_zero, List.getElem?_cons_succ] at h0 h1 h2
  have l0 := light_struct Try.underlying38 hL 0 _ y0.1 rfl rfl
  have l1 := light_struct Try.underlying38 hL 1 _ y1.1 rfl rfl
  have l2 := light_struct Try.underlying38 hL 2 _ y2.1 rfl rfl
  obtain ⟨s, hs, hsz⟩ := str_of h0 l0
  obtain ⟨v, ps, hv, hps⟩ := props_of h1 l1
  have hs := (List.cons.inj hs).1
  have hv := (List.cons.inj hv).1
  subst hs hv
  have hre : reachBytes = 140737488351232 := rfl
  obtain ⟨A, len, cap, n, hn, hA, hl, hm, hr, hc⟩ := slice_cells Try.underlying36 cells38 (by omega) h2 l2
  have hA := (List.cons.inj hA).1
  subst hA
  rw [bytes38] at hr
  rcases hc with rfl | ⟨b, o, rfl, hb, hc⟩
  · exact ⟨_, _, _, .mk s ps [], rfl, .shut hsz hps ⟨A, cap, [], rfl, by simp, by simp, hm, Each.nil, .inl rfl⟩⟩
  · obtain ⟨ks, ts, e1, e2, e3⟩ := each_at (R := NodeC w (Old w)) (S := fun i t => w.cell? ⟨b, o + i * 3, none⟩ = some t.1 ∧ w.cell? ⟨b, o + i * 3 + 1, none⟩ = some t.2.1 ∧ w.cell? ⟨b, o + i * 3 + 2, none⟩ = some t.2.2) len (fun i hi => by
      obtain ⟨cs', y, hlen, hat, ht, hLe⟩ := hc i hi
      obtain ⟨v0, v1, v2, k, rfl, hk⟩ := ih n (by omega) cs' y ht hLe
      exact ⟨k, (v0, v1, v2), hk, hat 0 (by omega), hat 1 (by omega), hat 2 (by omega)⟩)
    subst e1
    exact ⟨_, _, _, .mk s ps ks, rfl, .shut hsz hps ⟨_, cap, ts, rfl, by omega, hl, hm, e2, .inr ⟨b, o, rfl, hb, fun i t ht => e3 i t ht⟩⟩⟩

theorem node_of (fuel : Nat) : ∀ (cs : List Value) (x : DataW H × List MemPlace), DataW.trod enc Try.prog w base spare held fuel 38 cs = some x → Light 38 x.1 → ∃ v0 v1 v2 n, cs = [v0, v1, v2] ∧ NodeC w (Old w) n (v0, v1, v2) := by
  induction fuel using Nat.strongRecOn with
  | ind fuel ih => exact fun cs x h hL => node_step ih h hL

theorem tree_of {fuel : Nat} {cs : List Value} {x : DataW H × List MemPlace} (h : DataW.trod enc Try.prog w base spare held fuel 40 cs = some x) (hL : Light 40 x.1) : ∃ t, TreeC w (Old w) t cs.toArray := by
  obtain ⟨xs, m, hf, rfl, hlen, hxl, hfs⟩ := DataW.trod_struct Try.underlying40 h
  obtain ⟨y0, y1, y2, y3, y4, rfl⟩ := list5 hxl
  have h0 := hfs 0 _ rfl
  have h1 := hfs 1 _ rfl
  have h2 := hfs 2 _ rfl
  have h3 := hfs 3 _ rfl
  have h4 := hfs 4 _ rfl
  rw [cells40] at hlen
  obtain ⟨c0, c1, c2, c3, c4, c5, c6, rfl⟩ := list7 hlen
  simp only [List.getElem_toArray, List.getElem_cons_zero, List.getElem_cons_succ, cells3, cells34, cells38, List.drop_zero, List.take_succ_cons, List.take_zero, List.drop_succ_cons, List.getElem?_cons_zero, List.getElem?_cons_succ] at h0 h1 h2 h3 h4
  have l3 := light_struct Try.underlying40 hL 3 _ y3.1 rfl rfl
  have l4 := light_struct Try.underlying40 hL 4 _ y4.1 rfl rfl
  obtain ⟨z0, e0, _, w0⟩ := DataW.trod_int Try.underlying3 h0
  obtain ⟨z1, e1, _, w1⟩ := DataW.trod_int Try.underlying3 h1
  obtain ⟨z2, e2, _, w2⟩ := DataW.trod_int Try.underlying3 h2
  obtain ⟨vr, rs, e3, hr⟩ := rooms_of h3 l3
  obtain ⟨v0, v1, v2, n, e4, hn⟩ := node_of _ _ _ h4 l4
  have e0 := (List.cons.inj e0).1
  have e1 := (List.cons.inj e1).1
  have e2 := (List.cons.inj e2).1
  have e3 := (List.cons.inj e3).1
  simp only [List.cons.injEq, and_true] at e4
  obtain ⟨e4, e5, e6⟩ := e4
  subst e0 e1 e2 e3 e4 e5 e6
  exact ⟨⟨z0, z1, z2, rs, n⟩, _, (_, _, _), rfl, hr, hn, bounds_i64 w0, bounds_i64 w1, bounds_i64 w2⟩
end
end Go.Proofs.Ytlbhadggfipckaa

set_option linter.unusedVariables false
set_option linter.unusedSimpArgs false
namespace Go.Proofs.Ytlbhadggfipckaa
open Go.RowKit

/-- Below B, but for the blocks in X, the world w' is as w was. -/
structure Fr (B : Nat) (X : Nat → Prop) (w w' : World) : Prop where
  os : w'.os = w.os
  tape : w'.tape = w.tape
  output : w'.output = w.output
  size : w.heap.size ≤ w'.heap.size
  block : ∀ k, k < B → ¬ X k → w'.heap[k]? = w.heap[k]?

section
variable {B : Nat} {X : Nat → Prop} {a b c w w' : World}
theorem Fr.refl (B : Nat) (X : Nat → Prop) (w : World) : Fr B X w w := ⟨rfl, rfl, rfl, Nat.le_refl _, fun _ _ _ => rfl⟩
theorem Fr.trans (h : Fr B X a b) (k : Fr B X b c) : Fr B X a c :=
  ⟨k.os.trans h.os, k.tape.trans h.tape, k.output.trans h.output, Nat.le_trans h.size k.size, fun i hi hx => (k.block i hi hx).trans (h.block i hi hx)⟩
theorem Fr.mono {B' : Nat} {X' : Nat → Prop} (h : Fr B X w w') (hB : B' ≤ B) (hX : ∀ k, k < B' → X k → X' k) : Fr B' X' w w' :=
  ⟨h.os, h.tape, h.output, h.size, fun k hk hx => h.block k (Nat.lt_of_lt_of_le hk hB) (fun hh => hx (hX k hk hh))⟩
theorem Fr.of_below (h : Below B w w') : Fr B X w w' := ⟨h.os, h.tape, h.output, h.size, fun k hk _ => h.block k hk⟩
theorem Fr.below (h : Fr B X w w') {B' : Nat} (hB : B' ≤ B) (hX : ∀ k, k < B' → ¬ X k) : Below B' w w' := ⟨h.os, h.tape, h.output, h.size, fun k hk => h.block k (Nat.lt_of_lt_of_le hk hB) (hX k hk)⟩
theorem Fr.drew (h : Fr B X a w) : Fr B X a w.drew := ⟨h.os, h.tape, h.output, h.size, h.block⟩
theorem Fr.drewN (h : Fr B X a w) (n : Nat) : Fr B X a (w.drewN n) := ⟨h.os, h.tape, h.output, h.size, h.block⟩
theorem Fr.alloc (h : Fr B X a w) (hB : B ≤ w.heap.size) (o : Obj) : Fr B X a (w.alloc o) :=
  h.trans ⟨rfl, rfl, rfl, by simp, fun k hk _ => Below.heap_alloc _ _ _ (by omega)⟩
theorem Fr.setCell (h : Fr B X a w) {p : Addr} (hp : B ≤ p.block ∨ X p.block) (u : Value) : Fr B X a (w.setCell p u) :=
  h.trans ⟨rfl, rfl, rfl, by simp [World.setCell], fun k hk hx => Below.heap_setCell _ _ _ _ (by
    rintro rfl
    rcases hp with hp | hp
    · omega
    · exact hx hp)⟩
theorem Fr.grown (h : Fr B X a w) {row : Option Nat} (hg : w.grownBy w' row) (hB : B ≤ w.heap.size) (hr : ∀ k, row = some k → B ≤ k ∨ X k) : Fr B X a w' :=
  h.trans ⟨hg.os, hg.tape, hg.output, hg.size, fun k hk hx => hg.block k (by omega) (fun e => by
    rcases hr k e.symm with h | h
    · omega
    · exact hx h)⟩
theorem Fr.same (h : Fr B X w w') {ok : Nat → Prop} (ho : ∀ k, ok k → k < B ∧ ¬ X k) : Same ok w w' := fun k hk => h.block k (ho k hk).1 (ho k hk).2
theorem Fr.cell (h : Fr B X w w') {k o : Nat} (hk : k < B) (hx : ¬ X k) : w'.cell? ⟨k, o, none⟩ = w.cell? ⟨k, o, none⟩ := World.cell?_of_block (a := ⟨k, o, none⟩) (h.block k hk hx)
end

/-- Block b holds just the cells cs, none of them frozen. -/
def Cs (w : World) (b : Nat) (cs : Array Value) : Prop := ∃ t, w.heap[b]? = some (.cells cs t (0, 0))

section
variable {w w' : World} {b : Nat} {cs : Array Value}
theorem Cs.lt (h : Cs w b cs) : b < w.heap.size := by
  obtain ⟨t, h⟩ := h
  rcases Nat.lt_or_ge b w.heap.size with hlt | hge
  · exact hlt
  · rw [Array.getElem?_eq_none hge] at h; cases h
theorem Cs.cell (h : Cs w b cs) (i : Nat) : w.cell? ⟨b, i, none⟩ = cs[i]? := by
  obtain ⟨t, h⟩ := h
  exact cell_of_row w b i cs t (0, 0) h
theorem Cs.frozen (h : Cs w b cs) (i : Nat) : w.frozen? ⟨b, i, none⟩ = false := by
  obtain ⟨t, h⟩ := h
  simp [World.frozen?, h]
theorem Cs.new (w : World) (t : TypeId) (cs : Array Value) : Cs (w.alloc (.cells cs t)) w.heap.size cs := ⟨t, heap_alloc_new w _⟩
theorem Cs.drew (h : Cs w b cs) : Cs w.drew b cs := h
theorem Cs.drewN (h : Cs w b cs) (n : Nat) : Cs (w.drewN n) b cs := h
theorem Cs.alloc (h : Cs w b cs) (o : Obj) : Cs (w.alloc o) b cs := by
  have hl := h.lt
  obtain ⟨t, h⟩ := h
  exact ⟨t, (Below.heap_alloc w o b hl).trans h⟩
theorem Cs.set_ (h : Cs w b cs) (i : Nat) (u : Value) : Cs (w.setCell ⟨b, i, none⟩ u) b (cs.setIfInBounds i u) := by
  obtain ⟨t, h⟩ := h
  exact ⟨t, by simp [World.setCell, Array.getElem?_modify, h]⟩
theorem Cs.far (h : Cs w b cs) {p : Addr} (hp : b ≠ p.block) (u : Value) : Cs (w.setCell p u) b cs := by
  obtain ⟨t, h⟩ := h
  exact ⟨t, (Below.heap_setCell w p u b hp).trans h⟩
theorem Cs.keep (h : Cs w b cs) (hb : w'.heap[b]? = w.heap[b]?) : Cs w' b cs := by
  obtain ⟨t, h⟩ := h
  exact ⟨t, hb.trans h⟩
theorem Cs.grown {row : Option Nat} (h : Cs w b cs) (hg : w.grownBy w' row) (hb : some b ≠ row) : Cs w' b cs := h.keep (hg.block b h.lt hb)
theorem Cs.below {B : Nat} (h : Cs w b cs) (hg : Below B w w') (hb : b < B) : Cs w' b cs := h.keep (hg.block b hb)
theorem Cs.fr {B : Nat} {X : Nat → Prop} (h : Cs w b cs) (hg : Fr B X w w') (hb : b < B) (hx : ¬ X b) : Cs w' b cs := h.keep (hg.block b hb hx)
end

def costP : List Pr → Nat
  | [] => 0
  | p :: r => 1 + p.val.length + costP r

mutual
def Nd.cost : Nd → Nat
  | .mk _ ps ks => 1 + costP ps + costL ks
def costL : List Nd → Nat
  | [] => 0
  | k :: r => k.cost + costL r
end

mutual
def Nd.depth : Nd → Nat
  | .mk _ _ ks => 1 + depthL ks
def depthL : List Nd → Nat
  | [] => 0
  | k :: r => max k.depth (depthL r)
end

mutual
def Nd.bad : Nd → Prop
  | .mk n _ ks => n = ⟨#[0]⟩ ∨ badL ks
def badL : List Nd → Prop
  | [] => False
  | k :: r => k.bad ∨ badL r
end

theorem costP_append : ∀ (a b : List Pr), costP (a ++ b) = costP a + costP b
  | [], b => by simp [costP]
  | p :: a, b => by simp [costP, costP_append a b]; omega
theorem costL_append : ∀ (a b : List Nd), costL (a ++ b) = costL a + costL b
  | [], b => by simp [costL]
  | p :: a, b => by simp [costL, costL_append a b]; omega
theorem depthL_append : ∀ (a b : List Nd), depthL (a ++ b) = max (depthL a) (depthL b)
  | [], b => by simp [depthL]
  | p :: a, b => by simp [depthL, depthL_append a b]
theorem badL_append : ∀ (a b : List Nd), badL (a ++ b) ↔ badL a ∨ badL b
  | [], b => by simp [badL]
  | p :: a, b => by simp [badL, badL_append a b, or_assoc]

/-- What the cut of a node n, some deep, with the room r, comes to. -/
def CutRel (deep : Nat) (r : Int) (n x : Nd) (r' : Int) : Prop :=
  (x = n ∧ r' = r - n.cost ∧ n.cost ≤ r ∧ n.depth ≤ deep) ∨ (x.bad ∧ ¬ (n.cost ≤ r ∧ n.depth ≤ deep) ∧ -140737488351240 ≤ r' ∧ r' ≤ r)
end Go.Proofs.Ytlbhadggfipckaa

set_option linter.unusedVariables false
set_option linter.unusedSimpArgs false
namespace Go.Proofs.Ytlbhadggfipckaa

section
variable {P : Program} {ops : Array Oper} {Q : Exit → Act → World → Prop} {S : World → Prop} {L : Nat}

def wpAnyC (P : Program) (ops : Array Oper) (Q : Exit → Act → World → Prop) (S : World → Prop) (L : Nat) : Nat → Array Bool → Act → World → Prop
  | 0, listed, a, w => Region.ready .any ops listed = [] ∧ Q .normal a w
  | fuel + 1, listed, a, w =>
    (Region.ready .any ops listed = [] → Q .normal a w) ∧
    ∀ i ∈ Region.ready .any ops listed, wpOp P ops Q i (fun a' w' => (i = L ∨ S w') ∧ wpAnyC P ops Q S L fuel (listed.setIfInBounds i true) a' w') a w

theorem wpAny_of_C : ∀ (fuel : Nat) (listed : Array Bool) (a : Act) (w : World), wpAnyC P ops Q S L fuel listed a w → wpAny P .any ops Q fuel listed a w
  | 0, _, _, _, h => h
  | fuel + 1, _, _, _, h => ⟨h.1, fun i hi => wpOp_mono (fun a' w' h' => wpAny_of_C fuel _ a' w' h'.2) (h.2 i hi)⟩

/-- What is listed has all that it waits for listed. -/
def Closed (ops : Array Oper) (listed : Array Bool) : Prop := ∀ (j : Nat) (o : Oper), ops[j]? = some o → listed.getD j false = true → ∀ e ∈ o.after, Region.binds .any e = true → listed.getD e.on false = true

/-- x waits for i, through others perhaps. -/
def reach (ops : Array Oper) (i : Nat) : Nat → Nat → Bool
  | 0, _ => false
  | n + 1, x => match ops[x]? with
    | some o => o.after.any fun e => Region.binds .any e && (e.on == i || reach ops i n e.on)
    | none => false

theorem reach_spec {i : Nat} {listed : Array Bool} (hc : Closed ops listed) : ∀ (n x : Nat) (o : Oper), reach ops i n x = true → ops[x]? = some o → (∀ e ∈ o.after, Region.binds .any e = true → listed.getD e.on false = true) → listed.getD i false = true
  | 0, x, o, h, _, _ => by simp [reach] at h
  | n + 1, x, o, h, ho, hall => by
    simp only [reach, ho] at h
    obtain ⟨e, he, h⟩ := Array.any_eq_true'.1 h
    simp only [Bool.and_eq_true, Bool.or_eq_true, beq_iff_eq] at h
    have h1 := hall e he h.1
    rcases h.2 with h2 | h2
    · rw [← h2]; exact h1
    · cases ho' : ops[e.on]? with
      | none => cases n <;> simp [reach, ho'] at h2
      | some o' => exact reach_spec hc n e.on o' h2 ho' (hc e.on o' ho' h1)

theorem getD_set_false {listed : Array Bool} {i j : Nat} (h : (listed.setIfInBounds i true).getD j false = true) : j = i ∨ listed.getD j false = true := by
  by_cases hij : i = j
  · exact .inl hij.symm
  · rw [getD_set_ne false hij] at h
    exact .inr h

theorem Closed.set_ {listed : Array Bool} {i : Nat} (hc : Closed ops listed) (hi : i ∈ Region.ready .any ops listed) : Closed ops (listed.setIfInBounds i true) := fun j o ho hj e he hb => by
  obtain ⟨_, oi, hoi, hall⟩ := mem_ready.1 hi
  refine getD_set_true ?_
  rcases getD_set_false hj with rfl | hj
  · rw [hoi] at ho
    cases ho
    exact hall e he hb
  · exact hc j o ho hj e he hb

theorem wpAnyC_first {i : Nat} {oi : Oper} {v : Value} (hi : ops[i]? = some oi) (hsel : ∀ (j : Nat) (o : Oper) cs b, ops[j]? = some o → o.op ≠ .select cs b)
    (hQ : ∀ c a d v w, Q (.panic c) (a.put d v) w → Q (.panic c) a w) {n : Nat} (hL : reach ops i n L = true) (hiL : i ≠ L) :
    ∀ (fuel : Nat) (listed : Array Bool) (a : Act) (w : World), Closed ops listed →
      (∀ j oj, ops[j]? = some oj → j ≠ i → listed.getD j true = false → (∀ e ∈ oj.after, Region.binds .any e = true → e.on ≠ i) → oi.apart ops oj = true) →
      i ∈ Region.ready .any ops listed → YieldsIf P ops S oi v a → S w →
      wpAnyC P ops Q S L fuel (listed.setIfInBounds i true) (a.put oi.dst v) w → wpAnyC P ops Q S L (fuel + 1) listed a w := by
  intro fuel
  induction fuel with
  | zero =>
    intro listed a w _ _ hr hy hS H
    refine ⟨fun h => (by rw [h] at hr; cases hr), fun j hj => ?_⟩
    by_cases hji : j = i
    · subst hji; exact hy.wpOp hi hS ⟨.inr hS, H⟩
    · have := ready_mono hj hji
      rw [H.1] at this
      cases this
  | succ fuel ih =>
    intro listed a w hc hfree hr hy hS H
    refine ⟨fun h => (by rw [h] at hr; cases hr), fun j hj => ?_⟩
    by_cases hji : j = i
    · subst hji; exact hy.wpOp hi hS ⟨.inr hS, H⟩
    · have h1 := H.2 j (ready_mono hj hji)
      obtain ⟨hjun, oj, hoj, hall⟩ := mem_ready.1 hj
      have hi0 : ¬ listed.getD i false = true := fun h1 => by
        have h0 := (mem_ready.1 hr).1
        rcases Nat.lt_or_ge i listed.size with h' | h'
        · simp [h'] at h0 h1; rw [h0] at h1; cases h1
        · simp [Array.getElem?_eq_none h'] at h1
      have hjL : j ≠ L := fun e => hi0 (reach_spec hc n j oj (e ▸ hL) hoj hall)
      have hnot : ∀ e ∈ oj.after, Region.binds .any e = true → e.on ≠ i := fun e he hb heq => hi0 (heq ▸ hall e he hb)
      have h2 := wpOp_putIf hoj (hfree j oj hoj hji hjun hnot) (fun cs b => hsel i oi cs b hi) (fun cs b => hsel j oj cs b hoj) (fun c a w => hQ c a _ _ w) hy h1
      have hfree' : ∀ k ok, ops[k]? = some ok → k ≠ i → (listed.setIfInBounds j true).getD k true = false →
          (∀ e ∈ ok.after, Region.binds .any e = true → e.on ≠ i) → oi.apart ops ok = true := fun k ok hk hki hun hno => by
        refine hfree k ok hk hki ?_ hno
        by_cases hjk : j = k
        · subst hjk; exact hjun
        · rw [getD_set_ne true hjk] at hun; exact hun
      refine wpOp_mono (fun a' w' h3 => ⟨.inr (h3.2.1.resolve_left hjL), ih (listed.setIfInBounds j true) a' w' (hc.set_ hj) hfree' (ready_mono hr (Ne.symm hji)) h3.1 (h3.2.1.resolve_left hjL) ?_⟩) h2
      rw [Array.setIfInBounds_comm _ _ hji]
      exact h3.2.2

/-- The row of steps: (does it only read; is it the last store; the operation). -/
def seqO (P : Program) (ops : Array Oper) (Q : Exit → Act → World → Prop) (S : World → Prop) : List (Bool × Bool × Oper) → Act → World → Prop
  | [], a, w => Q .normal a w
  | (true, _, o) :: r, a, w => ∃ v, YieldsIf P ops S o v a ∧ seqO P ops Q S r (a.put o.dst v) w
  | (false, b, o) :: r, a, w => ∀ K : Act → World → Prop, (∀ a' w', (b = true ∨ S w') → seqO P ops Q S r a' w' → K a' w') → if Region.wanted o (yielded ops a.tmps) = true then o.wp P a w K Q else K (a.put o.dst undef) w

def chk (ops : Array Oper) (L : Nat) : Array Bool → List (Nat × Bool) → Bool
  | listed, [] => (Region.ready .any ops listed).isEmpty
  | listed, (i, q) :: r => (ops[i]?).isSome && (if q then (Region.ready .any ops listed).contains i && Region.free .any ops listed i && reach ops i ops.size L && i != L else Region.ready .any ops listed == [i] && (i != L || r.isEmpty)) && chk ops L (listed.setIfInBounds i true) r

def opsIn (ops : Array Oper) (L : Nat) (ord : List (Nat × Bool)) : List (Bool × Bool × Oper) := ord.map fun p => (p.2, p.1 == L, (ops[p.1]?).getD { dst := none, op := .move (.const undef), type := 0, pos := "", after := #[], guard := none })

theorem seq_sound (hs : Region.noSelect ops = true) (hQ : ∀ c a d v w, Q (.panic c) (a.put d v) w → Q (.panic c) a w) :
    ∀ (ord : List (Nat × Bool)) (listed : Array Bool) (a : Act) (w : World), Closed ops listed → chk ops L listed ord = true → (ord = [] ∨ S w) → seqO P ops Q S (opsIn ops L ord) a w → wpAnyC P ops Q S L ord.length listed a w
  | [], listed, a, w, hc, hk, hS, h => ⟨by simpa [chk] using hk, h⟩
  | (i, q) :: r, listed, a, w, hc, hk, hS, h => by
    replace hS := hS.resolve_left (by simp)
    simp only [chk, Bool.and_eq_true] at hk
    obtain ⟨⟨hk1, hk2⟩, hk3⟩ := hk
    obtain ⟨o, ho⟩ := Option.isSome_iff_exists.1 hk1
    cases q with
    | true =>
      simp only [if_true, Bool.and_eq_true, bne_iff_ne] at hk2
      obtain ⟨⟨⟨h1, h2⟩, h3⟩, h4⟩ := hk2
      have h1 : i ∈ Region.ready .any ops listed := by simpa using h1
      simp only [opsIn, List.map_cons, seqO, ho, Option.getD_some] at h
      obtain ⟨v, hy, h⟩ := h
      exact wpAnyC_first ho (Region.noSelect_spec hs) hQ h3 h4 r.length listed a w hc (Region.free_spec ho h2) h1 hy hS (seq_sound hs hQ r _ _ w (hc.set_ h1) hk3 (.inr hS) h)
    | false =>
      simp only [Bool.false_eq_true, if_false, Bool.and_eq_true, beq_iff_eq, Bool.or_eq_true, bne_iff_ne] at hk2
      obtain ⟨h1, h2⟩ := hk2
      simp only [opsIn, List.map_cons, seqO, ho, Option.getD_some] at h
      have hir : i ∈ Region.ready .any ops listed := by rw [h1]; simp
      refine ⟨fun h0 => (by rw [h1] at h0; cases h0), fun j hj => ?_⟩
      rw [h1] at hj
      obtain rfl : j = i := by simpa using hj
      have h3 := h (fun a' w' => (j = L ∨ S w') ∧ wpAnyC P ops Q S L r.length (listed.setIfInBounds j true) a' w') (fun a' w' hb hr => ⟨hb.imp (fun h => by simpa using h) id, seq_sound hs hQ r _ a' w' (hc.set_ hir) hk3 (by
        rcases hb with hb | hb
        · exact .inl (by simpa using (h2.resolve_left (fun hn => hn (by simpa using hb))))
        · exact .inr hb) hr⟩)
      unfold wpOp
      simp only [ho]
      split
      · rename_i hw
        rw [if_pos hw] at h3
        exact .inl h3
      · rename_i hw
        rw [if_neg hw] at h3
        exact h3

/-- The beginning. -/
theorem wp_region_seq {id : Nat} {a : Act} {w : World} (S : World → Prop) (L : Nat) (ord : List (Nat × Bool)) (hm : P.follows .mixedOrders = true)
    (hc : (Region.noSelect ops && chk ops L (Array.replicate ops.size false) ord && (ord.length == ops.size)) = true)
    (hS : S w.drew) (h : seqO P ops (NoPanic Q) S (opsIn ops L ord) a w.drew) : (Code.region id ops true).wp P Q a w := by
  refine wp_region_noPanic ?_
  simp only [Bool.and_eq_true, beq_iff_eq] at hc
  obtain ⟨⟨h1, h2⟩, h3⟩ := hc
  have h4 := seq_sound (P := P) (S := S) (Q := NoPanic Q) h1 (fun _ _ _ _ _ h => h) ord _ a w.drew (fun j o _ hj => by
    rcases Nat.lt_or_ge j ops.size with hl | hl
    · simp [hl] at hj
    · simp [Nat.not_lt.2 hl] at hj) h2 (.inr hS) h
  rw [h3] at h4
  exact wp_region_any hm (wpAny_of_C _ _ _ _ h4)

theorem wanted_of_none {o : Oper} (h : o.guard = none) (ys : Nat → Option Bool) : Region.wanted o ys = true := by
  simp [Region.wanted, h]

theorem Seq.quiet {b : Bool} {o : Oper} {r : List (Bool × Bool × Oper)} {a : Act} {w : World} {v : Value} (hg : o.guard = none)
    (h1 : ∀ w', S w' → (execOp a.eval o).run P w' = .ok (.value v) w') (h : seqO P ops Q S r (a.put o.dst v) w) : seqO P ops Q S ((true, b, o) :: r) a w := ⟨v, .inl ⟨wanted_of_none hg _, h1⟩, h⟩
theorem Seq.quietG {b : Bool} {o : Oper} {r : List (Bool × Bool × Oper)} {a : Act} {w : World} {v : Value} (hw : Region.wanted o (yielded ops a.tmps) = true)
    (h1 : ∀ w', S w' → (execOp a.eval o).run P w' = .ok (.value v) w') (h : seqO P ops Q S r (a.put o.dst v) w) : seqO P ops Q S ((true, b, o) :: r) a w := ⟨v, .inl ⟨hw, h1⟩, h⟩
theorem Seq.skip {b : Bool} {o : Oper} {r : List (Bool × Bool × Oper)} {a : Act} {w : World} (hw : Region.wanted o (yielded ops a.tmps) = false)
    (h : seqO P ops Q S r (a.put o.dst undef) w) : seqO P ops Q S ((true, b, o) :: r) a w := ⟨undef, .inr ⟨hw, rfl⟩, h⟩
theorem Seq.eff {b : Bool} {o : Oper} {r : List (Bool × Bool × Oper)} {a : Act} {w : World} (hg : o.guard = none)
    (h : ∀ K : Act → World → Prop, Shut (∀ a' w', (b = true ∨ S w') → seqO P ops Q S r a' w' → K a' w') → o.wp P a w K Q) : seqO P ops Q S ((false, b, o) :: r) a w := fun K hK => by
  rw [if_pos (wanted_of_none hg _)]
  exact h K hK
theorem Seq.last {o : Oper} {a : Act} {w : World} (hg : o.guard = none)
    (h : ∀ K : Act → World → Prop, Shut (∀ a' w', Q .normal a' w' → K a' w') → o.wp P a w K (NoPanic Q)) : seqO P ops (NoPanic Q) S [(false, true, o)] a w := Seq.eff hg fun K hK => h K fun a' w' hq => hK a' w' (.inl rfl) hq
theorem Seq.done {a : Act} {w : World} (h : Q .normal a w) : seqO P ops (NoPanic Q) S [] a w := h
end
end Go.Proofs.Ytlbhadggfipckaa
