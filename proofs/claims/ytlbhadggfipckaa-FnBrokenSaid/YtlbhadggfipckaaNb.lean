/-
  An argument that reads as data is a tree in memory.
-/
import Derived.Test.YtlbhadggfipckaaNa
import Derived.ProofKit
import Derived.OpenShut
import Derived.Deep.Slices
import Derived.Deep.Strs
import Derived.SizedLaws
set_option linter.unusedVariables false
set_option linter.unusedSimpArgs false
namespace Go.Proofs.Ytlbhadggfipckaa
open Go.ChangeShapes Go.WideShapes Go.ChangeAt Go.RowKit Go.Deep

theorem add_plain' (b o n : Nat) : (⟨b, o, none⟩ : Addr).add n = ⟨b, o + n, none⟩ := by unfold Addr.add; split <;> simp_all
theorem add_add_plain (b o n j : Nat) : ((⟨b, o, none⟩ : Addr).add n).add j = ⟨b, o + n + j, none⟩ := by rw [add_plain', add_plain']

theorem list2 {α : Type} {l : List α} (h : l.length = 2) : ∃ a b, l = [a, b] := by
  match l, h with
  | [a, b], _ => exact ⟨a, b, rfl⟩
theorem list3 {α : Type} {l : List α} (h : l.length = 3) : ∃ a b c, l = [a, b, c] := by
  match l, h with
  | [a, b, c], _ => exact ⟨a, b, c, rfl⟩
theorem list5 {α : Type} {l : List α} (h : l.length = 5) : ∃ a b c d e, l = [a, b, c, d, e] := by
  match l, h with
  | [a, b, c, d, e], _ => exact ⟨a, b, c, d, e, rfl⟩
theorem list7 {α : Type} {l : List α} (h : l.length = 7) : ∃ a b c d e f g, l = [a, b, c, d, e, f, g] := by
  match l, h with
  | [a, b, c, d, e, f, g], _ => exact ⟨a, b, c, d, e, f, g, rfl⟩

section
variable {H : Type} {enc : TypeId × Value → H} {w : World} {base : Nat} {spare : Nat → Bool} {held : Bool}

/-- Each weight of a datum is within the reach. -/
def Light (t : TypeId) (d : DataW H) : Prop := ∀ n ∈ d.weights Try.prog t, n ≤ reachBytes

theorem light_slice {t e : TypeId} (ht : Try.prog.underlying t = some (.slice e)) {es sp : List (DataW H)} (h : Light t (.slice es sp)) : (es.length + sp.length) * Try.prog.bytesOf e ≤ reachBytes ∧ ∀ d ∈ es, Light e d := by
  constructor
  · exact h _ (by simp [DataW.weights, ht])
  · intro d hd n hn
    refine h n ?_
    simp only [DataW.weights, ht, List.mem_cons, List.mem_append]
    refine .inr (.inl ?_)
    clear h
    induction es with
    | nil => simp at hd
    | cons x es ih =>
      simp only [DataW.weightsAll, List.mem_append]
      rcases List.mem_cons.1 hd with rfl | hd
      · exact .inl hn
      · exact .inr (ih hd)

theorem light_struct {t : TypeId} {fs : Array Field} (ht : Try.prog.underlying t = some (.struct fs)) {ds : List (DataW H)} (h : Light t (.agg ds)) (j : Nat) (f : Field) (d : DataW H) (hf : fs[j]? = some f) (hd : ds[j]? = some d) : Light f.type d := fun n hn =>
  h n (by
    simp only [DataW.weights, ht]
    exact DataW.weights_mem_each (j := j) (by simp; exact ⟨f, hf, rfl⟩) hd n hn)

def Old (w : World) : Nat → Prop := fun k => k < w.heap.size

theorem cell_lt {w : World} {a : Addr} {v : Value} (h : w.cell? a = some v) : a.block < w.heap.size := World.block_lt_of_cell? w a h

theorem spot_none {w : World} {a : Addr} {v : Value} (h : w.cell? a = some v) : a.spot = none := by
  obtain ⟨b, o, sp⟩ := a
  simp only [World.cell?] at h
  split at h
  · split at h
    · cases h
    · rename_i hs
      simpa using hs
  · cases h

theorem bytes5 : Try.prog.bytesOf 5 = 1 := by kernel_rfl
theorem cells5 : Try.prog.cellsOf 5 = 1 := by kernel_rfl
theorem bytes124 : Try.prog.bytesOf 124 = 40 := by kernel_rfl
theorem cells124 : Try.prog.cellsOf 124 = 2 := by kernel_rfl
theorem bytes38 : Try.prog.bytesOf 38 = 64 := by kernel_rfl
theorem cells38 : Try.prog.cellsOf 38 = 3 := by kernel_rfl
theorem bytes80 : Try.prog.bytesOf 80 = 16 := by kernel_rfl
theorem cells80 : Try.prog.cellsOf 80 = 2 := by kernel_rfl
theorem cells40 : Try.prog.cellsOf 40 = 7 := by kernel_rfl
theorem cells9 : Try.prog.cellsOf 9 = 1 := by kernel_rfl
theorem cells24 : Try.prog.cellsOf 24 = 1 := by kernel_rfl
theorem cells34 : Try.prog.cellsOf 34 = 1 := by kernel_rfl
theorem cells35 : Try.prog.cellsOf 35 = 1 := by kernel_rfl
theorem cells36 : Try.prog.cellsOf 36 = 1 := by kernel_rfl
theorem cells3 : Try.prog.cellsOf 3 = 1 := by kernel_rfl
theorem cells23 : Try.prog.cellsOf 23 = 1 := by kernel_rfl

/-- A slice that is read: at every index below its length the elements' cells, and how they read. -/
theorem slice_cells {t e : TypeId} {C : Nat} {fuel : Nat} {cs : List Value} {x : DataW H × List MemPlace} (ht : Try.prog.underlying t = some (.slice e)) (hC : Try.prog.cellsOf e = C) (hC0 : 0 < C)
    (h : DataW.trod enc Try.prog w base spare held fuel t cs = some x) (hL : Light t x.1) :
    ∃ (A : Option Addr) (len cap n : Nat), n < fuel ∧ cs = [.slice A len cap] ∧ len ≤ cap ∧ cap ≤ maxLen ∧ len * Try.prog.bytesOf e ≤ reachBytes ∧
      (len = 0 ∨ ∃ b o, A = some ⟨b, o, none⟩ ∧ b < w.heap.size ∧ ∀ i, i < len → ∃ cs' y, cs'.length = C ∧ (∀ j, j < C → w.cell? ⟨b, o + i * C + j, none⟩ = cs'[j]?) ∧ DataW.trod enc Try.prog w base spare held n e cs' = some y ∧ Light e y.1) := by
  rcases DataW.trod_slice ht h with ⟨rfl, rfl⟩ | ⟨a, len, cap, elems, rest, n, hf, rfl, rfl, hb, hl, hm, hel, hi, _⟩
  · refine ⟨none, 0, 0, 0, ?_, rfl, by omega, by simp [maxLen], by simp, .inl rfl⟩
    rcases Nat.eq_zero_or_pos fuel with h0 | h0
    · subst h0
      simp [DataW.trod] at h
    · exact h0
  · obtain ⟨l1, l2⟩ := light_slice ht hL
    have hw1 : len * Try.prog.bytesOf e ≤ reachBytes := Nat.le_trans (Nat.mul_le_mul_right _ (by simp; omega)) l1
    have key : ∀ i, i < len → ∃ cs' y, w.cells? base (a.add (i * C)) C = some cs' ∧ DataW.trod enc Try.prog w base spare held n e cs' = some y ∧ Light e y.1 := fun i hil => by
      have h1 := hi i hil
      rw [List.getElem?_eq_getElem (by omega), hC] at h1
      obtain ⟨cs', h2, h3⟩ := Option.bind_eq_some_iff.1 h1
      exact ⟨cs', _, h2, h3, l2 _ (List.mem_map.2 ⟨_, List.getElem_mem _, rfl⟩)⟩
    refine ⟨some a, len, cap, n, by omega, rfl, hl, hm, hw1, ?_⟩
    clear hi hel hf l1 l2 hL h
    rcases Nat.eq_zero_or_pos len with h0 | h0
    · exact .inl h0
    · right
      obtain ⟨cs0, _, hc0, _⟩ := key 0 h0
      obtain ⟨_, hcl0, hat0⟩ := World.cells?_some hc0
      have ha0 := hat0 0 hC0
      rw [Nat.zero_mul] at ha0
      have e0 : (a.add 0).add 0 = a := by simp [Addr.add]
      rw [e0] at ha0
      have hcl0' : 0 < cs0.length := by rw [hcl0]; exact hC0
      have hv : cs0[0]? = some (cs0[0]'hcl0') := List.getElem?_eq_getElem hcl0'
      rw [hv] at ha0
      obtain ⟨b, o, sp⟩ := a
      have hsp : sp = none := spot_none ha0
      subst hsp
      refine ⟨b, o, rfl, cell_lt ha0, fun i hil => ?_⟩
      obtain ⟨cs', y, hc', ht', hy⟩ := key i hil
      obtain ⟨_, hcl, hat⟩ := World.cells?_some hc'
      refine ⟨cs', y, hcl, fun j hj => ?_, ht', hy⟩
      rw [← hat j hj, add_add_plain]

theorem val_of {fuel : Nat} {cs : List Value} {x : DataW H × List MemPlace} (h : DataW.trod enc Try.prog w base spare held fuel 24 cs = some x) (hL : Light 24 x.1) : ∃ v l, cs = [v] ∧ ValC w (Old w) v l := by
  obtain ⟨A, len, cap, n, _, rfl, hl, hm, hr, hc⟩ := slice_cells Try.underlying24 cells5 (by omega) h hL
  rw [bytes5] at hr
  have hre : reachBytes = 140737488351232 := rfl
  rcases hc with rfl | ⟨b, o, rfl, hb, hc⟩
  · exact ⟨_, [], rfl, A, cap, rfl, by simp, by simp, hm, .inl rfl⟩
  · have key : ∀ i, i < len → ∃ u : UInt8, w.cell? ⟨b, o + i, none⟩ = some (bv u) := fun i hi => by
      obtain ⟨cs', y, hlen, hat, ht, _⟩ := hc i hi
      obtain ⟨z, rfl, _, hz⟩ := DataW.trod_int Try.underlying5 ht
      have h0 := hat 0 (by omega)
      simp at h0
      obtain ⟨z0, z1⟩ := bounds_u8 hz
      refine ⟨UInt8.ofNat z.toNat, ?_⟩
      rw [h0]
      congr 1
      unfold bv
      congr 1
      rw [UInt8.toNat_ofNat']
      omega
    obtain ⟨f, hf⟩ : ∃ f : Nat → UInt8, ∀ i, i < len → w.cell? ⟨b, o + i, none⟩ = some (bv (f i)) := ⟨fun i => if h : i < len then Classical.choose (key i h) else 0, fun i hi => by simp only [dif_pos hi]; exact Classical.choose_spec (key i hi)⟩
    refine ⟨_, (List.range len).map f, rfl, some ⟨b, o, none⟩, cap, by simp, by simp; omega, by simpa using hl, hm, .inr ⟨b, o, rfl, hb, fun j u hu => ?_⟩⟩
    have hj := (List.getElem?_eq_some_iff.1 hu).1
    simp at hj
    rw [hf j hj]
    simpa [hj] using hu

theorem str_of {fuel : Nat} {cs : List Value} {x : DataW H × List MemPlace} (h : DataW.trod enc Try.prog w base spare held fuel 9 cs = some x) (hL : Light 9 x.1) : ∃ s : ByteArray, cs = [.string s] ∧ s.size ≤ 140737488351232 := by
  obtain ⟨s, rfl, rfl, hs⟩ := DataW.trod_string Try.underlying9 h
  have hre : reachBytes = 140737488351232 := rfl
  have := hL s.data.toList.length (by simp [DataW.weights])
  exact ⟨s, rfl, by simp at this; rw [hre] at this; exact this⟩

theorem pr_of {fuel : Nat} {cs : List Value} {x : DataW H × List MemPlace} (h : DataW.trod enc Try.prog w base spare held fuel 124 cs = some x) (hL : Light 124 x.1) : ∃ v0 v1 p, cs = [v0, v1] ∧ PrC w (Old w) p (v0, v1) := by
  obtain ⟨y0, y1, n, rfl, hlen, h0, h1⟩ := trod_struct2 Try.underlying124 h
  rw [cells124] at hlen
  obtain ⟨c0, c1, rfl⟩ := list2 hlen
  · simp only [cells9, cells24, List.drop_zero, List.take_succ_cons, List.take_zero, List.drop_succ_cons] at h0 h1
    have l0 := light_struct Try.underlying124 hL 0 _ y0.1 rfl rfl
    have l1 := light_struct Try.underlying124 hL 1 _ y1.1 rfl rfl
    obtain ⟨s, hs, hsz⟩ := str_of h0 l0
    obtain ⟨v, l, hv, hval⟩ := val_of h1 l1
    have hs := (List.cons.inj hs).1
    have hv := (List.cons.inj hv).1
    subst hs hv
    exact ⟨_, _, ⟨s, l⟩, rfl, rfl, hsz, hval⟩

/-- Choose an element for each index. -/
theorem each_of {α β : Type} {R : α → β → Prop} : ∀ (len : Nat) (key : ∀ i, i < len → ∃ x y, R x y), ∃ (xs : List α) (ys : List β), xs.length = len ∧ Each R xs ys ∧ True
  | 0, _ => ⟨[], [], rfl, Each.nil, trivial⟩
  | len + 1, key => by
    obtain ⟨xs, ys, h1, h2, _⟩ := each_of len (fun i hi => key i (by omega))
    obtain ⟨x, y, h⟩ := key len (by omega)
    exact ⟨xs ++ [x], ys ++ [y], by simp [h1], h2.snoc h, trivial⟩

theorem each_at {α β : Type} {R : α → β → Prop} {S : Nat → β → Prop} : ∀ (len : Nat) (key : ∀ i, i < len → ∃ x y, R x y ∧ S i y), ∃ (xs : List α) (ys : List β), xs.length = len ∧ Each R xs ys ∧ ∀ i y, ys[i]? = some y → S i y
  | 0, _ => ⟨[], [], rfl, Each.nil, fun i y h => by simp at h⟩
  | len + 1, key => by
    obtain ⟨xs, ys, h1, h2, h3⟩ := each_at len (fun i hi => key i (by omega))
    obtain ⟨x, y, h, hs⟩ := key len (by omega)
    refine ⟨xs ++ [x], ys ++ [y], by simp [h1], h2.snoc h, fun i z hz => ?_⟩
    have hl : ys.length = len := h2.1.symm.trans h1
    rcases Nat.lt_or_ge i len with hi | hi
    · exact h3 i z (by rwa [List.getElem?_append_left (by omega)] at hz)
    · have hi2 := (List.getElem?_eq_some_iff.1 hz).1
      simp [hl] at hi2
      obtain rfl : i = len := by omega
      rw [List.getElem?_append_right (by omega), hl] at hz
      simp at hz
      subst hz
      exact hs

theorem props_of {fuel : Nat} {cs : List Value} {x : DataW H × List MemPlace} (h : DataW.trod enc Try.prog w base spare held fuel 35 cs = some x) (hL : Light 35 x.1) : ∃ v ps, cs = [v] ∧ PropsC w (Old w) v ps := by
  obtain ⟨A, len, cap, n, _, rfl, hl, hm, hr, hc⟩ := slice_cells Try.underlying35 cells124 (by omega) h hL
  rw [bytes124] at hr
  have hre : reachBytes = 140737488351232 := rfl
  rcases hc with rfl | ⟨b, o, rfl, hb, hc⟩
  · exact ⟨_, [], rfl, A, cap, [], rfl, by simp, by simp, hm, Each.nil, .inl rfl⟩
  · obtain ⟨ps, ts, h1, h2, h3⟩ := each_at (R := PrC w (Old w)) (S := fun i t => w.cell? ⟨b, o + i * 2, none⟩ = some t.1 ∧ w.cell? ⟨b, o + i * 2 + 1, none⟩ = some t.2) len (fun i hi => by
      obtain ⟨cs', y, hlen, hat, ht, hLe⟩ := hc i hi
      obtain ⟨v0, v1, p, rfl, hp⟩ := pr_of ht hLe
      exact ⟨p, (v0, v1), hp, hat 0 (by omega), hat 1 (by omega)⟩)
    subst h1
    exact ⟨_, ps, rfl, some ⟨b, o, none⟩, cap, ts, rfl, by omega, hl, hm, h2, .inr ⟨b, o, rfl, hb, fun i t ht => h3 i t ht⟩⟩

theorem rooms_of {fuel : Nat} {cs : List Value} {x : DataW H × List MemPlace} (h : DataW.trod enc Try.prog w base spare held fuel 34 cs = some x) (hL : Light 34 x.1) : ∃ v rs, cs = [v] ∧ RoomsC w (Old w) v rs := by
  obtain ⟨A, len, cap, n, _, rfl, hl, hm, hr, hc⟩ := slice_cells Try.underlying34 cells80 (by omega) h hL
  rw [bytes80] at hr
  have hre : reachBytes = 140737488351232 := rfl
  rcases hc with rfl | ⟨b, o, rfl, hb, hc⟩
  · exact ⟨_, [], rfl, A, cap, rfl, by simp, by simp, hm, by simp, .inl rfl⟩
  · obtain ⟨rs, ts, h1, h2, h3⟩ := each_at (R := fun (r : Int × Int) (t : Value × Value) => t = roomC r ∧ 0 ≤ r.1 ∧ r.1 ≤ 18446744073709551615 ∧ 0 ≤ r.2 ∧ r.2 ≤ 18446744073709551615)
      (S := fun i t => w.cell? ⟨b, o + i * 2, none⟩ = some t.1 ∧ w.cell? ⟨b, o + i * 2 + 1, none⟩ = some t.2) len (fun i hi => by
      obtain ⟨cs', y, hlen, hat, ht, hLe⟩ := hc i hi
      obtain ⟨y0, y1, n', rfl, hlen', h0, h1⟩ := trod_struct2 Try.underlying80 ht
      obtain ⟨c0, c1, rfl⟩ := list2 hlen
      · simp only [cells23, List.drop_zero, List.take_succ_cons, List.take_zero, List.drop_succ_cons] at h0 h1
        obtain ⟨z0, e0, _, w0⟩ := DataW.trod_int Try.underlying23 h0
        obtain ⟨z1, e1, _, w1⟩ := DataW.trod_int Try.underlying23 h1
        have e0 := (List.cons.inj e0).1
        have e1 := (List.cons.inj e1).1
        subst e0 e1
        obtain ⟨b0, b1⟩ := bounds_u64 w0
        obtain ⟨b2, b3⟩ := bounds_u64 w1
        exact ⟨(z0, z1), roomC (z0, z1), ⟨rfl, b0, b1, b2, b3⟩, hat 0 (by omega), hat 1 (by omega)⟩)
    subst h1
    have hts : ts = rs.map roomC := by
      refine List.ext_getElem? fun i => ?_
      rw [List.getElem?_map]
      rcases Nat.lt_or_ge i rs.length with hi | hi
      · have a1 : rs[i]? = some rs[i] := List.getElem?_eq_getElem hi
        have a2 : ts[i]? = some (ts[i]'(by have := h2.1; omega)) := List.getElem?_eq_getElem _
        rw [a2, a1, (h2.2 i _ _ a1 a2).1]
        rfl
      · rw [List.getElem?_eq_none hi, List.getElem?_eq_none (by have := h2.1; omega)]
        rfl
    subst hts
    refine ⟨_, rs, rfl, some ⟨b, o, none⟩, cap, rfl, by omega, hl, hm, fun r hr => ?_, .inr ⟨b, o, rfl, hb, fun i t ht => h3 i t ht⟩⟩
    obtain ⟨i, hi, rfl⟩ := List.getElem_of_mem hr
    exact (h2.2 i _ (roomC rs[i]) (List.getElem?_eq_getElem hi) (by rw [List.getElem?_map, List.getElem?_eq_getElem hi]; rfl)).2

theorem node_step {fuel : Nat} {cs : List Value} {x : DataW H × List MemPlace}
    (ih : ∀ m, m < fuel → ∀ (cs : List Value) (x : DataW H × List MemPlace), DataW.trod enc Try.prog w base spare held m 38 cs = some x → Light 38 x.1 → ∃ v0 v1 v2 n, cs = [v0, v1, v2] ∧ NodeC w (Old w) n (v0, v1, v2))
    (h : DataW.trod enc Try.prog w base spare held fuel 38 cs = some x) (hL : Light 38 x.1) : ∃ v0 v1 v2 n, cs = [v0, v1, v2] ∧ NodeC w (Old w) n (v0, v1, v2) := by
  obtain ⟨xs, m, hf, rfl, hlen, hxl, hfs⟩ := DataW.trod_struct Try.underlying38 h
  obtain ⟨y0, y1, y2, rfl⟩ := list3 hxl
  have h0 := hfs 0 _ rfl
  have h1 := hfs 1 _ rfl
  have h2 := hfs 2 _ rfl
  rw [cells38] at hlen
  obtain ⟨c0, c1, c2, rfl⟩ := list3 hlen
  simp only [List.getElem_toArray, List.getElem_cons_zero, List.getElem_cons_succ, cells9, cells35, cells36, List.drop_zero, List.take_succ_cons, List.take_zero, List.drop_succ_cons, List.getElem?_cons_zero, List.getElem?_cons_succ] at h0 h1 h2
  have l0 := light_struct Try.underlying38 hL 0 _ y0.1 rfl rfl
  have l1 := light_struct Try.underlying38 hL 1 _ y1.1 rfl rfl
  have l2 := light_struct Try.underlying38 hL 2 _ y2.1 rfl rfl
  obtain ⟨s, hs, hsz⟩ := str_of h0 l0
  obtain ⟨v, ps, hv, hps⟩ := props_of h1 l1
  have hs := (List.cons.inj hs).1
  have hv := (List.cons.inj hv).1
  subst hs hv
  have hre : reachBytes = 140737488351232 := rfl
  obtain ⟨A, len, cap, n, hn, hA, hl, hm, hr, hc⟩ := slice_cells Try.underlying36 cells38 (by omega) h2 l2
  have hA := (List.cons.inj hA).1
  subst hA
  rw [bytes38] at hr
  rcases hc with rfl | ⟨b, o, rfl, hb, hc⟩
  · exact ⟨_, _, _, .mk s ps [], rfl, .shut hsz hps ⟨A, cap, [], rfl, by simp, by simp, hm, Each.nil, .inl rfl⟩⟩
  · obtain ⟨ks, ts, e1, e2, e3⟩ := each_at (R := NodeC w (Old w)) (S := fun i t => w.cell? ⟨b, o + i * 3, none⟩ = some t.1 ∧ w.cell? ⟨b, o + i * 3 + 1, none⟩ = some t.2.1 ∧ w.cell? ⟨b, o + i * 3 + 2, none⟩ = some t.2.2) len (fun i hi => by
      obtain ⟨cs', y, hlen, hat, ht, hLe⟩ := hc i hi
      obtain ⟨v0, v1, v2, k, rfl, hk⟩ := ih n (by omega) cs' y ht hLe
      exact ⟨k, (v0, v1, v2), hk, hat 0 (by omega), hat 1 (by omega), hat 2 (by omega)⟩)
    subst e1
    exact ⟨_, _, _, .mk s ps ks, rfl, .shut hsz hps ⟨_, cap, ts, rfl, by omega, hl, hm, e2, .inr ⟨b, o, rfl, hb, fun i t ht => e3 i t ht⟩⟩⟩

theorem node_of (fuel : Nat) : ∀ (cs : List Value) (x : DataW H × List MemPlace), DataW.trod enc Try.prog w base spare held fuel 38 cs = some x → Light 38 x.1 → ∃ v0 v1 v2 n, cs = [v0, v1, v2] ∧ NodeC w (Old w) n (v0, v1, v2) := by
  induction fuel using Nat.strongRecOn with
  | ind fuel ih => exact fun cs x h hL => node_step ih h hL

theorem tree_of {fuel : Nat} {cs : List Value} {x : DataW H × List MemPlace} (h : DataW.trod enc Try.prog w base spare held fuel 40 cs = some x) (hL : Light 40 x.1) : ∃ t, TreeC w (Old w) t cs.toArray := by
  obtain ⟨xs, m, hf, rfl, hlen, hxl, hfs⟩ := DataW.trod_struct Try.underlying40 h
  obtain ⟨y0, y1, y2, y3, y4, rfl⟩ := list5 hxl
  have h0 := hfs 0 _ rfl
  have h1 := hfs 1 _ rfl
  have h2 := hfs 2 _ rfl
  have h3 := hfs 3 _ rfl
  have h4 := hfs 4 _ rfl
  rw [cells40] at hlen
  obtain ⟨c0, c1, c2, c3, c4, c5, c6, rfl⟩ := list7 hlen
  simp only [List.getElem_toArray, List.getElem_cons_zero, List.getElem_cons_succ, cells3, cells34, cells38, List.drop_zero, List.take_succ_cons, List.take_zero, List.drop_succ_cons, List.getElem?_cons_zero, List.getElem?_cons_succ] at h0 h1 h2 h3 h4
  have l3 := light_struct Try.underlying40 hL 3 _ y3.1 rfl rfl
  have l4 := light_struct Try.underlying40 hL 4 _ y4.1 rfl rfl
  obtain ⟨z0, e0, _, w0⟩ := DataW.trod_int Try.underlying3 h0
  obtain ⟨z1, e1, _, w1⟩ := DataW.trod_int Try.underlying3 h1
  obtain ⟨z2, e2, _, w2⟩ := DataW.trod_int Try.underlying3 h2
  obtain ⟨vr, rs, e3, hr⟩ := rooms_of h3 l3
  obtain ⟨v0, v1, v2, n, e4, hn⟩ := node_of _ _ _ h4 l4
  have e0 := (List.cons.inj e0).1
  have e1 := (List.cons.inj e1).1
  have e2 := (List.cons.inj e2).1
  have e3 := (List.cons.inj e3).1
  simp only [List.cons.injEq, and_true] at e4
  obtain ⟨e4, e5, e6⟩ := e4
  subst e0 e1 e2 e3 e4 e5 e6
  exact ⟨⟨z0, z1, z2, rs, n⟩, _, (_, _, _), rfl, hr, hn, bounds_i64 w0, bounds_i64 w1, bounds_i64 w2⟩
end
end Go.Proofs.Ytlbhadggfipckaa
