/-
  Words for memory that all laws' proofs share: byte values, slices that read as lists, the frame of a call.
-/
import Derived.Test.YtlbhadggfipckaaRows
import Derived.WalkKit
import Derived.WalkLawsBesides
import Derived.WalkSpells
import Derived.Lib.Hide
import Derived.Deep.LoopGhost
import Derived.Deep.QuietTactic
import Derived.BigQuiet
import Derived.Maps.AppendAt
import Derived.Deep.AppendLies
set_option linter.unusedVariables false
set_option linter.unusedSimpArgs false
namespace Go.Proofs.Ytlbhadggfipckaa
open Go.RowKit

abbrev bv (x : UInt8) : Value := .int .u8 (x.toNat : Int)

theorem bv_one (l : List UInt8) : ∀ u ∈ l.map bv, u.oneCell' = true := by
  intro u hu
  obtain ⟨x, _, rfl⟩ := List.mem_map.1 hu
  rfl

/-- The slice at A holds the cells xs. -/
def Rd (w : World) (A : Option Addr) (xs : List Value) : Prop :=
  xs = [] ∨ ∃ b o, A = some ⟨b, o, none⟩ ∧ ∀ j u, xs[j]? = some u → w.cell? ⟨b, o + j, none⟩ = some u

/-- The block of a slice that is not empty lies below B. -/
def Under (B : Nat) (A : Option Addr) (xs : List Value) : Prop := xs = [] ∨ ∀ a, A = some a → a.block < B

theorem Rd.under {w : World} {A : Option Addr} {xs : List Value} (h : Rd w A xs) : Under w.heap.size A xs := by
  rcases h with h | ⟨b, o, rfl, h⟩
  · exact .inl h
  · rcases xs with _ | ⟨x, xs⟩
    · exact .inl rfl
    · refine .inr fun a ha => ?_
      injection ha with ha
      subst ha
      exact World.block_lt_of_cell? w _ (h 0 x rfl)

theorem Rd.mono {w w' : World} {A : Option Addr} {xs : List Value} (h : Rd w A xs) (hb : ∀ a, A = some a → w'.heap[a.block]? = w.heap[a.block]?) : Rd w' A xs := by
  rcases h with h | ⟨b, o, rfl, h⟩
  · exact .inl h
  · exact .inr ⟨b, o, rfl, fun j u hu => (World.cell?_of_block (a := ⟨b, o + j, none⟩) (hb ⟨b, o, none⟩ rfl)).trans (h j u hu)⟩

theorem Rd.alloc {w : World} {A : Option Addr} {xs : List Value} (h : Rd w A xs) {o : Obj} : Rd (w.alloc o) A xs := by
  rcases h with h | ⟨b, o', rfl, h⟩
  · exact .inl h
  · exact .inr ⟨b, o', rfl, fun j u hu => (World.cell?_alloc_lt w o _ (World.block_lt_of_cell? w _ (h j u hu))).trans (h j u hu)⟩

theorem Rd.nil {w : World} {l : List UInt8} (h : Rd w none (l.map bv)) : l = [] := by
  rcases h with h | ⟨b, o', h, _⟩
  · simpa using h
  · cases h

/-- a slice of bytes -/
def SlB (w : World) (v : Value) (l : List UInt8) : Prop :=
  ∃ A cap, v = .slice A l.length cap ∧ l.length ≤ cap ∧ cap ≤ maxLen ∧ Rd w A (l.map bv)

theorem info5 : (Try.prog.info? 5).map (fun i => (i.zero, i.size, i.bytes)) = some (some (.int .u8 0), 1, 1) := by kernel_rfl

/-- append onto a row of the call's own, from whatever source. -/
theorem run_append_rd {P : Program} (w : World) (base : Nat) (t ty e : TypeId) (i : TypeInfo) (z : Value) (size bytes : Nat) (ht : P.underlying t = some (.slice e)) (hi : P.info? e = some i) (hz : i.zero = some z)
    (hsize : i.size = size) (hby : i.bytes = bytes) (hzs : z.cells.size = size) (hsz : 0 < size)
    (v : Value) (n : Nat) (xs : List Value) (hown : w.ownsRow base e size v n xs)
    (A : Option Addr) (m c : Nat) (news : List Value) (hl : news.length = m * size) (hnews : Rd w A news) (h1 : ∀ u ∈ news, u.oneCell' = true)
    (h63 : n + m ≤ maxLen) (hbytes : (n + m) * bytes ≤ 140737488355328) (hbase : base ≤ w.heap.size) :
    ∃ v' w', (Builtin.append_ #[t, t] ty #[v, .slice A m c]).run P w = .ok v' w' ∧ w'.ownsRow base e size v' (n + m) (xs ++ news) ∧ w.grownBy w' v.ownBlock ∧
      (v' = .slice none 0 0 ↔ v = .slice none 0 0 ∧ m = 0) ∧ (v'.ownBlock = v.ownBlock ∨ v'.ownBlock = some w.heap.size) := by
  have main : ∀ (a : Addr), (∀ j u, news[j]? = some u → w.cell? (a.add j) = some u) → ∃ v' w', (Builtin.append_ #[t, t] ty #[v, .slice (some a) m c]).run P w = .ok v' w' ∧ w'.ownsRow base e size v' (n + m) (xs ++ news) ∧ w.grownBy w' v.ownBlock ∧
      (v' = .slice none 0 0 ↔ v = .slice none 0 0 ∧ m = 0) ∧ (v'.ownBlock = v.ownBlock ∨ v'.ownBlock = some w.heap.size) := fun a ha =>
    run_append_own_at w base t ty e i z size bytes ht hi hz hsize hby hzs hsz v n xs hown a m c news hl ha h1 h63 hbytes hbase
  rcases A with _ | a
  · have hn : news = [] := by
      rcases hnews with h | ⟨b, o, h, _⟩
      · exact h
      · cases h
    subst hn
    have hm : m = 0 := by
      have h0 : m * size = 0 := by simpa using hl.symm
      rcases Nat.mul_eq_zero.1 h0 with h0 | h0
      · exact h0
      · omega
    subst hm
    have hn0 : ∀ old, n + 0 ≤ old ↔ n ≤ old := fun old => by simp
    have hrun : (Builtin.append_ #[t, t] ty #[v, .slice none 0 c]).run P w = .ok v w := by
      rcases hown.2 with ⟨rfl, rfl⟩ | ⟨g, cap, cur, rfl, _, hg, hnc, _, _, _⟩
      · simp [Builtin.append_, run_underlying ht, sizeOf, typeInfo, hi, Builtin.lenOf, Builtin.firstCells]
      · simp [Builtin.append_, run_underlying ht, sizeOf, typeInfo, hi, Builtin.lenOf, Builtin.firstCells, hnc, storeCells]
    refine ⟨v, w, hrun, by simpa using hown, ⟨rfl, rfl, rfl, Nat.le_refl _, fun _ _ _ => rfl⟩, by simp, .inl rfl⟩
  · rcases hnews with h | ⟨b, o, h, hc⟩
    · subst h
      exact main a (by simp)
    · injection h with h
      subst h
      refine main _ fun j u hu => ?_
      have := hc j u hu
      unfold Addr.add
      split
      · rename_i h0; subst h0; simpa using this
      · exact this

theorem own_cap {w : World} {base e size : Nat} {A : Option Addr} {n cap : Nat} {xs : List Value} {n' : Nat} (h : w.ownsRow base e size (.slice A n' cap) n xs) : n ≤ cap ∧ cap ≤ maxLen := by
  rcases h.2 with ⟨h1, rfl⟩ | ⟨g, c, cur, h1, _, _, h2, h3, _⟩
  · injection h1 with _ _ h1
    subst h1
    simp [maxLen]
  · injection h1 with _ _ h1
    subst h1
    exact ⟨h2, h3⟩

theorem blw_drewN {B : Nat} {a w : World} (h : Below B a w) (n : Nat) : Below B a (w.drewN n) := ⟨h.os, h.tape, h.output, h.size, h.block⟩

theorem SlB.below {w w' : World} {v : Value} {l : List UInt8} (h : SlB w v l) (hb : Below w.heap.size w w') : SlB w' v l := by
  obtain ⟨A, cap, rfl, h1, h2, h3⟩ := h
  refine ⟨A, cap, rfl, h1, h2, ?_⟩
  rcases h3 with h | ⟨b, o', rfl, h⟩
  · exact .inl h
  · exact .inr ⟨b, o', rfl, fun j u hu => (hb.cell (World.block_lt_of_cell? w _ (h j u hu))).trans (h j u hu)⟩

theorem Rd.new (w : World) (cs : Array Value) (t : TypeId) (xs : List Value) (h : cs.toList = xs) : Rd (w.alloc (.cells cs t)) (some ⟨w.heap.size, 0, none⟩) xs := by
  subst h
  refine .inr ⟨_, _, rfl, fun j u hu => ?_⟩
  rw [cell_of_row (w.alloc (.cells cs t)) w.heap.size (0 + j) cs t (0, 0) (heap_alloc_new w _)]
  simpa using hu

theorem rd_at {w : World} {A : Option Addr} {xs : List Value} (h : Rd w A xs) (hn : 0 < xs.length ∨ xs ≠ []) : ∃ b o, A = some ⟨b, o, none⟩ ∧ ∀ j u, xs[j]? = some u → w.cell? ⟨b, o + j, none⟩ = some u := by
  rcases h with rfl | h
  · simp at hn
  · exact h

/-- A slice type with its element type: how many cells and how many bytes an element has. -/
def Elem (P : Program) (t e size bytes : Nat) : Prop :=
  P.underlying t = some (.slice e) ∧ ∃ i z, P.info? e = some i ∧ i.zero = some z ∧ i.size = size ∧ i.bytes = bytes ∧ z.cells.size = size ∧ 0 < size

theorem el24 : Elem Try.prog 24 5 1 1 := by
  obtain ⟨i, hi, hz0, hz1, hz2⟩ := info_parts info5
  exact ⟨Try.underlying24, i, _, hi, hz0, hz1, hz2, rfl, by omega⟩

theorem wp_append_el {P : Program} {w : World} {o : Oper} {a : Act} {K : Act → World → Prop} {Q : Exit → Act → World → Prop} {t e size bytes : Nat} (hel : Elem P t e size bytes) (s x : Operand)
    (ho : o.op = .call { callee := .builtin .append, args := #[s, x], argTypes := #[t, t] })
    (base : Nat) (v : Value) (n : Nat) (xs : List Value) (hs : a.eval s = v) (hown : w.ownsRow base e size v n xs)
    (A : Option Addr) (m c : Nat) (news : List Value) (hx : a.eval x = .slice A m c) (hl : news.length = m * size) (hnews : Rd w A news) (h1 : ∀ u ∈ news, u.oneCell' = true)
    (hbytes : (n + m) * bytes ≤ 140737488355328) (h63 : n + m ≤ 140737488355328) (hbase : base ≤ w.heap.size)
    (h : ∀ v' w', w'.ownsRow base e size v' (n + m) (xs ++ news) → w.grownBy w' v.ownBlock → (v' = .slice none 0 0 ↔ v = .slice none 0 0 ∧ m = 0) → (v'.ownBlock = v.ownBlock ∨ v'.ownBlock = some w.heap.size) → K (a.put o.dst v') w') : o.wp P a w K Q := by
  obtain ⟨ht, i, z, hi, hz, hsize, hby, hzs, hsz⟩ := hel
  obtain ⟨v', w', hr, h2, h3, h4, h5⟩ := run_append_rd (P := P) w base t o.type e i z size bytes ht hi hz hsize hby hzs hsz v n xs hown A m c news hl hnews h1 (by simp only [maxLen]; omega) hbytes hbase
  unfold Oper.wp execOp
  simp only [ho, resolve, invoke, builtin, Sem.run_bind, Sem.run_pure, Result.andThen_ok, List.map_toArray, List.map_cons, List.map_nil, hs, hx, hr]
  exact h v' w' h2 h3 h4 h5

theorem wpList_append_el {P : Program} {w : World} {ops : Array Oper} {rest : List Oper} {o : Oper} {a : Act} {Q : Exit → Act → World → Prop} {t e size bytes : Nat} (hel : Elem P t e size bytes) (hgd : o.guard = none) (s x : Operand)
    (ho : o.op = .call { callee := .builtin .append, args := #[s, x], argTypes := #[t, t] })
    (base : Nat) (v : Value) (n : Nat) (xs : List Value) (hs : a.eval s = v) (hown : w.ownsRow base e size v n xs)
    (A : Option Addr) (m c : Nat) (news : List Value) (hx : a.eval x = .slice A m c) (hl : news.length = m * size) (hnews : Rd w A news) (h1 : ∀ u ∈ news, u.oneCell' = true)
    (hbytes : (n + m) * bytes ≤ 140737488355328) (h63 : n + m ≤ 140737488355328) (hbase : base ≤ w.heap.size)
    (h : ∀ v' w', w'.ownsRow base e size v' (n + m) (xs ++ news) → w.grownBy w' v.ownBlock → (v' = .slice none 0 0 ↔ v = .slice none 0 0 ∧ m = 0) → (v'.ownBlock = v.ownBlock ∨ v'.ownBlock = some w.heap.size) → wpList P ops Q rest (a.put o.dst v') w') : wpList P ops Q (o :: rest) a w :=
  wpList_plain hgd fun _ hK => wp_append_el hel s x ho base v n xs hs hown A m c news hx hl hnews h1 hbytes h63 hbase fun v' w' h2 h3 h4 h5 => hK _ _ (h v' w' h2 h3 h4 h5)

end Go.Proofs.Ytlbhadggfipckaa
