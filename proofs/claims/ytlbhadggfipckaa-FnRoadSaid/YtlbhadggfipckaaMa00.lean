/-
  Words for memory that all laws' proofs share: byte values, slices that read as lists, the frame of a call.
  The contracts of impl.try and of small helpers that all laws use.
  The contracts of slices.Clone, beUint32, beUint64 on bytes.
  beUint32, beUint64.
  Property.AsU32, Property.AsU64 of values of four and eight bytes; the closures that call them; impl.U32, impl.U64.
  laws.works answers true.
  The walk of laws.FnValues: it answers true.
  The last step of a row: a call that leaves every old block as it was, and returns true.
-/
import Derived.Test.YtlbhadggfipckaaRows
import Derived.WalkKit
import Derived.WalkLawsBesides
import Derived.WalkSpells
import Derived.Lib.Hide
import Derived.Deep.LoopGhost
import Derived.Deep.QuietTactic
import Derived.BigQuiet
import Derived.Maps.AppendAt
import Derived.Deep.AppendLies
import Derived.ProofKit
import Derived.OpenShut
set_option linter.unusedVariables false
set_option linter.unusedSimpArgs false
namespace Go.Proofs.Ytlbhadggfipckaa
open Go.RowKit

abbrev bv (x : UInt8) : Value := .int .u8 (x.toNat : Int)

theorem bv_one (l : List UInt8) : ∀ u ∈ l.map bv, u.oneCell' = true := by
  intro u hu
  obtain ⟨x, _, rfl⟩ := List.mem_map.1 hu
  rfl

/-- The slice at A holds the cells xs. -/
def Rd (w : World) (A : Option Addr) (xs : List Value) : Prop :=
  xs = [] ∨ ∃ b o, A = some ⟨b, o, none⟩ ∧ ∀ j u, xs[j]? = some u → w.cell? ⟨b, o + j, none⟩ = some u

/-- The block of a slice that is not empty lies below B. -/
def Under (B : Nat) (A : Option Addr) (xs : List Value) : Prop := xs = [] ∨ ∀ a, A = some a → a.block < B

theorem Rd.under {w : World} {A : Option Addr} {xs : List Value} (h : Rd w A xs) : Under w.heap.size A xs := by
  rcases h with h | ⟨b, o, rfl, h⟩
  · exact .inl h
  · rcases xs with _ | ⟨x, xs⟩
    · exact .inl rfl
    · refine .inr fun a ha => ?_
      injection ha with ha
      subst ha
      exact World.block_lt_of_cell? w _ (h 0 x rfl)

theorem Rd.mono {w w' : World} {A : Option Addr} {xs : List Value} (h : Rd w A xs) (hb : ∀ a, A = some a → w'.heap[a.block]? = w.heap[a.block]?) : Rd w' A xs := by
  rcases h with h | ⟨b, o, rfl, h⟩
  · exact .inl h
  · exact .inr ⟨b, o, rfl, fun j u hu => (World.cell?_of_block (a := ⟨b, o + j, none⟩) (hb ⟨b, o, none⟩ rfl)).trans (h j u hu)⟩

theorem Rd.alloc {w : World} {A : Option Addr} {xs : List Value} (h : Rd w A xs) {o : Obj} : Rd (w.alloc o) A xs := by
  rcases h with h | ⟨b, o', rfl, h⟩
  · exact .inl h
  · exact .inr ⟨b, o', rfl, fun j u hu => (World.cell?_alloc_lt w o _ (World.block_lt_of_cell? w _ (h j u hu))).trans (h j u hu)⟩

theorem Rd.nil {w : World} {l : List UInt8} (h : Rd w none (l.map bv)) : l = [] := by
  rcases h with h | ⟨b, o', h, _⟩
  · simpa using h
  · cases h

/-- a slice of bytes -/
def SlB (w : World) (v : Value) (l : List UInt8) : Prop :=
  ∃ A cap, v = .slice A l.length cap ∧ l.length ≤ cap ∧ cap ≤ maxLen ∧ Rd w A (l.map bv)

theorem info5 : (Try.prog.info? 5).map (fun i => (i.zero, i.size, i.bytes)) = some (some (.int .u8 0), 1, 1) := by kernel_rfl

/-- append onto a row of the call's own, from whatever source. -/
theorem run_append_rd {P : Program} (w : World) (base : Nat) (t ty e : TypeId) (i : TypeInfo) (z : Value) (size bytes : Nat) (ht : P.underlying t = some (.slice e)) (hi : P.info? e = some i) (hz : i.zero = some z)
    (hsize : i.size = size) (hby : i.bytes = bytes) (hzs : z.cells.size = size) (hsz : 0 < size)
    (v : Value) (n : Nat) (xs : List Value) (hown : w.ownsRow base e size v n xs)
    (A : Option Addr) (m c : Nat) (news : List Value) (hl : news.length = m * size) (hnews : Rd w A news) (h1 : ∀ u ∈ news, u.oneCell' = true)
    (h63 : n + m ≤ maxLen) (hbytes : (n + m) * bytes ≤ 140737488355328) (hbase : base ≤ w.heap.size) :
    ∃ v' w', (Builtin.append_ #[t, t] ty #[v, .slice A m c]).run P w = .ok v' w' ∧ w'.ownsRow base e size v' (n + m) (xs ++ news) ∧ w.grownBy w' v.ownBlock ∧
      (v' = .slice none 0 0 ↔ v = .slice none 0 0 ∧ m = 0) ∧ (v'.ownBlock = v.ownBlock ∨ v'.ownBlock = some w.heap.size) := by
  have main : ∀ (a : Addr), (∀ j u, news[j]? = some u → w.cell? (a.add j) = some u) → ∃ v' w', (Builtin.append_ #[t, t] ty #[v, .slice (some a) m c]).run P w = .ok v' w' ∧ w'.ownsRow base e size v' (n + m) (xs ++ news) ∧ w.grownBy w' v.ownBlock ∧
      (v' = .slice none 0 0 ↔ v = .slice none 0 0 ∧ m = 0) ∧ (v'.ownBlock = v.ownBlock ∨ v'.ownBlock = some w.heap.size) := fun a ha =>
    run_append_own_at w base t ty e i z size bytes ht hi hz hsize hby hzs hsz v n xs hown a m c news hl ha h1 h63 hbytes hbase
  rcases A with _ | a
  · have hn : news = [] := by
      rcases hnews with h | ⟨b, o, h, _⟩
      · exact h
      · cases h
    subst hn
    have hm : m = 0 := by
      have h0 : m * size = 0 := by simpa using hl.symm
      rcases Nat.mul_eq_zero.1 h0 with h0 | h0
      · exact h0
      · omega
    subst hm
    have hn0 : ∀ old, n + 0 ≤ old ↔ n ≤ old := fun old => by simp
    have hrun : (Builtin.append_ #[t, t] ty #[v, .slice none 0 c]).run P w = .ok v w := by
      rcases hown.2 with ⟨rfl, rfl⟩ | ⟨g, cap, cur, rfl, _, hg, hnc, _, _, _⟩
      · simp [Builtin.append_, run_underlying ht, sizeOf, typeInfo, hi, Builtin.lenOf, Builtin.firstCells]
      · simp [Builtin.append_, run_underlying ht, sizeOf, typeInfo, hi, Builtin.lenOf, Builtin.firstCells, hnc, storeCells]
    refine ⟨v, w, hrun, by simpa using hown, ⟨rfl, rfl, rfl, Nat.le_refl _, fun _ _ _ => rfl⟩, by simp, .inl rfl⟩
  · rcases hnews with h | ⟨b, o, h, hc⟩
    · subst h
      exact main a (by simp)
    · injection h with h
      subst h
      refine main _ fun j u hu => ?_
      have := hc j u hu
      unfold Addr.add
      split
      · rename_i h0; subst h0; simpa using this
      · exact this

theorem own_cap {w : World} {base e size : Nat} {A : Option Addr} {n cap : Nat} {xs : List Value} {n' : Nat} (h : w.ownsRow base e size (.slice A n' cap) n xs) : n ≤ cap ∧ cap ≤ maxLen := by
  rcases h.2 with ⟨h1, rfl⟩ | ⟨g, c, cur, h1, _, _, h2, h3, _⟩
  · injection h1 with _ _ h1
    subst h1
    simp [maxLen]
  · injection h1 with _ _ h1
    subst h1
    exact ⟨h2, h3⟩

theorem blw_drewN {B : Nat} {a w : World} (h : Below B a w) (n : Nat) : Below B a (w.drewN n) := ⟨h.os, h.tape, h.output, h.size, h.block⟩

theorem SlB.below {w w' : World} {v : Value} {l : List UInt8} (h : SlB w v l) (hb : Below w.heap.size w w') : SlB w' v l := by
  obtain ⟨A, cap, rfl, h1, h2, h3⟩ := h
  refine ⟨A, cap, rfl, h1, h2, ?_⟩
  rcases h3 with h | ⟨b, o', rfl, h⟩
  · exact .inl h
  · exact .inr ⟨b, o', rfl, fun j u hu => (hb.cell (World.block_lt_of_cell? w _ (h j u hu))).trans (h j u hu)⟩

theorem Rd.new (w : World) (cs : Array Value) (t : TypeId) (xs : List Value) (h : cs.toList = xs) : Rd (w.alloc (.cells cs t)) (some ⟨w.heap.size, 0, none⟩) xs := by
  subst h
  refine .inr ⟨_, _, rfl, fun j u hu => ?_⟩
  rw [cell_of_row (w.alloc (.cells cs t)) w.heap.size (0 + j) cs t (0, 0) (heap_alloc_new w _)]
  simpa using hu

theorem rd_at {w : World} {A : Option Addr} {xs : List Value} (h : Rd w A xs) (hn : 0 < xs.length ∨ xs ≠ []) : ∃ b o, A = some ⟨b, o, none⟩ ∧ ∀ j u, xs[j]? = some u → w.cell? ⟨b, o + j, none⟩ = some u := by
  rcases h with rfl | h
  · simp at hn
  · exact h

/-- A slice type with its element type: how many cells and how many bytes an element has. -/
def Elem (P : Program) (t e size bytes : Nat) : Prop :=
  P.underlying t = some (.slice e) ∧ ∃ i z, P.info? e = some i ∧ i.zero = some z ∧ i.size = size ∧ i.bytes = bytes ∧ z.cells.size = size ∧ 0 < size

theorem el24 : Elem Try.prog 24 5 1 1 := by
  obtain ⟨i, hi, hz0, hz1, hz2⟩ := info_parts info5
  exact ⟨Try.underlying24, i, _, hi, hz0, hz1, hz2, rfl, by omega⟩

theorem wp_append_el {P : Program} {w : World} {o : Oper} {a : Act} {K : Act → World → Prop} {Q : Exit → Act → World → Prop} {t e size bytes : Nat} (hel : Elem P t e size bytes) (s x : Operand)
    (ho : o.op = .call { callee := .builtin .append, args := #[s, x], argTypes := #[t, t] })
    (base : Nat) (v : Value) (n : Nat) (xs : List Value) (hs : a.eval s = v) (hown : w.ownsRow base e size v n xs)
    (A : Option Addr) (m c : Nat) (news : List Value) (hx : a.eval x = .slice A m c) (hl : news.length = m * size) (hnews : Rd w A news) (h1 : ∀ u ∈ news, u.oneCell' = true)
    (hbytes : (n + m) * bytes ≤ 140737488355328) (h63 : n + m ≤ 140737488355328) (hbase : base ≤ w.heap.size)
    (h : ∀ v' w', w'.ownsRow base e size v' (n + m) (xs ++ news) → w.grownBy w' v.ownBlock → (v' = .slice none 0 0 ↔ v = .slice none 0 0 ∧ m = 0) → (v'.ownBlock = v.ownBlock ∨ v'.ownBlock = some w.heap.size) → K (a.put o.dst v') w') : o.wp P a w K Q := by
  obtain ⟨ht, i, z, hi, hz, hsize, hby, hzs, hsz⟩ := hel
  obtain ⟨v', w', hr, h2, h3, h4, h5⟩ := run_append_rd (P := P) w base t o.type e i z size bytes ht hi hz hsize hby hzs hsz v n xs hown A m c news hl hnews h1 (by simp only [maxLen]; omega) hbytes hbase
  unfold Oper.wp execOp
  simp only [ho, resolve, invoke, builtin, Sem.run_bind, Sem.run_pure, Result.andThen_ok, List.map_toArray, List.map_cons, List.map_nil, hs, hx, hr]
  exact h v' w' h2 h3 h4 h5

theorem wpList_append_el {P : Program} {w : World} {ops : Array Oper} {rest : List Oper} {o : Oper} {a : Act} {Q : Exit → Act → World → Prop} {t e size bytes : Nat} (hel : Elem P t e size bytes) (hgd : o.guard = none) (s x : Operand)
    (ho : o.op = .call { callee := .builtin .append, args := #[s, x], argTypes := #[t, t] })
    (base : Nat) (v : Value) (n : Nat) (xs : List Value) (hs : a.eval s = v) (hown : w.ownsRow base e size v n xs)
    (A : Option Addr) (m c : Nat) (news : List Value) (hx : a.eval x = .slice A m c) (hl : news.length = m * size) (hnews : Rd w A news) (h1 : ∀ u ∈ news, u.oneCell' = true)
    (hbytes : (n + m) * bytes ≤ 140737488355328) (h63 : n + m ≤ 140737488355328) (hbase : base ≤ w.heap.size)
    (h : ∀ v' w', w'.ownsRow base e size v' (n + m) (xs ++ news) → w.grownBy w' v.ownBlock → (v' = .slice none 0 0 ↔ v = .slice none 0 0 ∧ m = 0) → (v'.ownBlock = v.ownBlock ∨ v'.ownBlock = some w.heap.size) → wpList P ops Q rest (a.put o.dst v') w') : wpList P ops Q (o :: rest) a w :=
  wpList_plain hgd fun _ hK => wp_append_el hel s x ho base v n xs hs hown A m c news hx hl hnews h1 hbytes h63 hbase fun v' w' h2 h3 h4 h5 => hK _ _ (h v' w' h2 h3 h4 h5)

end Go.Proofs.Ytlbhadggfipckaa

set_option linter.unusedVariables false
set_option linter.unusedSimpArgs false
namespace Go.Proofs.Ytlbhadggfipckaa
open Go.RowKit

theorem try_catch_idle (p : Addr) (w : World) :
    CallsD Try.prog 53 #[.pointer (some p)] .returning w fun e u' w' => e = .returned (.tuple #[]) ∧ u' = .returning ∧ w = w' := by
  refine callsD_of_wpS Try.func53 rfl fun c₀ cs hu => ?_
  apply wpS_seq
  apply wpS_region
  simp [wpOpsS, go_sem, recoverD, hu, Try.ntmps53, Exit.thenS]
  refine wpS_cond (t := false) (by simp [Act.eval, Array.replicate]) ?_
  simp only [Bool.false_eq_true, if_false]
  refine wpS_of_wp (wp_skip ?_)
  cases c₀
  simp_all [bodyPostS, results, Try.results53]

def TryPost (w : World) (R : Bool → World → Prop) (e : Ending) (w' : World) : Prop :=
  ∃ b w1, e = .returned (.bool b) ∧ R b w1 ∧ w' = w1.setCell ⟨w.heap.size, 0, none⟩ (.bool b)

def TryPre (w : World) (R : Bool → World → Prop) (e : Ending) (w' : World) : Prop :=
  ∃ b, e = .returned (.bool b) ∧ w'.cell? ⟨w.heap.size, 0, none⟩ = some (.bool false) ∧ w'.frozen? ⟨w.heap.size, 0, none⟩ = false ∧ R b w'

theorem try_ok {g : FuncId} {cap : Array Value} {w : World} {R : Bool → World → Prop}
    (hcf : ∀ w, (callFunc g cap).run Try.prog w = .ok (.enter g cap) w)
    (h : Calls Try.prog g cap (w.alloc (.cells #[.bool false] 4)) (TryPre w R)) :
    Calls Try.prog 25 #[.func (.func g) #[] cap] w (TryPost w R) := by
  have hmf : ∀ (fn : Fn) (first cap : Array Value) (w : World), (Instr.makeFunc fn first cap).run Try.prog w = .ok (.func fn first cap) w := fun _ _ _ _ => rfl
  have H := Lib.hid h
  clear h
  go_enter_defers Try.func25, Try.ntmps25
  go_wp2_with fail
  refine H.out.mono ?_
  rintro e w' ⟨b, rfl, hc, hf, hR⟩
  go_wp2_with fail
  refine leaves_cons (f := 53) (args := #[.pointer (some ⟨w.heap.size, 0, none⟩)]) (by simp) (by simp [go_sem]) ?_
  refine (try_catch_idle ⟨w.heap.size, 0, none⟩ _).mono ?_
  rintro e u' w'' ⟨rfl, rfl, rfl⟩
  have hcell : (w'.setCell ⟨w.heap.size, 0, none⟩ (.bool b)).cell? ⟨w.heap.size, 0, none⟩ = some (.bool b) := World.cell?_setCell_same _ _ _ hc
  simp [Leaves, settle, results, Try.results25, go_sem, hcell]
  exact ⟨b, w', rfl, hR, rfl⟩
end Go.Proofs.Ytlbhadggfipckaa

set_option linter.unusedVariables false
set_option linter.unusedSimpArgs false
namespace Go.Proofs.Ytlbhadggfipckaa
open Go.RowKit

theorem ownsRow_lit0 (w : World) (e : TypeId) (size : Nat) : (w.alloc (.cells #[] e)).ownsRow w.heap.size e size (.slice (some ⟨w.heap.size, 0, none⟩) 0 0) 0 [] :=
  World.ownsRow_made w #[] 0 (Nat.le_refl _) (by simp [maxLen]) (by simp)

def ClonePost (w : World) (l : List UInt8) (e : Ending) (w' : World) : Prop :=
  ∃ v, e = .returned v ∧ w'.ownsRow w.heap.size 5 1 v l.length (l.map bv) ∧ Below w.heap.size w w'

theorem clone_any (w : World) (v : Value) (l : List UInt8) (h : SlB w v l) (hl : l.length ≤ 140737488355328) :
    Calls Try.prog 27 #[v] w (ClonePost w l) := by
  obtain ⟨A, cap, rfl, hcap, hm, hr⟩ := h
  have hin := fun (w : World) (a : Option Addr) (n c : Nat) => Lib.run_eql_slice_nil (P := Try.prog) w 24 5 a n c 0 0 Try.underlying24
  have hr' : Rd (w.alloc (.cells #[] 5)) A (l.map bv) := hr.alloc
  go_enter Try.func27, Try.ntmps27
  go_wp2_with (at_builtin; go_must (refine wpList_append_el el24 rfl (.tmp 5) (.tmp 6) rfl w.heap.size (.slice (some ⟨w.heap.size, 0, none⟩) 0 0) 0 [] rfl (ownsRow_lit0 w 5 1) A l.length cap (l.map bv) rfl (by simp) hr' (bv_one l) (by omega) (by omega) (by simp) ?_); intro v' w1 hown hgrow hnil hat)
  · go_ret
    have hA : A.isNone = true := by assumption
    obtain rfl : A = none := by simpa using hA
    obtain rfl : l = [] := hr.nil
    exact ⟨_, rfl, World.ownsRow_nil _ _ _ _, Below.refl _ _⟩
  · go_ret
    exact ⟨v', rfl, by simpa using hown, ((Below.refl _ _).alloc (Nat.le_refl _) _).grown hgrow (by simp) (by simp [Value.ownBlock])⟩
end Go.Proofs.Ytlbhadggfipckaa

set_option linter.unusedVariables false
set_option linter.unusedSimpArgs false
namespace Go.Proofs.Ytlbhadggfipckaa
open Go.RowKit

def be32 (a b c d : UInt8) : Nat := a.toNat * 16777216 + b.toNat * 65536 + c.toNat * 256 + d.toNat

theorem be32_lt (a b c d : UInt8) : be32 a b c d < 4294967296 := by
  have h0 := a.toNat_lt
  have h1 := b.toNat_lt
  have h2 := c.toNat_lt
  have h3 := d.toNat_lt
  unfold be32
  omega

theorem be32_bits (x0 x1 x2 x3 : UInt8) : bits .or .u32 (bits .or .u32 (bits .or .u32 ((x3.toNat : Nat) : Int) ((x2.toNat : Nat) * 256)) ((x1.toNat : Nat) * 65536)) ((x0.toNat : Nat) * 16777216) = ((be32 x0 x1 x2 x3 : Nat) : Int) := by
  have b0 := x0.toNat_lt
  have b1 := x1.toNat_lt
  have b2 := x2.toNat_lt
  have b3 := x3.toNat_lt
  unfold be32
  generalize x0.toNat = y0 at *
  generalize x1.toNat = y1 at *
  generalize x2.toNat = y2 at *
  generalize x3.toNat = y3 at *
  have e1 : bits .or .u32 (y3 : Int) ((y2 : Int) * 256) = ((y2 * 256 + y3 : Nat) : Int) := by
    have := u32_or_nat y3 (y2 * 256) (by omega) (by omega)
    rw [Nat.or_comm, nat_join 8 (y2 * 256) y3 (by omega) (by omega)] at this
    simpa using this
  have e2 : bits .or .u32 ((y2 * 256 + y3 : Nat) : Int) ((y1 : Int) * 65536) = ((y1 * 65536 + (y2 * 256 + y3) : Nat) : Int) := by
    have := u32_or_nat (y2 * 256 + y3) (y1 * 65536) (by omega) (by omega)
    rw [Nat.or_comm, nat_join 16 (y1 * 65536) (y2 * 256 + y3) (by omega) (by omega)] at this
    simpa using this
  have e3 : bits .or .u32 ((y1 * 65536 + (y2 * 256 + y3) : Nat) : Int) ((y0 : Int) * 16777216) = ((y0 * 16777216 + (y1 * 65536 + (y2 * 256 + y3)) : Nat) : Int) := by
    have := u32_or_nat (y1 * 65536 + (y2 * 256 + y3)) (y0 * 16777216) (by omega) (by omega)
    rw [Nat.or_comm, nat_join 24 (y0 * 16777216) (y1 * 65536 + (y2 * 256 + y3)) (by omega) (by omega)] at this
    simpa using this
  rw [e1, e2, e3]
  omega

theorem be64_bits (a b : Nat) (ha : a < 4294967296) (hb : b < 4294967296) : bits .or .u64 ((a : Int) * 4294967296) (b : Int) = ((a * 4294967296 + b : Nat) : Int) := by
  have := u64_or_nat (a * 4294967296) b (by omega) (by omega)
  rw [nat_join 32 (a * 4294967296) b (by omega) (by omega)] at this
  simpa using this

theorem beU32 (w : World) (b o n cap : Nat) (x0 x1 x2 x3 : UInt8) (hn : 4 ≤ n) (hcap : n ≤ cap) (hm : cap ≤ 9223372036854775807)
    (h0 : w.cell? ⟨b, o, none⟩ = some (bv x0)) (h1 : w.cell? ⟨b, o + 1, none⟩ = some (bv x1)) (h2 : w.cell? ⟨b, o + 2, none⟩ = some (bv x2)) (h3 : w.cell? ⟨b, o + 3, none⟩ = some (bv x3)) :
    Calls Try.prog 55 #[.slice (some ⟨b, o, none⟩) n cap] w fun e w' => e = .returned (.int .u32 (be32 x0 x1 x2 x3)) ∧ ∃ k, w' = w.drewN k := by
  have b0 := x0.toNat_lt
  have b1 := x1.toNat_lt
  have b2 := x2.toNat_lt
  have b3 := x3.toNat_lt
  go_enter Try.func55, Try.ntmps55
  go_wp2_with fail
  go_quiet (fail)
  go_wp2_with fail
  go_ret
  exact ⟨by rw [← be32_bits x0 x1 x2 x3]; rfl, _, rfl⟩

theorem beU64 (w : World) (b o n cap : Nat) (x0 x1 x2 x3 x4 x5 x6 x7 : UInt8) (hn : 8 ≤ n) (hcap : n ≤ cap) (hm : cap ≤ 9223372036854775807)
    (h0 : w.cell? ⟨b, o, none⟩ = some (bv x0)) (h1 : w.cell? ⟨b, o + 1, none⟩ = some (bv x1)) (h2 : w.cell? ⟨b, o + 2, none⟩ = some (bv x2)) (h3 : w.cell? ⟨b, o + 3, none⟩ = some (bv x3))
    (h4 : w.cell? ⟨b, o + 4, none⟩ = some (bv x4)) (h5 : w.cell? ⟨b, o + 5, none⟩ = some (bv x5)) (h6 : w.cell? ⟨b, o + 6, none⟩ = some (bv x6)) (h7 : w.cell? ⟨b, o + 7, none⟩ = some (bv x7)) :
    Calls Try.prog 56 #[.slice (some ⟨b, o, none⟩) n cap] w fun e w' => e = .returned (.int .u64 ((be32 x0 x1 x2 x3 * 4294967296 + be32 x4 x5 x6 x7 : Nat) : Int)) ∧ ∃ k, w' = w.drewN k := by
  have l0 := be32_lt x0 x1 x2 x3
  have l1 := be32_lt x4 x5 x6 x7
  have hn1 : (4 : Int) ≤ (n : Int) := by omega
  have hn2 : (n : Int) ≤ (cap : Int) := by omega
  have hc4 : ¬ cap = 4 := by omega
  have q0 : IntKind.u64.wrap ((be32 x0 x1 x2 x3 : Nat) : Int) = ((be32 x0 x1 x2 x3 : Nat) : Int) := by simp only [IntKind.wrap, IntKind.bits, IntKind.signed]; simp; omega
  have q1 : IntKind.u64.wrap ((be32 x4 x5 x6 x7 : Nat) : Int) = ((be32 x4 x5 x6 x7 : Nat) : Int) := by simp only [IntKind.wrap, IntKind.bits, IntKind.signed]; simp; omega
  have q2 : IntKind.u64.wrap (((be32 x0 x1 x2 x3 : Nat) : Int) * 4294967296) = ((be32 x0 x1 x2 x3 : Nat) : Int) * 4294967296 := by simp only [IntKind.wrap, IntKind.bits, IntKind.signed]; simp; omega
  go_enter Try.func56, Try.ntmps56
  go_wp2_with fail
  go_quiet ((first
    | (go_at_call 55; (with_reducible (refine Calls.quiet_of (beU32 _ b o n cap x0 x1 x2 x3 ?_ ?_ ?_ ?_ ?_ ?_ ?_))) <;> first | omega | (simp only [*]; done) | (simp [*]; done))
    | (go_at_call 55; (with_reducible (refine Calls.quiet_of (beU32 _ b (o + 4) (n - 4) (cap - 4) x4 x5 x6 x7 ?_ ?_ ?_ ?_ ?_ ?_ ?_))) <;> first | omega | (simp only [*]; done) | (simp [*]; done))))
  go_wp2_with fail
  go_ret
  exact ⟨by rw [← be64_bits _ _ l0 l1]; rfl, _, rfl⟩
end Go.Proofs.Ytlbhadggfipckaa

set_option linter.unusedVariables false
set_option linter.unusedSimpArgs false
namespace Go.Proofs.Ytlbhadggfipckaa
open Go.RowKit

theorem asU32 (w : World) (p b o cap : Nat) (x0 x1 x2 x3 : UInt8) (hcap : 4 ≤ cap) (hm : cap ≤ 9223372036854775807) (hv : w.cell? ⟨p, 1, none⟩ = some (.slice (some ⟨b, o, none⟩) 4 cap))
    (h0 : w.cell? ⟨b, o, none⟩ = some (bv x0)) (h1 : w.cell? ⟨b, o + 1, none⟩ = some (bv x1)) (h2 : w.cell? ⟨b, o + 2, none⟩ = some (bv x2)) (h3 : w.cell? ⟨b, o + 3, none⟩ = some (bv x3)) :
    Calls Try.prog 28 #[.pointer (some ⟨p, 0, none⟩)] w fun e w' => e = .returned (.tuple #[.int .u32 (be32 x0 x1 x2 x3), .nilIface]) ∧ ∃ k, w' = w.drewN k := by
  go_enter Try.func28, Try.ntmps28
  go_wp2_with (go_at_call 55; refine (beU32 _ b o 4 cap x0 x1 x2 x3 (by omega) hcap hm (by simp [*]) (by simp [*]) (by simp [*]) (by simp [*])).mono ?_; rintro e w' ⟨rfl, k, rfl⟩)
  go_ret2
  exact ⟨rfl, _, rfl⟩

theorem asU64 (w : World) (p b o cap : Nat) (x0 x1 x2 x3 x4 x5 x6 x7 : UInt8) (hcap : 8 ≤ cap) (hm : cap ≤ 9223372036854775807) (hv : w.cell? ⟨p, 1, none⟩ = some (.slice (some ⟨b, o, none⟩) 8 cap))
    (h0 : w.cell? ⟨b, o, none⟩ = some (bv x0)) (h1 : w.cell? ⟨b, o + 1, none⟩ = some (bv x1)) (h2 : w.cell? ⟨b, o + 2, none⟩ = some (bv x2)) (h3 : w.cell? ⟨b, o + 3, none⟩ = some (bv x3))
    (h4 : w.cell? ⟨b, o + 4, none⟩ = some (bv x4)) (h5 : w.cell? ⟨b, o + 5, none⟩ = some (bv x5)) (h6 : w.cell? ⟨b, o + 6, none⟩ = some (bv x6)) (h7 : w.cell? ⟨b, o + 7, none⟩ = some (bv x7)) :
    Calls Try.prog 30 #[.pointer (some ⟨p, 0, none⟩)] w fun e w' => e = .returned (.tuple #[.int .u64 ((be32 x0 x1 x2 x3 * 4294967296 + be32 x4 x5 x6 x7 : Nat) : Int), .nilIface]) ∧ ∃ k, w' = w.drewN k := by
  go_enter Try.func30, Try.ntmps30
  go_wp2_with (go_at_call 56; refine (beU64 _ b o 8 cap x0 x1 x2 x3 x4 x5 x6 x7 (by omega) hcap hm (by simp [*]) (by simp [*]) (by simp [*]) (by simp [*]) (by simp [*]) (by simp [*]) (by simp [*]) (by simp [*])).mono ?_; rintro e w' ⟨rfl, k, rfl⟩)
  go_ret2
  exact ⟨rfl, _, rfl⟩

/-- The closure in impl.U32: it reads v at block p0, writes n at block p1. -/
def ClosPost (w : World) (p1 : Nat) (x : Value) (e : Ending) (w' : World) : Prop :=
  ∃ w1, e = .returned (.bool true) ∧ Below w.heap.size w w1 ∧ w' = w1.setCell ⟨p1, 0, none⟩ x

theorem closU32 (w : World) (p0 p1 : Nat) (v : Value) (x0 x1 x2 x3 : UInt8) (hv : w.cell? ⟨p0, 0, none⟩ = some v) (y : Value) (hn : w.cell? ⟨p1, 0, none⟩ = some y) (hf : w.frozen? ⟨p1, 0, none⟩ = false)
    (hs : SlB w v [x0, x1, x2, x3]) :
    Calls Try.prog 26 #[.pointer (some ⟨p0, 0, none⟩), .pointer (some ⟨p1, 0, none⟩)] w (ClosPost w p1 (.int .u32 (be32 x0 x1 x2 x3))) := by
  have hb : p1 < w.heap.size := World.block_lt_of_cell? w _ hn
  go_enter Try.func26, Try.ntmps26
  go_wp2_with fail
  refine (clone_any w v _ hs (by simp)).mono ?_
  rintro e w1 ⟨v', rfl, hown, hbl⟩
  obtain ⟨g, cap, rfl, hg, hlt⟩ := hown.form (by simp)
  have c0 : w1.cell? ⟨g, 0, none⟩ = some (bv x0) := by simpa using hown.cellAt 0 (by simp)
  have c1 : w1.cell? ⟨g, 1, none⟩ = some (bv x1) := by simpa using hown.cellAt 1 (by simp)
  have c2 : w1.cell? ⟨g, 2, none⟩ = some (bv x2) := by simpa using hown.cellAt 2 (by simp)
  have c3 : w1.cell? ⟨g, 3, none⟩ = some (bv x3) := by simpa using hown.cellAt 3 (by simp)
  have hcap := own_cap hown
  have cn : w1.cell? ⟨p1, 0, none⟩ = some y := (hbl.cell (p := ⟨p1, 0, none⟩) hb).trans hn
  have fn : w1.frozen? ⟨p1, 0, none⟩ = false := (hbl.frozen (p := ⟨p1, 0, none⟩) hb).trans hf
  have hb1 : p1 < w1.heap.size := Nat.lt_of_lt_of_le hb hbl.size
  go_wp2_with fail
  refine (asU32 _ w1.heap.size g 0 cap x0 x1 x2 x3 hcap.1 (by have := hcap.2; simp only [maxLen] at this; omega) ?_ ?_ ?_ ?_ ?_).mono ?_
  iterate 5 (simp [World.cell?_alloc_lt, *])
  rintro e w2 ⟨rfl, k, rfl⟩
  go_wp2_with fail
  go_ret
  exact ⟨_, rfl, (blw_drewN (hbl.alloc hbl.size _) k), rfl⟩

theorem closU64 (w : World) (p0 p1 : Nat) (v : Value) (x0 x1 x2 x3 x4 x5 x6 x7 : UInt8) (hv : w.cell? ⟨p0, 0, none⟩ = some v) (y : Value) (hn : w.cell? ⟨p1, 0, none⟩ = some y) (hf : w.frozen? ⟨p1, 0, none⟩ = false)
    (hs : SlB w v [x0, x1, x2, x3, x4, x5, x6, x7]) :
    Calls Try.prog 29 #[.pointer (some ⟨p0, 0, none⟩), .pointer (some ⟨p1, 0, none⟩)] w (ClosPost w p1 (.int .u64 ((be32 x0 x1 x2 x3 * 4294967296 + be32 x4 x5 x6 x7 : Nat) : Int))) := by
  have hb : p1 < w.heap.size := World.block_lt_of_cell? w _ hn
  go_enter Try.func29, Try.ntmps29
  go_wp2_with fail
  refine (clone_any w v _ hs (by simp)).mono ?_
  rintro e w1 ⟨v', rfl, hown, hbl⟩
  obtain ⟨g, cap, rfl, hg, hlt⟩ := hown.form (by simp)
  have c0 : w1.cell? ⟨g, 0, none⟩ = some (bv x0) := by simpa using hown.cellAt 0 (by simp)
  have c1 : w1.cell? ⟨g, 1, none⟩ = some (bv x1) := by simpa using hown.cellAt 1 (by simp)
  have c2 : w1.cell? ⟨g, 2, none⟩ = some (bv x2) := by simpa using hown.cellAt 2 (by simp)
  have c3 : w1.cell? ⟨g, 3, none⟩ = some (bv x3) := by simpa using hown.cellAt 3 (by simp)
  have c4 : w1.cell? ⟨g, 4, none⟩ = some (bv x4) := by simpa using hown.cellAt 4 (by simp)
  have c5 : w1.cell? ⟨g, 5, none⟩ = some (bv x5) := by simpa using hown.cellAt 5 (by simp)
  have c6 : w1.cell? ⟨g, 6, none⟩ = some (bv x6) := by simpa using hown.cellAt 6 (by simp)
  have c7 : w1.cell? ⟨g, 7, none⟩ = some (bv x7) := by simpa using hown.cellAt 7 (by simp)
  have hcap := own_cap hown
  have cn : w1.cell? ⟨p1, 0, none⟩ = some y := (hbl.cell (p := ⟨p1, 0, none⟩) hb).trans hn
  have fn : w1.frozen? ⟨p1, 0, none⟩ = false := (hbl.frozen (p := ⟨p1, 0, none⟩) hb).trans hf
  have hb1 : p1 < w1.heap.size := Nat.lt_of_lt_of_le hb hbl.size
  go_wp2_with fail
  refine (asU64 _ w1.heap.size g 0 cap x0 x1 x2 x3 x4 x5 x6 x7 hcap.1 (by have := hcap.2; simp only [maxLen] at this; omega) ?_ ?_ ?_ ?_ ?_ ?_ ?_ ?_ ?_).mono ?_
  iterate 9 (simp [World.cell?_alloc_lt, *])
  rintro e w2 ⟨rfl, k, rfl⟩
  go_wp2_with fail
  go_ret
  exact ⟨_, rfl, (blw_drewN (hbl.alloc hbl.size _) k), rfl⟩

def NumPost (w : World) (x : Value) (e : Ending) (w' : World) : Prop := e = .returned (.tuple #[x, .bool true]) ∧ Below w.heap.size w w'

/-- What stands behind impl.try in U32, U64, Text: the variable at block p holds x. -/
def VarPost (B : Nat) (w0 : World) (p : Nat) (x : Value) (e : Ending) (w' : World) : Prop :=
  e = .returned (.bool true) ∧ Below B w0 w' ∧ w'.cell? ⟨p, 0, none⟩ = some x ∧ w'.frozen? ⟨p, 0, none⟩ = false

/-- impl.try over a closure that writes the variable at block p. -/
theorem try_var {g : FuncId} {cap : Array Value} {w : World} {p : Nat} {x y : Value} {B : Nat} (hB : B ≤ p) (hc : w.cell? ⟨p, 0, none⟩ = some y) (hf : w.frozen? ⟨p, 0, none⟩ = false)
    (hcf : ∀ w, (callFunc g cap).run Try.prog w = .ok (.enter g cap) w)
    (h : Calls Try.prog g cap (w.alloc (.cells #[.bool false] 4)) (ClosPost (w.alloc (.cells #[.bool false] 4)) p x)) :
    Calls Try.prog 25 #[.func (.func g) #[] cap] w (VarPost B w p x) := by
  have hp : p < w.heap.size := World.block_lt_of_cell? w _ hc
  refine (try_ok (R := fun b w1 => b = true ∧ ∃ w2, Below (w.heap.size + 1) (w.alloc (.cells #[.bool false] 4)) w2 ∧ w1 = w2.setCell ⟨p, 0, none⟩ x) hcf (h.mono ?_)).mono ?_
  · rintro e w' ⟨w1, rfl, hb, rfl⟩
    refine ⟨true, rfl, ?_, ?_, rfl, w1, by simpa using hb, rfl⟩
    · rw [World.cell?_setCell_other _ _ _ _ (by intro hh; injection hh; omega), hb.cell (by simp)]
      simp
    · rw [World.frozen?_setCell, hb.frozen (by simp)]
      simp
  · rintro e w' ⟨b, w1, rfl, ⟨rfl, w2, hb, rfl⟩, rfl⟩
    have hb0 : Below w.heap.size w w2 := ((Below.refl _ _).alloc (Nat.le_refl _) _).trans (hb.mono (by omega))
    have c1 : w2.cell? ⟨p, 0, none⟩ = some y := (hb0.cell (p := ⟨p, 0, none⟩) hp).trans hc
    refine ⟨rfl, (((hb0.mono (by omega)).setCell (by simpa using hB) _).setCell (by simp; omega) _), ?_, ?_⟩
    · rw [World.cell?_setCell_other _ _ _ _ (by intro hh; injection hh; omega)]
      exact World.cell?_setCell_same _ _ _ c1
    · rw [World.frozen?_setCell, World.frozen?_setCell]
      exact (hb0.frozen (p := ⟨p, 0, none⟩) hp).trans hf

theorem u32_any (w : World) (v : Value) (x0 x1 x2 x3 : UInt8) (hs : SlB w v [x0, x1, x2, x3]) :
    Calls Try.prog 10 #[v] w (NumPost w (.int .u32 (be32 x0 x1 x2 x3))) := by
  have hmf : ∀ (fn : Fn) (first cap : Array Value) (w : World), (Instr.makeFunc fn first cap).run Try.prog w = .ok (.func fn first cap) w := fun _ _ _ _ => rfl
  obtain ⟨A, cap, rfl, hs'⟩ := id hs
  go_enter Try.func10, Try.ntmps10
  go_wp2_with fail
  refine (try_var (B := w.heap.size) (p := w.heap.size + 1) (x := .int .u32 (be32 x0 x1 x2 x3)) (by omega) (y := .int .u32 0) (by simp [go_sem]) (by simp [go_sem]) (fun _ => by kernel_rfl) ?_).mono ?_
  · refine closU32 _ w.heap.size (w.heap.size + 1) (.slice A 4 cap) x0 x1 x2 x3 ?_ (.int .u32 0) ?_ ?_ (hs.below ?_)
    iterate 3 (simp [go_sem])
    exact ((((Below.refl w.heap.size w).alloc (Nat.le_refl _) _).alloc (by simp) _).alloc (by simp; omega) _)
  · rintro e w3 ⟨rfl, hb, hc, hf⟩
    have hb' : Below w.heap.size w w3 := (((Below.refl _ _).alloc (Nat.le_refl _) _).alloc (by simp) _).trans hb
    clear hb hmf
    go_wp2_with fail
    refine bodyPost_ret (v := .tuple #[.int .u32 (be32 x0 x1 x2 x3), .bool true]) (by simp [results, Try.results10, go_sem, World.cell?_setCell_same _ _ _ hc]) rfl ⟨rfl, hb'.setCell (by simp) _⟩

theorem u64_any (w : World) (v : Value) (x0 x1 x2 x3 x4 x5 x6 x7 : UInt8) (hs : SlB w v [x0, x1, x2, x3, x4, x5, x6, x7]) :
    Calls Try.prog 11 #[v] w (NumPost w (.int .u64 ((be32 x0 x1 x2 x3 * 4294967296 + be32 x4 x5 x6 x7 : Nat) : Int))) := by
  have hmf : ∀ (fn : Fn) (first cap : Array Value) (w : World), (Instr.makeFunc fn first cap).run Try.prog w = .ok (.func fn first cap) w := fun _ _ _ _ => rfl
  obtain ⟨A, cap, rfl, hs'⟩ := id hs
  go_enter Try.func11, Try.ntmps11
  go_wp2_with fail
  refine (try_var (B := w.heap.size) (p := w.heap.size + 1) (x := .int .u64 ((be32 x0 x1 x2 x3 * 4294967296 + be32 x4 x5 x6 x7 : Nat) : Int)) (by omega) (y := .int .u64 0) (by simp [go_sem]) (by simp [go_sem]) (fun _ => by kernel_rfl) ?_).mono ?_
  · refine closU64 _ w.heap.size (w.heap.size + 1) (.slice A 8 cap) x0 x1 x2 x3 x4 x5 x6 x7 ?_ (.int .u64 0) ?_ ?_ (hs.below ?_)
    iterate 3 (simp [go_sem])
    exact ((((Below.refl w.heap.size w).alloc (Nat.le_refl _) _).alloc (by simp) _).alloc (by simp; omega) _)
  · rintro e w3 ⟨rfl, hb, hc, hf⟩
    have hb' : Below w.heap.size w w3 := (((Below.refl _ _).alloc (Nat.le_refl _) _).alloc (by simp) _).trans hb
    clear hb hmf
    go_wp2_with fail
    refine bodyPost_ret (v := .tuple #[.int .u64 ((be32 x0 x1 x2 x3 * 4294967296 + be32 x4 x5 x6 x7 : Nat) : Int), .bool true]) (by simp [results, Try.results11, go_sem, World.cell?_setCell_same _ _ _ hc]) rfl ⟨rfl, hb'.setCell (by simp) _⟩
end Go.Proofs.Ytlbhadggfipckaa

set_option linter.unusedVariables false
set_option linter.unusedSimpArgs false
namespace Go.Proofs.Ytlbhadggfipckaa
open Go.RowKit

theorem works_true (w : World) : Calls Try.prog 12 #[] w fun e w' => e = .returned (.bool true) ∧ Below w.heap.size w w' := by
  go_enter Try.func12, Try.ntmps12
  go_wp2_with fail
  refine (u32_any _ (.slice (some ⟨w.heap.size, 0, none⟩) 4 4) 0 0 1 2 ?_).mono ?_
  · refine ⟨some ⟨w.heap.size, 0, none⟩, 4, rfl, by simp, by simp [maxLen], .inr ⟨_, _, rfl, fun j u hu => ?_⟩⟩
    match j, hu with
    | 0, hu => cases hu; simp [go_sem]
    | 1, hu => cases hu; simp [go_sem]
    | 2, hu => cases hu; simp [go_sem]
    | 3, hu => cases hu; simp [go_sem]
    | j + 4, hu => simp at hu
  · rintro e w1 ⟨rfl, hb⟩
    have hb' : Below w.heap.size w w1 := (((Below.refl w.heap.size w).alloc (Nat.le_refl _) _)).trans (hb.mono (by simp))
    clear hb
    rw [show be32 0 0 1 2 = 258 from rfl]
    go_wp2_with fail
    go_ret
    exact ⟨rfl, hb'⟩
end Go.Proofs.Ytlbhadggfipckaa

set_option linter.unusedVariables false
set_option linter.unusedSimpArgs false
namespace Go.Proofs.Ytlbhadggfipckaa
open Go.RowKit

/-- The first k of the c bytes of n, the highest first. -/
def digs (n : Int) (c k : Nat) : List Value := (List.range k).map fun j => Value.int .u8 (n / 2 ^ (8 * (c - 1 - j)) % 256)

theorem digs_succ (n : Int) (c k : Nat) : digs n c (k + 1) = digs n c k ++ [Value.int .u8 (n / 2 ^ (8 * (c - 1 - k)) % 256)] := by simp [digs, List.range_succ]
theorem digs_length (n : Int) (c k : Nat) : (digs n c k).length = k := by simp [digs]

def byteOf (n : Int) (s : Nat) : UInt8 := UInt8.ofNat (n / 2 ^ s % 256).toNat

theorem bv_byteOf (n : Int) (s : Nat) : bv (byteOf n s) = .int .u8 (n / 2 ^ s % 256) := by
  have h1 : 0 ≤ n / 2 ^ s % 256 := Int.emod_nonneg _ (by omega)
  have h2 : n / 2 ^ s % 256 < 256 := Int.emod_lt_of_pos _ (by omega)
  unfold bv byteOf
  congr 1
  rw [UInt8.toNat_ofNat']
  omega

theorem own_SlB {w : World} {base : Nat} {v : Value} {l : List UInt8} (h : w.ownsRow base 5 1 v l.length (l.map bv)) : SlB w v l := by
  rcases h.2 with ⟨rfl, h0⟩ | ⟨g, cap, cur, rfl, _, hg, h1, h2, _⟩
  · have : l = [] := List.eq_nil_of_length_eq_zero h0
    subst this
    exact ⟨none, 0, rfl, by simp, by simp [maxLen], .inl rfl⟩
  · refine ⟨_, cap, rfl, h1, h2, .inr ⟨g, 0, rfl, fun j u hu => ?_⟩⟩
    have := h.cellAt j (by have := (List.getElem?_eq_some_iff.1 hu).1; simp at this; omega)
    rw [Nat.zero_add, this, hu]

theorem num4 (n : Int) (h0 : 0 ≤ n) (h1 : n ≤ 4294967295) : ((be32 (byteOf n 24) (byteOf n 16) (byteOf n 8) (byteOf n 0) : Nat) : Int) = n := by
  have e : ∀ s : Nat, ((byteOf n s).toNat : Int) = n / 2 ^ s % 256 := fun s => by
    have := bv_byteOf n s
    injection this
  have e0 := e 24
  have e1 := e 16
  have e2 := e 8
  have e3 := e 0
  unfold be32
  simp only [Nat.reducePow, Int.reducePow] at e0 e1 e2 e3
  omega

theorem num8 (n : Int) (h0 : 0 ≤ n) (h1 : n ≤ 18446744073709551615) :
    ((be32 (byteOf n 56) (byteOf n 48) (byteOf n 40) (byteOf n 32) * 4294967296 + be32 (byteOf n 24) (byteOf n 16) (byteOf n 8) (byteOf n 0) : Nat) : Int) = n := by
  have e : ∀ s : Nat, ((byteOf n s).toNat : Int) = n / 2 ^ s % 256 := fun s => by
    have := bv_byteOf n s
    injection this
  have e0 := e 24
  have e1 := e 16
  have e2 := e 8
  have e3 := e 0
  have e4 := e 56
  have e5 := e 48
  have e6 := e 40
  have e7 := e 32
  unfold be32
  simp only [Nat.reducePow, Int.reducePow] at e0 e1 e2 e3 e4 e5 e6 e7
  omega

set_option maxHeartbeats 1000000 in
theorem values_walk (n m : Int) (w : World) (hn0 : 0 ≤ n) (hn1 : n ≤ 4294967295) (hm0 : 0 ≤ m) (hm1 : m ≤ 18446744073709551615) :
    Calls Try.prog 3 #[.int .u32 n, .int .u64 m] w fun e w' => e = .returned (.bool true) ∧ Below w.heap.size w w' := by
  go_enter Try.func3, Try.ntmps3
  go_wp2_with fail
  go_loopw [5, 7] (fun v i wr => ∃ k : Nat, k ≤ 4 ∧ i = .int .i64 (3 - (k : Int)) ∧ wr.ownsRow w.heap.size 5 1 v k (digs n 4 k) ∧ Below w.heap.size w wr) (fun _ i _ => (intOf i + 1).toNat)
  case atStart => exact ⟨0, by omega, by simp, World.ownsRow_nil _ _ _ _, Below.refl _ _⟩
  case round =>
    obtain ⟨k, hk, rfl, hown, hb⟩ := hrel
    by_cases h4 : k < 4
    · have hi : (0 : Int) ≤ 3 - (k : Int) := by omega
      have hi3 : (3 : Int) - (k : Int) ≤ 3 := by omega
      have hB := hb.size
      go_wp2_with (at_builtin; go_must (refine wpList_append_el el24 rfl (.tmp 17) (.tmp 23) rfl w.heap.size u5 k (digs n 4 k) rfl (hown.alloc _) (some ⟨wr.heap.size, 0, none⟩) 1 1 [.int .u8 (n / 2 ^ (8 * (3 - k)) % 256)] rfl (by simp) (Rd.new _ _ _ _ rfl) (by simp [Value.oneCell']) (by omega) (by omega) (by simp; omega) ?_); intro v' w1 hown1 hgrow _ hat)
      go_roundw
      case rel =>
        refine ⟨k + 1, by omega, by congr 1; omega, by rw [digs_succ]; exact hown1, ?_⟩
        exact (hb.alloc hB _).grown hgrow (by simp; omega) (fun g hg => (hown.lt g hg).1)
      case measure => simp [intOf]; omega
    · obtain rfl : k = 4 := by omega
      clear h4 hk
      have hs4 := own_SlB (l := [byteOf n 24, byteOf n 16, byteOf n 8, byteOf n 0]) (by simpa [digs, List.range_succ, bv_byteOf] using hown)
      clear hown
      obtain ⟨wo, rfl⟩ : ∃ wo : World, wo = wr := ⟨_, rfl⟩
      rw [show (3 : Int) - ((4 : Nat) : Int) = -1 from by omega]
      go_wp2_with fail
      go_loopw [6, 8] (fun v i wr => ∃ k : Nat, k ≤ 8 ∧ i = .int .i64 (7 - (k : Int)) ∧ wr.ownsRow wo.heap.size 5 1 v k (digs m 8 k) ∧ Below wo.heap.size wo wr) (fun _ i _ => (intOf i + 1).toNat)
      case atStart => exact ⟨0, by omega, by simp, World.ownsRow_nil _ _ _ _, Below.refl _ _⟩
      case round =>
        obtain ⟨k, hk, rfl, hown, hb2⟩ := hrel
        by_cases h4 : k < 8
        · have hi : (0 : Int) ≤ 7 - (k : Int) := by omega
          have hi3 : (7 : Int) - (k : Int) ≤ 7 := by omega
          have hB := hb2.size
          go_wp2_with (at_builtin; go_must (refine wpList_append_el el24 rfl (.tmp 29) (.tmp 35) rfl wo.heap.size u6 k (digs m 8 k) rfl (hown.alloc _) (some ⟨wr.heap.size, 0, none⟩) 1 1 [.int .u8 (m / 2 ^ (8 * (7 - k)) % 256)] rfl (by simp) (Rd.new _ _ _ _ rfl) (by simp [Value.oneCell']) (by omega) (by omega) (by simp; omega) ?_); intro v' w1 hown1 hgrow _ hat)
          go_roundw
          case rel =>
            refine ⟨k + 1, by omega, by congr 1; omega, by rw [digs_succ]; exact hown1, ?_⟩
            exact (hb2.alloc hB _).grown hgrow (by simp; omega) (fun g hg => (hown.lt g hg).1)
          case measure => simp [intOf]; omega
        · obtain rfl : k = 8 := by omega
          clear h4 hk
          have hs8 := own_SlB (l := [byteOf m 56, byteOf m 48, byteOf m 40, byteOf m 32, byteOf m 24, byteOf m 16, byteOf m 8, byteOf m 0]) (by simpa [digs, List.range_succ, bv_byteOf] using hown)
          clear hown
          have Hb : Below w.heap.size w wr := hb.trans (hb2.mono hb.size)
          rw [show (7 : Int) - ((8 : Nat) : Int) = -1 from by omega]
          go_wp2_with fail
          refine (u32_any wr _ _ _ _ _ (hs4.below hb2)).mono ?_
          rintro e w1 ⟨rfl, hb3⟩
          go_wp2_with fail
          refine (u64_any w1 _ _ _ _ _ _ _ _ _ (hs8.below hb3)).mono ?_
          rintro e w2 ⟨rfl, hb4⟩
          rw [num4 n hn0 hn1, num8 m hm0 hm1]
          have Hb2 : Below w.heap.size w w2 := Hb.trans ((hb3.mono Hb.size).trans (hb4.mono (Nat.le_trans Hb.size hb3.size)))
          go_wp2_with fail
          refine (works_true w2).mono ?_
          rintro e w3 ⟨rfl, hb5⟩
          go_wp2_with fail
          go_ret
          exact ⟨rfl, Hb2.trans (hb5.mono Hb2.size)⟩
end Go.Proofs.Ytlbhadggfipckaa

set_option linter.unusedVariables false
set_option linter.unusedSimpArgs false
namespace Go.Proofs.Ytlbhadggfipckaa
open Go.ChangeShapes Go.WideShapes Go.ChangeAt Go.RowKit

section
variable {H : Type} {enc : TypeId × Value → H} {P : Program}
/-- As 'post_of_same', of a world of which only 'Below' is known. -/
theorem post_below {f : Func} {s : ChangeSpec} {apart fresh handsOn again : Bool} {W W' : World} {args : Array Value} {v : Value} {ds gs : List (DataW H)} {before pa pv : List MemPlace}
    (hW : DataW.Whole enc P f.params.toList s.vars apart W args.toList ds gs before)
    (hres : ∀ (b : Nat) (sp : Nat → Bool) (hd : Bool), DataW.TrodAll enc P W' b sp hd f.resultTypes.toList (v.resultList f.resultTypes.size) (s.fn H (ds ++ gs)).results [])
    (hargs : ∀ sp : Nat → Bool, (∀ p ∈ before, sp p.block = true) → DataW.TrodAll enc P W' 0 sp true f.params.toList args.toList (s.fn H (ds ++ gs)).args pa)
    (hvars : ∀ sp : Nat → Bool, (∀ p ∈ before, sp p.block = true) → DataW.TrodVars enc P W' sp s.vars (s.fn H (ds ++ gs)).vars pv)
    (hps : before = pa ++ pv) (hb : Below W.heap.size W W')
    (hok : ∀ (j : Nat) (t : TypeId) (r : Value), f.resultTypes[j]? = some t → (v.resultList f.resultTypes.size)[j]? = some r → Value.okWide P W' .any 0 t r) :
    s.post enc P f apart fresh handsOn again W args v W' := by
  have old : ∀ p ∈ before, p.block < W.heap.size := fun p hp => hW.lt p hp
  have spare : ∀ p ∈ before, (fun b => decide (b < W.heap.size)) p.block = true := fun p hp => decide_eq_true (old p hp)
  refine ⟨ds, gs, before, [], pa, pv, hW, hres _ _ _, hargs _ spare, hvars _ spare, World.keptBut_mono (fun p hp => ⟨hp, ?_⟩) (hb.frame (· ∈ before)), fun _ => ?_⟩
  · rw [hps, List.mem_append] at hp
    exact .inr hp
  · obtain ⟨_, _, _, _, _, hz, hn⟩ := hW
    refine ⟨hok, _, _, ([] ++ pa) ++ pv, ⟨[] ++ pa, pv, trodAll_append (hargs _ (fun _ _ => rfl)) (hres _ _ _), hvars _ (fun _ _ => rfl), rfl, fun b off hp => ?_, fun ha => ?_⟩, fun p hp _ => ?_⟩
    · have hin : MemPlace.cell b off ∈ before := by rw [hps]; simpa using hp
      exact (hb.frozen (p := ⟨b, off, none⟩) (old _ hin)).trans (hz b off hin)
    · have := hn ha
      rw [hps] at this
      simpa using this
    · rw [hps]
      simpa using hp
end
end Go.Proofs.Ytlbhadggfipckaa
