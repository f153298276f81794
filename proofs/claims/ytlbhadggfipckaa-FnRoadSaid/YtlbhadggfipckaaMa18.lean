/-
  spec's writer: the place of a name.
  A drawn region as a plan of steps, where two operations that turn memory may come in either order.
-/
import Derived.Test.YtlbhadggfipckaaMa17
import Derived.Lib.AppendStr
import Derived.Test.YtlbhadggfipckaaMa02
set_option linter.unusedVariables false
set_option linter.unusedSimpArgs false
namespace Go.Proofs.Ytlbhadggfipckaa
open Go.RowKit

theorem run_append_str (w : World) (base : Nat) (ty : TypeId) (v : Value) (n : Nat) (xs : List Value) (hown : w.ownsRow base 5 1 v n xs) (s : ByteArray) (hl : n + s.size ≤ 100000000) (hb : base ≤ w.heap.size) :
    ∃ v' w', (Builtin.append_ #[24, 9] ty #[v, .string s]).run Try.prog w = .ok v' w' ∧ w'.ownsRow base 5 1 v' (n + s.size) (xs ++ (bytesOf s).map bv) ∧ w.grownBy w' v.ownBlock ∧ (v'.ownBlock = v.ownBlock ∨ v'.ownBlock = some w.heap.size) := by
  obtain ⟨i, hi, hz0, hz1, hz2⟩ := info_parts info5
  obtain ⟨v', w', hr, h2, h3, h4⟩ := Lib.run_append_own_string (P := Try.prog) w base 24 9 ty 5 i Try.underlying24 Try.underlying9 hi hz0 hz1 hz2 v n xs hown s (by simp only [maxLen]; omega) (by omega) hb
  refine ⟨v', w', hr, h2, h3, ?_⟩
  rcases hown.2 with ⟨rfl, rfl⟩ | ⟨g, cap, cur, rfl, hbg, hg, hnc, hcm, hcs, htake⟩
  · by_cases h0 : s.size = 0
    · exact .inl (by rw [h4.2 ⟨rfl, h0⟩])
    · have h5 := run_append_nil_string (P := Try.prog) w 24 9 ty 5 i _ Try.underlying24 Try.underlying9 hi hz0 s (by omega) (by omega) (by rw [hz2]; omega)
      rw [hr] at h5
      injection h5 with h5
      exact .inr (by rw [h5]; rfl)
  · by_cases hroom : n + s.size ≤ cap
    · have h5 := Lib.run_append_room_string (P := Try.prog) w 24 9 ty 5 i Try.underlying24 Try.underlying9 hi hz1 g n cap cur hg s hroom (by omega)
      rw [hr] at h5
      injection h5 with h5
      exact .inl (by rw [h5]; rfl)
    · have hxl : xs.length = n := by simpa using hown.1
      have h5 := Lib.run_append_grow_string (P := Try.prog) w 24 9 ty 5 i _ Try.underlying24 Try.underlying9 hi hz0 ⟨g, 0, none⟩ n cap xs (by rw [hz1]; omega) (hown.cells (g := g) rfl) s (by omega) (by omega) (by rw [hz2]; exact growslice_fits (by omega) (by omega))
      rw [hr] at h5
      injection h5 with h5
      exact .inr (by rw [h5]; rfl)

theorem wp_append_str {w : World} {o : Oper} {a : Act} {K : Act → World → Prop} {Q : Exit → Act → World → Prop} (s x : Operand)
    (ho : o.op = .call { callee := .builtin .append, args := #[s, x], argTypes := #[24, 9] })
    (base : Nat) (v : Value) (n : Nat) (xs : List Value) (hs : a.eval s = v) (hown : w.ownsRow base 5 1 v n xs) (u : ByteArray) (hx : a.eval x = .string u) (hl : n + u.size ≤ 100000000) (hbase : base ≤ w.heap.size)
    (h : ∀ v' w', w'.ownsRow base 5 1 v' (n + u.size) (xs ++ (bytesOf u).map bv) → w.grownBy w' v.ownBlock → (v'.ownBlock = v.ownBlock ∨ v'.ownBlock = some w.heap.size) → K (a.put o.dst v') w') : o.wp Try.prog a w K Q := by
  obtain ⟨v', w', hr, h2, h3, h5⟩ := run_append_str w base o.type v n xs hown u hl hbase
  unfold Oper.wp execOp
  simp only [ho, resolve, invoke, builtin, Sem.run_bind, Sem.run_pure, Result.andThen_ok, List.map_toArray, List.map_cons, List.map_nil, hs, hx, hr]
  exact h v' w' h2 h3 h5

theorem wpList_append_str {w : World} {ops : Array Oper} {rest : List Oper} {o : Oper} {a : Act} {Q : Exit → Act → World → Prop} (hgd : o.guard = none) (s x : Operand)
    (ho : o.op = .call { callee := .builtin .append, args := #[s, x], argTypes := #[24, 9] })
    (base : Nat) (v : Value) (n : Nat) (xs : List Value) (hs : a.eval s = v) (hown : w.ownsRow base 5 1 v n xs) (u : ByteArray) (hx : a.eval x = .string u) (hl : n + u.size ≤ 100000000) (hbase : base ≤ w.heap.size)
    (h : ∀ v' w', w'.ownsRow base 5 1 v' (n + u.size) (xs ++ (bytesOf u).map bv) → w.grownBy w' v.ownBlock → (v'.ownBlock = v.ownBlock ∨ v'.ownBlock = some w.heap.size) → wpList Try.prog ops Q rest (a.put o.dst v') w') : wpList Try.prog ops Q (o :: rest) a w :=
  wpList_plain hgd fun _ hK => wp_append_str s x ho base v n xs hs hown u hx hl hbase fun v' w' h2 h3 h5 => hK _ _ (h v' w' h2 h3 h5)

theorem bytes_extract (ss : List UInt8) (k j : Nat) (hj : j ≤ ss.length) : bytesOf ((strOf ss).extract k j) = (ss.drop k).take (j - k) := by
  unfold bytesOf strOf
  have e : (ByteArray.mk ss.toArray).size = ss.length := rfl
  simp [e, Nat.min_eq_left hj]

def NmP (w : World) (p lo : Nat) (st ss : List UInt8) (nop : Nat) (A : Option Addr) (c : Nat) (s : ByteArray) (e : Ending) (w' : World) : Prop :=
  ∃ (off : Nat) (more : List UInt8) (B : Option Addr) (d : Nat), e = .returned (.int .i64 off) ∧ Has (ss ++ more) off s ∧ more.length ≤ s.size + 1 ∧ SW w' p lo st (ss ++ more) nop A c B d ∧ Kw p lo w w'

set_option maxHeartbeats 1000000 in
set_option maxRecDepth 20000 in
theorem wname_walk (w : World) (p lo : Nat) (st ss : List UInt8) (nop : Nat) (A : Option Addr) (c : Nat) (B : Option Addr) (d : Nat) (h : SW w p lo st ss nop A c B d) (s : ByteArray) (hs : s.size ≤ 100) (hl : ss.length ≤ 1000000) :
    Calls Try.prog 65 #[.pointer (some ⟨p, 0, none⟩), .string s] w (NmP w p lo st ss nop A c s) := by
  have c1 := h.cs.cell 1
  have f1 := h.cs.frozen 1
  simp at c1
  have hcv := conv_str w B ss.length d ss rfl (own_rd h.o2)
  obtain ⟨S, hS⟩ : ∃ S, S = strOf ss := ⟨_, rfl⟩
  have hSz : S.size = ss.length := by rw [hS]; rfl
  have hget : ∀ k, ∀ hk : k < S.size, ss[k]? = some S[k] := fun k hk => by subst hS; exact List.getElem?_eq_getElem hk
  rw [← hS] at hcv
  have H := Lib.hid h
  have HS := Lib.hid hS
  have HSz := Lib.hid hSz
  have Hget := Lib.hid hget
  have hsz2 : S.size ≤ 1000000 := by omega
  clear h hS hSz hget
  go_enter Try.func65, Try.ntmps65
  go_wp2_with fail
  go_loopw [6] (fun i wr => w = wr ∧ ∃ k : Nat, k ≤ S.size ∧ i = .int .i64 k) (fun i _ => S.size + s.size - (intOf i).toNat)
  case atStart => exact ⟨rfl, 0, by omega, by go_num⟩
  case round =>
    obtain ⟨rfl, k, hk, rfl⟩ := hrel
    have hki : (0 : Int) ≤ (k : Int) := by omega
    by_cases hlt : k + s.size < S.size
    · obtain ⟨j, hj⟩ : ∃ j, j = k + s.size := ⟨_, rfl⟩
      have hl1 : decide ((j : Int) < (S.size : Int)) = true := decide_eq_true (by omega)
      have hkj : (k : Int) + (s.size : Int) = (j : Int) := by omega
      have hwj : IntKind.i64.wrap ((k : Int) + (s.size : Int)) = (j : Int) := by simp only [IntKind.wrap, IntKind.bits, IntKind.signed]; simp; omega
      have hjS : j < S.size := by omega
      have hjS2 : (j : Int) ≤ (S.size : Int) := by omega
      have hj2 : (k : Int) ≤ (j : Int) := by omega
      have hj0 : (0 : Int) ≤ (j : Int) := by omega
      have hz := S[j].toNat_lt
      have Hj := Lib.hid hj
      have hw1 : IntKind.i64.wrap ((k : Int) + 1) = (k : Int) + 1 := by simp only [IntKind.wrap, IntKind.bits, IntKind.signed]; simp; omega
      obtain ⟨U, hU⟩ : ∃ U, S.extract k j = U := ⟨_, rfl⟩
      clear hj
      have hfound : U = s → ((S[j].toNat : Int) == 0) = true → Has (ss ++ []) k s := fun e1 e2 => by
        have e3 : S[j] = 0 := by
          have : S[j].toNat = 0 := by simpa using e2
          exact UInt8.toNat.inj this
        have e4 := Hget.out j hjS
        rw [e3] at e4
        rw [List.append_nil]
        refine ⟨ss.take k, ss.drop (j + 1), ?_, by simp; have := HSz.out; omega⟩
        have e5 : (ss.drop k).take s.size = bytesOf s := by
          have := Hj.out
          have := HSz.out
          rw [← e1, ← hU, HS.out, bytes_extract _ _ _ (by omega)]
          congr 1
          rw [← HS.out, hU, e1]
          omega
        have e6 : ss.drop j = 0 :: ss.drop (j + 1) := by
          have hjl := (List.getElem?_eq_some_iff.1 e4)
          rw [List.drop_eq_getElem_cons hjl.1, hjl.2]
        have e7 : ss.drop k = bytesOf s ++ 0 :: ss.drop (j + 1) := by
          rw [← e6, ← e5, Hj.out, ← List.drop_drop, List.take_append_drop]
        conv => lhs; rw [← List.take_append_drop k ss, e7]
        rw [List.append_assoc]
      have HF := Lib.hid hfound
      clear hfound
      by_cases hk0 : ((k : Int) == 0) = true
      · by_cases he : U = s
        · have heb : (U.toList == s.toList) = true := by rw [he]; simp
          by_cases hn : ((S[j].toNat : Int) == 0) = true
          · have HFF := Lib.hid (HF.out he hn)
            clear he
            go_wp2_with fail
            go_ret
            exact ⟨k, [], B, d, rfl, HFF.out, by simp, by rw [List.append_nil]; exact H.out, Kw.refl _ _ _⟩
          · replace hn : ((S[j].toNat : Int) == 0) = false := by simpa using hn
            clear he
            go_wp2_with fail
            exact ⟨⟨trivial, k + 1, by omega, by go_num⟩, by simp [intOf]; omega⟩
        · have heb := (str_ne he).2
          clear he
          go_wp2_with fail
          exact ⟨⟨trivial, k + 1, by omega, by go_num⟩, by simp [intOf]; omega⟩
      · have hk1 : 1 ≤ k := by simp at hk0; omega
        replace hk0 : ((k : Int) == 0) = false := by simpa using hk0
        obtain ⟨m, hm⟩ : ∃ m, k = m + 1 := ⟨k - 1, by omega⟩
        have hkm : (k : Int) - 1 = (m : Int) := by omega
        have hwm : IntKind.i64.wrap ((k : Int) - 1) = (m : Int) := by simp only [IntKind.wrap, IntKind.bits, IntKind.signed]; simp; omega
        have hmS : m < S.size := by omega
        have hm0 : (0 : Int) ≤ (m : Int) := by omega
        have hzm := S[m].toNat_lt
        clear hm
        by_cases hp : ((S[m].toNat : Int) == 0) = true
        · by_cases he : U = s
          · have heb : (U.toList == s.toList) = true := by rw [he]; simp
            by_cases hn : ((S[j].toNat : Int) == 0) = true
            · have HFF := Lib.hid (HF.out he hn)
              clear he
              go_wp2_with fail
              go_ret
              exact ⟨k, [], B, d, rfl, HFF.out, by simp, by rw [List.append_nil]; exact H.out, Kw.refl _ _ _⟩
            · replace hn : ((S[j].toNat : Int) == 0) = false := by simpa using hn
              clear he
              go_wp2_with fail
              exact ⟨⟨trivial, k + 1, by omega, by go_num⟩, by simp [intOf]; omega⟩
          · have heb := (str_ne he).2
            clear he
            go_wp2_with fail
            exact ⟨⟨trivial, k + 1, by omega, by go_num⟩, by simp [intOf]; omega⟩
        · replace hp : ((S[m].toNat : Int) == 0) = false := by simpa using hp
          go_wp2_with fail
          exact ⟨⟨trivial, k + 1, by omega, by go_num⟩, by simp [intOf]; omega⟩
    · have hl1 : decide ((k : Int) + (s.size : Int) < (S.size : Int)) = false := decide_eq_false (by omega)
      have hlw := H.out.lw
      go_wp2_with (at_builtin; first
        | ((refine wpList_append_str rfl (.tmp 55) (.tmp 56) rfl lo (.slice B ss.length d) ss.length (ss.map bv) rfl H.out.o2 s rfl (by omega) hlw ?_); intro v' w1 hown1 hgrow hat; obtain ⟨A2, c2, rfl⟩ := own_slice hown1; have hs1 := hgrow.size)
        | (go_must (refine wpList_append_el el24 rfl (.tmp 57) (.tmp 58) rfl lo (.slice A2 (ss.length + s.size) c2) (ss.length + s.size) (ss.map bv ++ (bytesOf s).map bv) rfl (hown1.alloc _) (some ⟨w1.heap.size, 0, none⟩) 1 1 [.int .u8 0] rfl (by simp) ((Cs.new _ _ _).rd rfl) (by simp [Value.oneCell']) (by omega) (by omega) (by simp; omega) ?_); intro v2 w2 hown2 hgrow2 hnil2 hat2; obtain ⟨A3, c3, rfl⟩ := own_slice hown2; clear hnil2; have hg3 := (grown_trans hgrow (grown_below ((Below.refl _ _).alloc (Nat.le_refl _) (.cells #[.int .u8 0] 5)) hgrow2) (NewRow.of_at hat (Nat.le_refl _))); have q2 := H.out.cs.grown hg3 (own_ne H.out.o2 H.out.lp); have y1 : w2.cell? ⟨p, 1, none⟩ = some (.slice B ss.length d) := (q2.cell 1).trans rfl; have yf := q2.frozen 1))
      have hl2 : (ss ++ (bytesOf s ++ [0])).length = ss.length + s.size + 1 := by simp [bytesOf]; omega
      obtain ⟨z1, z2⟩ := sw_put1 (l := ss ++ (bytesOf s ++ [0])) (A' := A3) (c' := c3) H.out hg3 (by rw [hl2]; simpa [bv] using hown2) (by rw [hl2]; exact (NewRow.of_at hat (Nat.le_refl _)).trans (NewRow.of_at hat2 (by simp)) hs1)
      rw [hl2] at z1 z2
      have HFIN := Lib.hid (show NmP w p lo st ss nop A c s (.returned (.int .i64 (S.size : Nat))) _ from ⟨S.size, bytesOf s ++ [0], A3, c3, rfl, by rw [HSz.out, ← List.append_assoc]; exact Has.new ss s, by simp [bytesOf], z1, z2⟩)
      clear z1 z2 hown1 hown2 hgrow hgrow2 hat hat2 hg3 q2 y1 yf hs1 hl2
      go_wp2_with fail
      go_ret
      exact HFIN.out
end Go.Proofs.Ytlbhadggfipckaa

set_option linter.unusedVariables false
set_option linter.unusedSimpArgs false
namespace Go.Proofs.Ytlbhadggfipckaa

/-- quiet: only reads; eff: turns memory, alone; fork: two of them, in either order. -/
inductive Plan where
  | done
  | quiet (i : Nat) (p : Plan)
  | eff (i : Nat) (p : Plan)
  | fork (i j : Nat) (p q : Plan)

def Plan.size : Plan → Nat
  | .done => 0
  | .quiet _ p => p.size + 1
  | .eff _ p => p.size + 1
  | .fork _ _ p _ => p.size + 1

def Plan.isDone : Plan → Bool
  | .done => true
  | _ => false

section
variable {P : Program} {ops : Array Oper} {Q : Exit → Act → World → Prop} {S : World → Prop} {L : Nat}

def opAt (ops : Array Oper) (i : Nat) : Oper := (ops[i]?).getD { dst := none, op := .move (.const undef), type := 0, pos := "", after := #[], guard := none }

def stepT (P : Program) (ops : Array Oper) (Q : Exit → Act → World → Prop) (o : Oper) (K : Act → World → Prop) (a : Act) (w : World) : Prop :=
  if Region.wanted o (yielded ops a.tmps) = true then o.wp P a w K Q else K (a.put o.dst undef) w

inductive PlanO where
  | done
  | quiet (o : Oper) (p : PlanO)
  | eff (b : Bool) (o : Oper) (p : PlanO)
  | fork (o o2 : Oper) (p q : PlanO)

def planO (ops : Array Oper) (L : Nat) : Plan → PlanO
  | .done => .done
  | .quiet i p => .quiet (opAt ops i) (planO ops L p)
  | .eff i p => .eff (i == L) (opAt ops i) (planO ops L p)
  | .fork i j p q => .fork (opAt ops i) (opAt ops j) (planO ops L p) (planO ops L q)

def seqT (P : Program) (ops : Array Oper) (Q : Exit → Act → World → Prop) (S : World → Prop) : PlanO → Act → World → Prop
  | .done, a, w => Q .normal a w
  | .quiet o p, a, w => ∃ v, YieldsIf P ops S o v a ∧ seqT P ops Q S p (a.put o.dst v) w
  | .eff b o p, a, w => ∀ K : Act → World → Prop, (∀ a' w', (b = true ∨ S w') → seqT P ops Q S p a' w' → K a' w') → stepT P ops Q o K a w
  | .fork o o2 p q, a, w => (∀ K : Act → World → Prop, (∀ a' w', S w' → seqT P ops Q S p a' w' → K a' w') → stepT P ops Q o K a w) ∧
      (∀ K : Act → World → Prop, (∀ a' w', S w' → seqT P ops Q S q a' w' → K a' w') → stepT P ops Q o2 K a w)

def chkT (ops : Array Oper) (L : Nat) : Array Bool → Plan → Bool
  | listed, .done => (Region.ready .any ops listed).isEmpty
  | listed, .quiet i p => (ops[i]?).isSome && ((Region.ready .any ops listed).contains i && Region.free .any ops listed i && (Nat.ble ops.size L || reach ops i ops.size L && i != L)) && chkT ops L (listed.setIfInBounds i true) p
  | listed, .eff i p => (ops[i]?).isSome && (Region.ready .any ops listed == [i] && (i != L || p.isDone)) && chkT ops L (listed.setIfInBounds i true) p
  | listed, .fork i j p q => (ops[i]?).isSome && (ops[j]?).isSome && (Region.ready .any ops listed == [i, j] && i != L && j != L && p.size == q.size) && chkT ops L (listed.setIfInBounds i true) p && chkT ops L (listed.setIfInBounds j true) q

theorem opAt_of {i : Nat} {o : Oper} (h : ops[i]? = some o) : opAt ops i = o := by simp [opAt, h]

theorem stepT_op {i : Nat} {o : Oper} (ho : ops[i]? = some o) {K : Act → World → Prop} {a : Act} {w : World} (h : stepT P ops Q o K a w) : wpOp P ops Q i K a w := by
  unfold wpOp
  unfold stepT at h
  simp only [ho]
  split
  · rename_i hw
    rw [if_pos hw] at h
    exact .inl h
  · rename_i hw
    rw [if_neg hw] at h
    exact h

theorem wpAnyC_firstN {i : Nat} {oi : Oper} {v : Value} (hi : ops[i]? = some oi) (hsel : ∀ (j : Nat) (o : Oper) cs b, ops[j]? = some o → o.op ≠ .select cs b)
    (hQ : ∀ c a d v w, Q (.panic c) (a.put d v) w → Q (.panic c) a w) (hL : ops.size ≤ L) :
    ∀ (fuel : Nat) (listed : Array Bool) (a : Act) (w : World), Closed ops listed →
      (∀ j oj, ops[j]? = some oj → j ≠ i → listed.getD j true = false → (∀ e ∈ oj.after, Region.binds .any e = true → e.on ≠ i) → oi.apart ops oj = true) →
      i ∈ Region.ready .any ops listed → YieldsIf P ops S oi v a → S w →
      wpAnyC P ops Q S L fuel (listed.setIfInBounds i true) (a.put oi.dst v) w → wpAnyC P ops Q S L (fuel + 1) listed a w := by
  intro fuel
  induction fuel with
  | zero =>
    intro listed a w _ _ hr hy hS H
    refine ⟨fun h => (by rw [h] at hr; cases hr), fun j hj => ?_⟩
    by_cases hji : j = i
    · subst hji; exact hy.wpOp hi hS ⟨.inr hS, H⟩
    · have := ready_mono hj hji
      rw [H.1] at this
      cases this
  | succ fuel ih =>
    intro listed a w hc hfree hr hy hS H
    refine ⟨fun h => (by rw [h] at hr; cases hr), fun j hj => ?_⟩
    by_cases hji : j = i
    · subst hji; exact hy.wpOp hi hS ⟨.inr hS, H⟩
    · have h1 := H.2 j (ready_mono hj hji)
      obtain ⟨hjun, oj, hoj, hall⟩ := mem_ready.1 hj
      have hi0 : ¬ listed.getD i false = true := fun h1 => by
        have h0 := (mem_ready.1 hr).1
        rcases Nat.lt_or_ge i listed.size with h' | h'
        · simp [h'] at h0 h1; rw [h0] at h1; cases h1
        · simp [Array.getElem?_eq_none h'] at h1
      have hjL : j ≠ L := fun e => by
        have := (Array.getElem?_eq_some_iff.1 hoj).1
        omega
      have hnot : ∀ e ∈ oj.after, Region.binds .any e = true → e.on ≠ i := fun e he hb heq => hi0 (heq ▸ hall e he hb)
      have h2 := wpOp_putIf hoj (hfree j oj hoj hji hjun hnot) (fun cs b => hsel i oi cs b hi) (fun cs b => hsel j oj cs b hoj) (fun c a w => hQ c a _ _ w) hy h1
      have hfree' : ∀ k ok, ops[k]? = some ok → k ≠ i → (listed.setIfInBounds j true).getD k true = false →
          (∀ e ∈ ok.after, Region.binds .any e = true → e.on ≠ i) → oi.apart ops ok = true := fun k ok hk hki hun hno => by
        refine hfree k ok hk hki ?_ hno
        by_cases hjk : j = k
        · subst hjk; exact hjun
        · rw [getD_set_ne true hjk] at hun; exact hun
      refine wpOp_mono (fun a' w' h3 => ⟨.inr (h3.2.1.resolve_left hjL), ih (listed.setIfInBounds j true) a' w' (hc.set_ hj) hfree' (ready_mono hr (Ne.symm hji)) h3.1 (h3.2.1.resolve_left hjL) ?_⟩) h2
      rw [Array.setIfInBounds_comm _ _ hji]
      exact h3.2.2

theorem seqT_sound (hs : Region.noSelect ops = true) (hQ : ∀ c a d v w, Q (.panic c) (a.put d v) w → Q (.panic c) a w) :
    ∀ (p : Plan) (listed : Array Bool) (a : Act) (w : World), Closed ops listed → chkT ops L listed p = true → (p = .done ∨ S w) → seqT P ops Q S (planO ops L p) a w → wpAnyC P ops Q S L p.size listed a w
  | .done, listed, a, w, hc, hk, hS, h => ⟨by simpa [chkT] using hk, h⟩
  | .quiet i p, listed, a, w, hc, hk, hS, h => by
    replace hS := hS.resolve_left (by simp)
    simp only [chkT, Bool.and_eq_true, Bool.or_eq_true, bne_iff_ne] at hk
    obtain ⟨⟨hk1, ⟨h1, h2⟩, h34⟩, hk3⟩ := hk
    obtain ⟨o, ho⟩ := Option.isSome_iff_exists.1 hk1
    have h1 : i ∈ Region.ready .any ops listed := by simpa using h1
    simp only [planO, seqT, opAt_of ho] at h
    obtain ⟨v, hy, h⟩ := h
    rcases h34 with hN | ⟨h3, h4⟩
    · exact wpAnyC_firstN ho (Region.noSelect_spec hs) hQ (Nat.le_of_ble_eq_true hN) p.size listed a w hc (Region.free_spec ho h2) h1 hy hS (seqT_sound hs hQ p _ _ w (hc.set_ h1) hk3 (.inr hS) h)
    exact wpAnyC_first ho (Region.noSelect_spec hs) hQ h3 h4 p.size listed a w hc (Region.free_spec ho h2) h1 hy hS (seqT_sound hs hQ p _ _ w (hc.set_ h1) hk3 (.inr hS) h)
  | .eff i p, listed, a, w, hc, hk, hS, h => by
    simp only [chkT, Bool.and_eq_true, beq_iff_eq, Bool.or_eq_true, bne_iff_ne] at hk
    obtain ⟨⟨hk1, h1, h2⟩, hk3⟩ := hk
    obtain ⟨o, ho⟩ := Option.isSome_iff_exists.1 hk1
    simp only [planO, seqT, opAt_of ho] at h
    have hir : i ∈ Region.ready .any ops listed := by rw [h1]; simp
    refine ⟨fun h0 => (by rw [h1] at h0; cases h0), fun j hj => ?_⟩
    rw [h1] at hj
    obtain rfl : j = i := by simpa using hj
    refine stepT_op ho (h (fun a' w' => (j = L ∨ S w') ∧ wpAnyC P ops Q S L p.size (listed.setIfInBounds j true) a' w') (fun a' w' hb hr => ⟨hb.imp (fun h => by simpa using h) id, seqT_sound hs hQ p _ a' w' (hc.set_ hir) hk3 (by
        rcases hb with hb | hb
        · refine .inl ?_
          have := h2.resolve_left (fun hn => hn (by simpa using hb))
          cases p <;> simp [Plan.isDone] at this ⊢
        · exact .inr hb) hr⟩))
  | .fork i j p q, listed, a, w, hc, hk, hS, h => by
    simp only [chkT, Bool.and_eq_true, beq_iff_eq, bne_iff_ne] at hk
    obtain ⟨⟨⟨⟨hk1, hk2⟩, ⟨⟨h1, h2⟩, h3⟩, h4⟩, hk3⟩, hk4⟩ := hk
    obtain ⟨o, ho⟩ := Option.isSome_iff_exists.1 hk1
    obtain ⟨o2, ho2⟩ := Option.isSome_iff_exists.1 hk2
    simp only [planO, seqT, opAt_of ho, opAt_of ho2] at h
    have hir : i ∈ Region.ready .any ops listed := by rw [h1]; simp
    have hjr : j ∈ Region.ready .any ops listed := by rw [h1]; simp
    refine ⟨fun h0 => (by rw [h1] at h0; cases h0), fun k hk => ?_⟩
    rw [h1] at hk
    have hk' : k = i ∨ k = j := by simpa using hk
    rcases hk' with rfl | rfl
    · exact stepT_op ho (h.1 (fun a' w' => (k = L ∨ S w') ∧ wpAnyC P ops Q S L p.size (listed.setIfInBounds k true) a' w') (fun a' w' hb hr => ⟨.inr hb, seqT_sound hs hQ p _ a' w' (hc.set_ hir) hk3 (.inr hb) hr⟩))
    · refine stepT_op ho2 (h.2 (fun a' w' => (k = L ∨ S w') ∧ wpAnyC P ops Q S L p.size (listed.setIfInBounds k true) a' w') (fun a' w' hb hr => ⟨.inr hb, ?_⟩))
      rw [h4]
      exact seqT_sound hs hQ q _ a' w' (hc.set_ hjr) hk4 (.inr hb) hr

/-- The beginning. -/
theorem wp_region_plan {id : Nat} {a : Act} {w : World} (S : World → Prop) (L : Nat) (p : Plan) (hm : P.follows .mixedOrders = true)
    (hc : (Region.noSelect ops && chkT ops L (Array.replicate ops.size false) p && (p.size == ops.size)) = true)
    (hS : S w.drew) (h : seqT P ops (NoPanic Q) S (planO ops L p) a w.drew) : (Code.region id ops true).wp P Q a w := by
  refine wp_region_noPanic ?_
  simp only [Bool.and_eq_true, beq_iff_eq] at hc
  obtain ⟨⟨h1, h2⟩, h3⟩ := hc
  have h4 := seqT_sound (P := P) (S := S) (Q := NoPanic Q) h1 (fun _ _ _ _ _ h => h) p _ a w.drew (fun j o _ hj => by
    rcases Nat.lt_or_ge j ops.size with hl | hl
    · simp [hl] at hj
    · simp [Nat.not_lt.2 hl] at hj) h2 (.inr hS) h
  rw [h3] at h4
  exact wp_region_any hm (wpAny_of_C _ _ _ _ h4)

theorem SeqT.quiet {p : PlanO} {a : Act} {w : World} {v : Value} {o : Oper} (hg : o.guard = none)
    (h1 : ∀ w', S w' → (execOp a.eval o).run P w' = .ok (.value v) w') (h : seqT P ops Q S p (a.put o.dst v) w) : seqT P ops Q S (.quiet o p) a w :=
  ⟨v, .inl ⟨wanted_of_none hg _, h1⟩, h⟩
theorem stepT_none {o : Oper} (hg : o.guard = none) {K : Act → World → Prop} {a : Act} {w : World} (h : o.wp P a w K Q) : stepT P ops Q o K a w := by
  unfold stepT
  rw [if_pos (wanted_of_none hg _)]
  exact h
theorem SeqT.eff {b : Bool} {p : PlanO} {a : Act} {w : World} {o : Oper} (hg : o.guard = none)
    (h : ∀ K : Act → World → Prop, Shut (∀ a' w', (b = true ∨ S w') → seqT P ops Q S p a' w' → K a' w') → o.wp P a w K Q) : seqT P ops Q S (.eff b o p) a w :=
  fun K hK => stepT_none hg (h K hK)
theorem SeqT.fork {p q : PlanO} {a : Act} {w : World} {o o2 : Oper} (hg : o.guard = none) (hg2 : o2.guard = none)
    (h : ∀ K : Act → World → Prop, Shut (∀ a' w', S w' → seqT P ops Q S p a' w' → K a' w') → o.wp P a w K Q)
    (h2 : ∀ K : Act → World → Prop, Shut (∀ a' w', S w' → seqT P ops Q S q a' w' → K a' w') → o2.wp P a w K Q) : seqT P ops Q S (.fork o o2 p q) a w :=
  ⟨fun K hK => stepT_none hg (h K hK), fun K hK => stepT_none hg2 (h2 K hK)⟩
theorem SeqT.done {a : Act} {w : World} (h : Q .normal a w) : seqT P ops (NoPanic Q) S .done a w := h
theorem SeqT.last {a : Act} {w : World} {o : Oper} (hg : o.guard = none)
    (h : ∀ K : Act → World → Prop, Shut (∀ a' w', Q .normal a' w' → K a' w') → o.wp P a w K (NoPanic Q)) : seqT P ops (NoPanic Q) S (.eff true o .done) a w :=
  SeqT.eff hg fun K hK => h K fun a' w' hq => hK a' w' (.inl rfl) hq
end
end Go.Proofs.Ytlbhadggfipckaa
