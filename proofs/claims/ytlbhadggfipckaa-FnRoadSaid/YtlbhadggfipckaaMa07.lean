/-
  spec.Fits.
  Nodes by pointers: trees of blocks; frames of the loops that append.
  impl.given: a node of the package.
-/
import Derived.Test.YtlbhadggfipckaaMa06
import Derived.Test.YtlbhadggfipckaaMa00
set_option linter.unusedVariables false
set_option linter.unusedSimpArgs false
namespace Go.Proofs.Ytlbhadggfipckaa
open Go.RowKit

def FitsP (x : Tr) : Prop := (∀ r ∈ x.rooms, r.2 ≠ 0) ∧ x.root.has ∧ x.ver = 17 ∧ x.lc = 16 ∧ 0 ≤ x.boot ∧ x.boot < 2147483648 ∧ (x.rooms.length : Int) ≤ 5 ∧ ProperR true x.root ∧ x.root.depth ≤ 6 ∧ x.root.costQ ≤ 2000

def FitsPost (w : World) (x : Tr) (e : Ending) (w' : World) : Prop := Below w.heap.size w w' ∧ (e = .returned (.bool false) ∨ e = .returned (.bool true) ∧ FitsP x)

theorem fits_below {w wr w1 w2 : World} {o : Obj} (h1 : Below w.heap.size w wr) (h2 : Below (wr.alloc o).heap.size (wr.alloc o) w1) (h3 : Fr w1.heap.size (· = wr.heap.size) w1 w2) (hz : w.heap.size < wr.heap.size) : Below w.heap.size w w2 := by
  have := h2.size
  simp at this
  exact ((h1.alloc (by omega) o).trans (h2.mono (by simp; omega))).trans (h3.below (by omega) (by omega))

set_option maxHeartbeats 4000000 in
theorem fits_walk (w : World) (ok : Nat → Prop) (x : Tr) (cs : Array Value) (hok : ∀ k, ok k → k < w.heap.size) (h : TreeC w ok x cs) : Calls Try.prog 17 #[.agg cs] w (FitsPost w x) := by
  obtain ⟨vr, ⟨k1, k2, k3⟩, rfl, hr, hn, hb⟩ := h
  obtain ⟨A, c, rfl, h1, h2, h3, h4, h5⟩ := hr
  obtain ⟨s1, A3, n3, c3, A4, n4, c4, hk⟩ := id hn.form
  simp only [Prod.mk.injEq] at hk
  obtain ⟨rfl, rfl, rfl⟩ := hk
  have Hn := Lib.hid hn
  have H4 := Lib.hid h4
  have H5 := Lib.hid h5
  clear hn hb h4 h5
  go_enter Try.func17, Try.ntmps17
  go_wp2_with fail
  go_loopw [9] (fun i wr => ∃ k : Nat, k ≤ x.rooms.length ∧ i = .int .i64 k ∧ Below w.heap.size w wr ∧ Cs wr w.heap.size #[.int .i64 x.ver, .int .i64 x.lc, .int .i64 x.boot, .slice A x.rooms.length c, .string s1, .slice A3 n3 c3, .slice A4 n4 c4] ∧ Hid (∀ r ∈ x.rooms.take k, r.2 ≠ 0)) (fun i _ => x.rooms.length - (intOf i).toNat)
  case atStart => exact ⟨0, by omega, by go_num, (Below.refl _ _).alloc (by omega) _, Cs.new' _ _ _ _ rfl, Lib.hid (by simp)⟩
  case round =>
    obtain ⟨k, hk, rfl, hF, q, Hnz⟩ := hrel
    have hz := q.lt
    by_cases hlt : k < x.rooms.length
    · have hne : x.rooms ≠ [] := by intro e; simp [e] at hlt
      obtain ⟨b, o, rfl, hob, hD⟩ := H5.out.resolve_left hne
      have hkt : (x.rooms.map roomC)[k]? = some (roomC x.rooms[k]) := by simp [hlt]
      obtain ⟨d1, d2⟩ := hD k _ hkt
      have hbo := hok b hob
      have tr : ∀ y, w.cell? ⟨b, y, none⟩ = wr.cell? ⟨b, y, none⟩ := fun y => (World.cell?_of_block (a := ⟨b, y, none⟩) (hF.block b hbo)).symm
      rw [tr] at d1 d2
      have hmem : ∀ q ∈ x.rooms.take (k + 1), q ∈ x.rooms.take k ∨ q = x.rooms[k] := fun q hq => by
        rw [List.take_succ_eq_append_getElem hlt] at hq
        rcases List.mem_append.1 hq with h | h
        · exact .inl h
        · exact .inr (List.mem_singleton.1 h)
      generalize x.rooms[k] = rk at *
      obtain ⟨ra, rs⟩ := rk
      simp only [roomC] at d1 d2
      have hbl : b < wr.heap.size := by omega
      have hki : (0 : Int) ≤ (k : Int) := by omega
      have HF := Lib.hid hF
      have Hq := Lib.hid q
      have Hm := Lib.hid hmem
      clear hkt hD tr hF q hmem
      by_cases h0 : rs = 0
      · have he : (rs == 0) = true := by simpa using h0
        go_wp2_with fail
        go_ret
        exact ⟨HF.out.alloc (by omega) _, .inl rfl⟩
      · have he : (rs == 0) = false := by simpa using h0
        have Hnz2 : Hid (∀ r ∈ x.rooms.take (k + 1), r.2 ≠ 0) := Lib.hid fun r hr => by
          rcases Hm.out r hr with h | h
          · exact Hnz.out r h
          · rw [h]; exact h0
        go_wp2_with fail
        go_roundw
        case rel => exact ⟨k + 1, by omega, by go_num, HF.out.alloc (by omega) _, Hq.out.alloc _, Hnz2⟩
        case measure => simp [intOf]; omega
    · obtain rfl : k = x.rooms.length := by omega
      rw [List.take_length] at Hnz
      have t0 := q.cell 0
      have t1 := q.cell 1
      have t2 := q.cell 2
      have t3 := q.cell 3
      have t4 := q.cell 4
      have t5 := q.cell 5
      have t6 := q.cell 6
      simp at t0 t1 t2 t3 t4 t5 t6
      have HF := Lib.hid hF
      have Hq := Lib.hid q
      clear hF q
      by_cases g0 : x.ver = 17
      · have b0 : (x.ver == 17) = true := by simpa using g0
        by_cases g1 : x.lc = 16
        · have b1 : (x.lc == 16) = true := by simpa using g1
          by_cases g2 : 0 ≤ x.boot
          · have b2 : decide (0 ≤ x.boot) = true := decide_eq_true g2
            by_cases g3 : x.boot < 2147483648
            · have b3 : decide (x.boot < 2147483648) = true := decide_eq_true g3
              by_cases g4 : (x.rooms.length : Int) ≤ 5
              · have b4 : decide ((x.rooms.length : Int) ≤ 5) = true := decide_eq_true g4
                go_wp2_with (first | (go_at_call 34; refine (some_walk x.root _ ok _ (fun y hy => by have := hok y hy; simp; omega) (NodeC.mono (Same.of_below (HF.out.alloc (by omega) (.cells #[.int .i64 2000] 3)) hok) (fun _ h => h) Hn.out)).mono ?_; rintro e w1 ⟨hor, hb⟩; have q1 := (Hq.out.alloc (.cells #[.int .i64 2000] 3)).below hb (by simp; omega); have t0 := q1.cell 0; have t1 := q1.cell 1; have t2 := q1.cell 2; have t3 := q1.cell 3; have t4 := q1.cell 4; have t5 := q1.cell 5; have t6 := q1.cell 6; simp at t0 t1 t2 t3 t4 t5 t6; have Hb1 := Lib.hid hb; clear q1 hb; rcases hor with rfl | ⟨rfl, hhas⟩) | (go_at_call 35; refine (prop_root 5 (by omega) w1 ok wr.heap.size x.root _ 2000 (by omega) (by omega) (fun y hy => by have := hok y hy; have := Hb1.out.size; simp at this; omega) (fun hy => by have := hok _ hy; omega) (NodeC.mono (Same.of_below ((HF.out.alloc (by omega) (.cells #[.int .i64 2000] 3)).trans (Hb1.out.mono (by simp; omega))) hok) (fun _ h => h) Hn.out) ((Cs.new _ _ _).below Hb1.out (by simp))).mono ?_; rintro e w2 ⟨hf2, hor⟩; have Hf2 := Lib.hid hf2; clear hf2; rcases hor with rfl | ⟨rfl, hpr, hdp, hcq, -⟩))
                · go_ret
                  exact ⟨(HF.out.alloc (by omega) _).trans (Hb1.out.mono (by simp; omega)), .inl rfl⟩
                · go_ret
                  exact ⟨fits_below HF.out Hb1.out Hf2.out hz, .inl rfl⟩
                · go_ret
                  exact ⟨fits_below HF.out Hb1.out Hf2.out hz, .inr ⟨rfl, Hnz.out, hhas, g0, g1, g2, g3, g4, hpr, hdp, by omega⟩⟩
              · have b4 : decide ((x.rooms.length : Int) ≤ 5) = false := decide_eq_false g4
                go_wp2_with (first | (go_at_call 34; refine (some_walk x.root _ ok _ (fun y hy => by have := hok y hy; simp; omega) (NodeC.mono (Same.of_below (HF.out.alloc (by omega) (.cells #[.int .i64 2000] 3)) hok) (fun _ h => h) Hn.out)).mono ?_; rintro e w1 ⟨hor, hb⟩; have q1 := (Hq.out.alloc (.cells #[.int .i64 2000] 3)).below hb (by simp; omega); have t0 := q1.cell 0; have t1 := q1.cell 1; have t2 := q1.cell 2; have t3 := q1.cell 3; have t4 := q1.cell 4; have t5 := q1.cell 5; have t6 := q1.cell 6; simp at t0 t1 t2 t3 t4 t5 t6; have Hb1 := Lib.hid hb; clear q1 hb; rcases hor with rfl | ⟨rfl, hhas⟩))
                · go_ret
                  exact ⟨(HF.out.alloc (by omega) _).trans (Hb1.out.mono (by simp; omega)), .inl rfl⟩
                · go_ret
                  exact ⟨(HF.out.alloc (by omega) _).trans (Hb1.out.mono (by simp; omega)), .inl rfl⟩
            · have b3 : decide (x.boot < 2147483648) = false := decide_eq_false g3
              go_wp2_with (first | (go_at_call 34; refine (some_walk x.root _ ok _ (fun y hy => by have := hok y hy; simp; omega) (NodeC.mono (Same.of_below (HF.out.alloc (by omega) (.cells #[.int .i64 2000] 3)) hok) (fun _ h => h) Hn.out)).mono ?_; rintro e w1 ⟨hor, hb⟩; have q1 := (Hq.out.alloc (.cells #[.int .i64 2000] 3)).below hb (by simp; omega); have t0 := q1.cell 0; have t1 := q1.cell 1; have t2 := q1.cell 2; have t3 := q1.cell 3; have t4 := q1.cell 4; have t5 := q1.cell 5; have t6 := q1.cell 6; simp at t0 t1 t2 t3 t4 t5 t6; have Hb1 := Lib.hid hb; clear q1 hb; rcases hor with rfl | ⟨rfl, hhas⟩))
              · go_ret
                exact ⟨(HF.out.alloc (by omega) _).trans (Hb1.out.mono (by simp; omega)), .inl rfl⟩
              · go_ret
                exact ⟨(HF.out.alloc (by omega) _).trans (Hb1.out.mono (by simp; omega)), .inl rfl⟩
          · have b2 : decide (0 ≤ x.boot) = false := decide_eq_false g2
            go_wp2_with (first | (go_at_call 34; refine (some_walk x.root _ ok _ (fun y hy => by have := hok y hy; simp; omega) (NodeC.mono (Same.of_below (HF.out.alloc (by omega) (.cells #[.int .i64 2000] 3)) hok) (fun _ h => h) Hn.out)).mono ?_; rintro e w1 ⟨hor, hb⟩; have q1 := (Hq.out.alloc (.cells #[.int .i64 2000] 3)).below hb (by simp; omega); have t0 := q1.cell 0; have t1 := q1.cell 1; have t2 := q1.cell 2; have t3 := q1.cell 3; have t4 := q1.cell 4; have t5 := q1.cell 5; have t6 := q1.cell 6; simp at t0 t1 t2 t3 t4 t5 t6; have Hb1 := Lib.hid hb; clear q1 hb; rcases hor with rfl | ⟨rfl, hhas⟩))
            · go_ret
              exact ⟨(HF.out.alloc (by omega) _).trans (Hb1.out.mono (by simp; omega)), .inl rfl⟩
            · go_ret
              exact ⟨(HF.out.alloc (by omega) _).trans (Hb1.out.mono (by simp; omega)), .inl rfl⟩
        · have b1 : (x.lc == 16) = false := by simpa using g1
          go_wp2_with (first | (go_at_call 34; refine (some_walk x.root _ ok _ (fun y hy => by have := hok y hy; simp; omega) (NodeC.mono (Same.of_below (HF.out.alloc (by omega) (.cells #[.int .i64 2000] 3)) hok) (fun _ h => h) Hn.out)).mono ?_; rintro e w1 ⟨hor, hb⟩; have q1 := (Hq.out.alloc (.cells #[.int .i64 2000] 3)).below hb (by simp; omega); have t0 := q1.cell 0; have t1 := q1.cell 1; have t2 := q1.cell 2; have t3 := q1.cell 3; have t4 := q1.cell 4; have t5 := q1.cell 5; have t6 := q1.cell 6; simp at t0 t1 t2 t3 t4 t5 t6; have Hb1 := Lib.hid hb; clear q1 hb; rcases hor with rfl | ⟨rfl, hhas⟩))
          · go_ret
            exact ⟨(HF.out.alloc (by omega) _).trans (Hb1.out.mono (by simp; omega)), .inl rfl⟩
          · go_ret
            exact ⟨(HF.out.alloc (by omega) _).trans (Hb1.out.mono (by simp; omega)), .inl rfl⟩
      · have b0 : (x.ver == 17) = false := by simpa using g0
        go_wp2_with (first | (go_at_call 34; refine (some_walk x.root _ ok _ (fun y hy => by have := hok y hy; simp; omega) (NodeC.mono (Same.of_below (HF.out.alloc (by omega) (.cells #[.int .i64 2000] 3)) hok) (fun _ h => h) Hn.out)).mono ?_; rintro e w1 ⟨hor, hb⟩; have q1 := (Hq.out.alloc (.cells #[.int .i64 2000] 3)).below hb (by simp; omega); have t0 := q1.cell 0; have t1 := q1.cell 1; have t2 := q1.cell 2; have t3 := q1.cell 3; have t4 := q1.cell 4; have t5 := q1.cell 5; have t6 := q1.cell 6; simp at t0 t1 t2 t3 t4 t5 t6; have Hb1 := Lib.hid hb; clear q1 hb; rcases hor with rfl | ⟨rfl, hhas⟩))
        · go_ret
          exact ⟨(HF.out.alloc (by omega) _).trans (Hb1.out.mono (by simp; omega)), .inl rfl⟩
        · go_ret
          exact ⟨(HF.out.alloc (by omega) _).trans (Hb1.out.mono (by simp; omega)), .inl rfl⟩
end Go.Proofs.Ytlbhadggfipckaa

set_option linter.unusedVariables false
set_option linter.unusedSimpArgs false
namespace Go.Proofs.Ytlbhadggfipckaa
open Go.RowKit

/-- A node with the block that it lies in. -/
inductive LT where
  | mk (b : Nat) (name : ByteArray) (props : List Pr) (kids : List LT)

def LT.b : LT → Nat | .mk b _ _ _ => b
def LT.name : LT → ByteArray | .mk _ n _ _ => n
def LT.ks : LT → List LT | .mk _ _ _ k => k

mutual
def LT.erase : LT → Nd
  | .mk _ n ps ks => .mk n ps (eraseL ks)
def eraseL : List LT → List Nd
  | [] => []
  | k :: r => k.erase :: eraseL r
end

mutual
def LT.flat : LT → List Nat
  | .mk b _ _ ks => b :: flatL ks
def flatL : List LT → List Nat
  | [] => []
  | k :: r => k.flat ++ flatL r
end

theorem eraseL_eq : ∀ ks : List LT, eraseL ks = ks.map LT.erase
  | [] => rfl
  | k :: r => by simp [eraseL, eraseL_eq r]
theorem flatL_eq : ∀ ks : List LT, flatL ks = ks.flatMap LT.flat
  | [] => rfl
  | k :: r => by simp [flatL, flatL_eq r]

theorem LT.ind {P : LT → Prop} (h : ∀ b n p k, (∀ x ∈ k, P x) → P (.mk b n p k)) : ∀ x, P x
  | .mk b n p k => h b n p k fun x hx => LT.ind h x
termination_by x => SizeOf.sizeOf x
decreasing_by
  have := List.sizeOf_lt_of_mem hx
  simp
  omega

/-- The nodes lie in memory, in blocks that 'ok' names. -/
inductive PN (w : World) (ok : Nat → Prop) : LT → Prop
  | mk {b : Nat} {name : ByteArray} {ps : List Pr} {ks : List LT} {vp : Value} {A : Option Addr} {c : Nat} (hb : ok b) (hn : name.size ≤ 140737488351232) (hcs : Cs w b #[.string name, vp, .slice A ks.length c]) (hp : PropsC w ok vp ps)
      (hl : ks.length * 64 ≤ 140737488351232) (hc : ks.length ≤ c) (hm : c ≤ maxLen) (hk : ∀ k, k ∈ ks → PN w ok k)
      (hr : ks = [] ∨ ∃ g o, A = some ⟨g, o, none⟩ ∧ ok g ∧ ∀ (i : Nat) (k : LT), ks[i]? = some k → w.cell? ⟨g, o + i, none⟩ = some (.pointer (some ⟨k.b, 0, none⟩))) : PN w ok (.mk b name ps ks)

theorem PN.mono {w w' : World} {ok ok' : Nat → Prop} (hs : Same ok w w') (ho : ∀ k, ok k → ok' k) {n : LT} (h : PN w ok n) : PN w' ok' n := by
  induction h with
  | mk hb hn hcs hp hl hc hm hk hr ih =>
    refine .mk (ho _ hb) hn (hcs.keep (hs _ hb)) (hp.mono hs ho) hl hc hm ih ?_
    rcases hr with hr | ⟨g, o, e, hg, hd⟩
    · exact .inl hr
    · exact .inr ⟨g, o, e, ho g hg, fun i k hi => (hs.cell hg).trans (hd i k hi)⟩

theorem PN.open_ {w : World} {ok : Nat → Prop} {b : Nat} {name : ByteArray} {ps : List Pr} {ks : List LT} (h : PN w ok (.mk b name ps ks)) :
    ∃ vp A c, ok b ∧ name.size ≤ 140737488351232 ∧ Cs w b #[.string name, vp, .slice A ks.length c] ∧ PropsC w ok vp ps ∧ ks.length * 64 ≤ 140737488351232 ∧ ks.length ≤ c ∧ c ≤ maxLen ∧ (∀ k, k ∈ ks → PN w ok k) ∧
      (ks = [] ∨ ∃ g o, A = some ⟨g, o, none⟩ ∧ ok g ∧ ∀ (i : Nat) (k : LT), ks[i]? = some k → w.cell? ⟨g, o + i, none⟩ = some (.pointer (some ⟨k.b, 0, none⟩))) := by
  cases h with
  | mk hb hn hcs hp hl hc hm hk hr => exact ⟨_, _, _, hb, hn, hcs, hp, hl, hc, hm, hk, hr⟩

/-- What came between two worlds. -/
def Rng (w w' : World) : Nat → Prop := fun x => w.heap.size ≤ x ∧ x < w'.heap.size

/-- What came from lo on, but for one row. -/
def OkR (lo : Nat) (w' : World) (g : Option Nat) : Nat → Prop := fun b => lo ≤ b ∧ b < w'.heap.size ∧ some b ≠ g

theorem app_frame {wr w1 w2 : World} {lo q j : Nat} {o1 o2 : Obj} {e : TypeId} {size n : Nat} {v v' u : Value} {xs : List Value} (hown : wr.ownsRow lo e size v n xs) (hq : q < lo) (hlo : lo ≤ wr.heap.size)
    (hb : Below (wr.alloc o1).drew.heap.size (wr.alloc o1).drew w1) (hgrow : (w1.alloc o2).grownBy w2 v.ownBlock) (hat : v'.ownBlock = v.ownBlock ∨ v'.ownBlock = some (w1.alloc o2).heap.size) :
    Same (OkR lo wr v.ownBlock) wr (w2.setCell ⟨q, j, none⟩ u) ∧ (∀ b, OkR lo wr v.ownBlock b → OkR lo (w2.setCell ⟨q, j, none⟩ u) v'.ownBlock b) ∧ Same (Rng (wr.alloc o1).drew w1) w1 (w2.setCell ⟨q, j, none⟩ u) ∧
      (∀ b, Rng (wr.alloc o1).drew w1 b → OkR lo (w2.setCell ⟨q, j, none⟩ u) v'.ownBlock b) ∧ (∀ b, b < lo → b ≠ q → (w2.setCell ⟨q, j, none⟩ u).heap[b]? = wr.heap[b]?) ∧ wr.heap.size ≤ w2.heap.size ∧ (∀ B, B ≤ q → Below B wr (w2.setCell ⟨q, j, none⟩ u)) := by
  have hW : (wr.alloc o1).drew.heap.size = wr.heap.size + 1 := by simp
  have s1 := hb.size
  have s2 := hgrow.size
  have s2' : (w1.alloc o2).heap.size = w1.heap.size + 1 := by simp
  have hne : ∀ b, b < lo → some b ≠ v.ownBlock := fun b hb => own_ne hown hb
  have hg0 : ∀ b, wr.heap.size ≤ b → some b ≠ v.ownBlock := fun b hb e => by
    have := (hown.lt b e.symm).2
    omega
  have hg1 : ∀ b, b < w1.heap.size → some b ≠ v.ownBlock → some b ≠ v'.ownBlock := fun b hb h1 e => by
    rcases hat with h2 | h2
    · exact h1 (e.trans h2)
    · rw [h2] at e
      injection e with e
      omega
  have key : ∀ b, b < wr.heap.size → b ≠ q → some b ≠ v.ownBlock → (w2.setCell ⟨q, j, none⟩ u).heap[b]? = wr.heap[b]? := fun b h1 h2 h4 => by
    rw [Below.heap_setCell _ _ _ _ h2, hgrow.block b (by omega) h4, Below.heap_alloc _ _ _ (by omega), hb.block b (by omega)]
    show (wr.alloc _).heap[b]? = _
    rw [Below.heap_alloc _ _ _ h1]
  refine ⟨fun b hb => key b hb.2.1 (by have := hb.1; omega) hb.2.2, fun b hb => ⟨hb.1, ?_, hg1 b (by have := hb.2.1; omega) hb.2.2⟩, fun b hb => ?_, fun b hb => ⟨by have := hb.1; omega, ?_, hg1 b hb.2 (hg0 b (by have := hb.1; omega))⟩, fun b h1 h2 => key b (by omega) h2 (hne b h1), by omega, fun B hB => ?_⟩
  · have := hb.2.1
    simp [World.setCell]
    omega
  · have h1 := hb.1
    have h2 := hb.2
    rw [Below.heap_setCell _ _ _ _ (by simp; omega), hgrow.block b (by omega) (hg0 b (by omega)), Below.heap_alloc _ _ _ (by omega)]
  · have := hb.2
    simp [World.setCell]
    omega
  · exact ⟨hgrow.os.trans hb.os, hgrow.tape.trans hb.tape, hgrow.output.trans hb.output, by simp [World.setCell]; omega, fun b h1 => key b (by omega) (by omega) (hne b (by omega))⟩

theorem info70 : (Try.prog.info? 70).map (fun i => (i.zero, i.size, i.bytes)) = some (some (.agg #[.string ⟨#[]⟩, .slice none 0 0]), 2, 40) := by kernel_rfl
theorem info87 : (Try.prog.info? 87).map (fun i => (i.zero, i.size, i.bytes)) = some (some (.pointer none), 1, 8) := by kernel_rfl
theorem info9 : (Try.prog.info? 9).map (fun i => (i.zero, i.size, i.bytes)) = some (some (.string ⟨#[]⟩), 1, 16) := by kernel_rfl
theorem el127 : Elem Try.prog 127 70 2 40 := by
  obtain ⟨i, hi, hz0, hz1, hz2⟩ := info_parts info70
  exact ⟨Try.underlying127, i, _, hi, hz0, hz1, hz2, rfl, by omega⟩
theorem el128 : Elem Try.prog 128 87 1 8 := by
  obtain ⟨i, hi, hz0, hz1, hz2⟩ := info_parts info87
  exact ⟨Try.underlying128, i, _, hi, hz0, hz1, hz2, rfl, by omega⟩
theorem el51 : Elem Try.prog 51 9 1 16 := by
  obtain ⟨i, hi, hz0, hz1, hz2⟩ := info_parts info9
  exact ⟨Try.underlying51, i, _, hi, hz0, hz1, hz2, rfl, by omega⟩

theorem own_form {w : World} {base n c : Nat} {e : TypeId} {size : Nat} {A : Option Addr} {xs : List Value} (h : w.ownsRow base e size (.slice A n c) n xs) : n ≤ c ∧ c ≤ maxLen ∧ (n = 0 ∨ ∃ g, A = some ⟨g, 0, none⟩) := by
  rcases h.2 with ⟨h1, h2⟩ | ⟨g, cap, cur, h1, h2⟩
  · injection h1 with _ _ h1
    exact ⟨by omega, by omega, .inl h2⟩
  · injection h1 with h0 _ h1
    exact ⟨by omega, by omega, .inr ⟨g, h0⟩⟩

theorem valC_of_own {w : World} {base c : Nat} {ok : Nat → Prop} {A : Option Addr} {l : List UInt8} (h : w.ownsRow base 5 1 (.slice A l.length c) l.length (l.map bv)) (hl : l.length ≤ 140737488351232) (hg : ∀ g, (Value.slice A l.length c).ownBlock = some g → ok g) : ValC w ok (.slice A l.length c) l := by
  obtain ⟨h1, h2, h3⟩ := own_form h
  refine ⟨A, c, rfl, hl, h1, h2, ?_⟩
  rcases h3 with h3 | ⟨g, rfl⟩
  · exact .inl (by rw [List.length_eq_zero_iff.1 h3]; rfl)
  · refine .inr ⟨g, 0, rfl, hg g rfl, fun j u hj => ?_⟩
    have hjl := (List.getElem?_eq_some_iff.1 hj).1
    rw [Nat.zero_add, h.cellAt j (by simpa using hjl)]
    exact hj

/-- propsC_of_own, at the type of the package's properties. -/
theorem props_of_own70 {w : World} {base k c : Nat} {e : TypeId} {ok ok' : Nat → Prop} {A : Option Addr} {ps : List Pr} {ts : List (Value × Value)} (h : w.ownsRow base e 2 (.slice A k c) k (ts.flatMap duo)) (hE : Each (PrC w ok) ps ts) (hk : ps.length = k)
    (hl : ps.length * 40 ≤ 140737488351232) (ho : ∀ b, ok b → ok' b) (hg : ∀ g, (Value.slice A k c).ownBlock = some g → ok' g) : PropsC w ok' (.slice A k c) ps := by
  subst hk
  obtain ⟨h1, h2, h3⟩ := own_form h
  refine ⟨A, c, ts, rfl, hl, h1, h2, hE.imp fun _ _ h => h.mono (Same.refl ok w) ho, ?_⟩
  rcases h3 with h3 | ⟨g, rfl⟩
  · exact .inl (List.length_eq_zero_iff.1 h3)
  · exact .inr ⟨g, 0, rfl, hg g rfl, own_duo h⟩
end Go.Proofs.Ytlbhadggfipckaa

set_option linter.unusedVariables false
set_option linter.unusedSimpArgs false
namespace Go.Proofs.Ytlbhadggfipckaa
open Go.RowKit

theorem own_below {w w' : World} {base n : Nat} {e : TypeId} {size : Nat} {v : Value} {xs : List Value} {o : Obj} (h : w.ownsRow base e size v n xs) (hb : Below (w.alloc o).drew.heap.size (w.alloc o).drew w') : w'.ownsRow base e size v n xs :=
  own_keep ((h.alloc o).drew) fun g hg => hb.block g (by have := h.lt g hg; simp; omega)

def GivenPost (w : World) (n : Nd) (e : Ending) (w' : World) : Prop :=
  ∃ lt : LT, e = .returned (.pointer (some ⟨lt.b, 0, none⟩)) ∧ lt.erase = n ∧ PN w' (Rng w w') lt ∧ Below w.heap.size w w' ∧ lt.flat.Nodup ∧ ∀ x ∈ lt.flat, Rng w w' x

def GInv1 (w : World) (name : ByteArray) (ps : List Pr) (box : Array Value) (k : Nat) (wr : World) : Prop :=
  ∃ A c ts, Below w.heap.size w wr ∧ w.heap.size + 2 ≤ wr.heap.size ∧ Cs wr w.heap.size box ∧ Cs wr (w.heap.size + 1) #[.string name, .slice A k c, .slice none 0 0] ∧
    wr.ownsRow (w.heap.size + 2) 70 2 (.slice A k c) k (ts.flatMap duo) ∧ Each (PrC wr (OkR (w.heap.size + 2) wr (Value.slice A k c).ownBlock)) (ps.take k) ts

def GInv2 (w : World) (name : ByteArray) (ps : List Pr) (ks : List Nd) (box : Array Value) (k : Nat) (wr : World) : Prop :=
  ∃ A c, ∃ lts : List LT, ∃ vp, Below w.heap.size w wr ∧ w.heap.size + 2 ≤ wr.heap.size ∧ Cs wr w.heap.size box ∧ Cs wr (w.heap.size + 1) #[.string name, vp, .slice A k c] ∧
    wr.ownsRow (w.heap.size + 2) 87 1 (.slice A k c) k (lts.map fun x => .pointer (some ⟨x.b, 0, none⟩)) ∧ PropsC wr (OkR (w.heap.size + 2) wr (Value.slice A k c).ownBlock) vp ps ∧
    lts.map LT.erase = ks.take k ∧ (∀ x ∈ lts, PN wr (OkR (w.heap.size + 2) wr (Value.slice A k c).ownBlock) x) ∧ (lts.flatMap LT.flat).Nodup ∧ ∀ x ∈ lts.flatMap LT.flat, w.heap.size + 2 ≤ x ∧ x < wr.heap.size

theorem flat_snoc {a b : List Nat} {lo n : Nat} (ha : a.Nodup) (hb : b.Nodup) (h1 : ∀ x ∈ a, lo ≤ x ∧ x < n) (h2 : ∀ x ∈ b, n ≤ x) : (a ++ b).Nodup := by
  rw [List.nodup_append]
  refine ⟨ha, hb, fun x hx y hy => ?_⟩
  have := h1 x hx
  have := h2 y hy
  omega

theorem given_fin {w wr : World} {name : ByteArray} {ps : List Pr} {ks : List Nd} {A : Option Addr} {c : Nat} {lts : List LT} {vp : Value} (hns : name.size ≤ 140737488351232) (hk1 : ks.length * 64 ≤ 140737488351232) (hF : Below w.heap.size w wr) (hz : w.heap.size + 2 ≤ wr.heap.size)
    (q : Cs wr (w.heap.size + 1) #[.string name, vp, .slice A ks.length c]) (hown : wr.ownsRow (w.heap.size + 2) 87 1 (.slice A ks.length c) ks.length (lts.map fun x => .pointer (some ⟨x.b, 0, none⟩))) (hpr : PropsC wr (OkR (w.heap.size + 2) wr (Value.slice A ks.length c).ownBlock) vp ps)
    (hm : lts.map LT.erase = ks.take ks.length ∧ (∀ x ∈ lts, PN wr (OkR (w.heap.size + 2) wr (Value.slice A ks.length c).ownBlock) x) ∧ (lts.flatMap LT.flat).Nodup ∧ ∀ x ∈ lts.flatMap LT.flat, w.heap.size + 2 ≤ x ∧ x < wr.heap.size) :
    GivenPost w (.mk name ps ks) (.returned (.pointer (some ⟨w.heap.size + 1, 0, none⟩))) wr := by
  obtain ⟨m1, m2, m3, m4⟩ := hm
  rw [List.take_length] at m1
  have hlen : lts.length = ks.length := by rw [← m1]; simp
  have ho : ∀ b, OkR (w.heap.size + 2) wr (Value.slice A ks.length c).ownBlock b → Rng w wr b := fun b hb => ⟨by have := hb.1; omega, hb.2.1⟩
  obtain ⟨o1, o2, o3⟩ := own_form hown
  refine ⟨.mk (w.heap.size + 1) name ps lts, rfl, by simp only [LT.erase]; rw [eraseL_eq, m1], ?_, hF, ?_, ?_⟩
  · refine PN.mk (A := A) (c := c) (vp := vp) ⟨by omega, by omega⟩ hns (by rw [hlen]; exact q) (hpr.mono (Same.refl _ _) ho) (by omega) (by omega) o2 (fun k hk => (m2 k hk).mono (Same.refl _ _) ho) ?_
    rcases o3 with o3 | ⟨g, rfl⟩
    · exact .inl (List.length_eq_zero_iff.1 (by omega))
    · refine .inr ⟨g, 0, rfl, ⟨by have := (hown.lt g rfl).1; omega, (hown.lt g rfl).2⟩, fun i k hi => ?_⟩
      have hil := (List.getElem?_eq_some_iff.1 hi).1
      rw [Nat.zero_add, hown.cellAt i (by omega), List.getElem?_map, hi]
      rfl
  · simp only [LT.flat, flatL_eq]
    refine List.nodup_cons.2 ⟨fun h => ?_, m3⟩
    have := m4 _ h
    omega
  · intro x hx
    simp only [LT.flat, flatL_eq] at hx
    rcases List.mem_cons.1 hx with rfl | h
    · exact ⟨by omega, by omega⟩
    · have := m4 _ h
      exact ⟨by omega, by omega⟩

set_option maxHeartbeats 4000000 in
theorem given_walk (n : Nd) : ∀ (w : World) (ok : Nat → Prop) (t : Value × Value × Value), (∀ k, ok k → k < w.heap.size) → NodeC w ok n t → Calls Try.prog 37 #[.agg #[t.1, t.2.1, t.2.2]] w (GivenPost w n) := by
  refine Nd.ind (P := fun n => ∀ (w : World) (ok : Nat → Prop) (t : Value × Value × Value), (∀ k, ok k → k < w.heap.size) → NodeC w ok n t → Calls Try.prog 37 #[.agg #[t.1, t.2.1, t.2.2]] w (GivenPost w n)) ?_ n
  intro name ps ks IH w ok t hok hn
  obtain ⟨vp, vk, rfl, hns, hps, hks⟩ := hn.open_
  obtain ⟨Ap, cp, ts, rfl, hp1, hp2, hp3, hp4, hp5⟩ := hps
  obtain ⟨Ak, ck, us, rfl, hk1, hk2, hk3, hk4, hk5⟩ := hks
  have Hp4 := Lib.hid hp4
  have Hp5 := Lib.hid hp5
  have Hk4 := Lib.hid hk4
  have Hk5 := Lib.hid hk5
  have IH := Lib.hid IH
  clear hp4 hp5 hk4 hk5 hn
  go_enter Try.func37, Try.ntmps37
  go_wp2_with fail
  go_loopw [15] (fun i wr => ∃ k : Nat, k ≤ ps.length ∧ i = .int .i64 k ∧ GInv1 w name ps #[.string name, .slice Ap ps.length cp, .slice Ak ks.length ck] k wr) (fun i _ => ps.length - (intOf i).toNat)
  case atStart =>
    exact ⟨0, by omega, by go_num, none, 0, [], ((Below.refl _ _).alloc (by omega) _).alloc (by simp) _, by simp, (Cs.new' _ _ _ _ rfl).alloc _, Cs.new' _ _ _ _ (by simp), ⟨by simp, .inl ⟨rfl, rfl⟩⟩, Each.nil⟩
  case round =>
    obtain ⟨k, hk, rfl, A, c, ts', hF, hz, q1, q2, hown, hE⟩ := hrel
    have z1 := q1.lt
    have z2 := q2.lt
    by_cases hlt : k < ps.length
    · have hne : ps ≠ [] := by rintro rfl; simp at hlt
      obtain ⟨b, o, rfl, hob, hD⟩ := Hp5.out.resolve_left hne
      have hp4 := Hp4.out
      have hkp : ps[k]? = some ps[k] := List.getElem?_eq_getElem hlt
      have hlt2 : k < ts.length := by rw [← hp4.1]; exact hlt
      have hkt : ts[k]? = some (ts[k]'hlt2) := List.getElem?_eq_getElem hlt2
      obtain ⟨e1, pn, hval⟩ := hp4.2 k _ _ hkp hkt
      obtain ⟨Av, cv, e3, v1, v2, v3, v4⟩ := id hval
      obtain ⟨d1, d2⟩ := hD k _ hkt
      have hbo := hok b hob
      have tr : ∀ y, w.cell? ⟨b, y, none⟩ = wr.cell? ⟨b, y, none⟩ := fun y => (World.cell?_of_block (a := ⟨b, y, none⟩) (hF.block b hbo)).symm
      rw [e3] at hval
      rw [tr, e1] at d1
      rw [tr, e3] at d2
      have v4s : SlB wr (.slice Av ps[k].val.length cv) ps[k].val := (hval.mono (Same.of_below hF hok) (fun _ h => h)).slB
      generalize hpk : ps[k] = pk at *
      clear e1 e3 hkt hkp hD hp4 v4 tr hval
      have Hpk := Lib.hid hpk
      have HF := Lib.hid hF
      have HE := Lib.hid hE
      have Hq := Lib.hid (And.intro q1 q2)
      have c11 := q2.cell 1
      have f11 := q2.frozen 1
      simp at c11
      have hbl : b < wr.heap.size := by omega
      have hki : (0 : Int) ≤ (k : Int) := by omega
      clear hpk hF hE q1 q2
      go_wp2_with fail
      refine wp_region_seq (fun w' => w'.cell? ⟨w.heap.size + 1, 1, none⟩ = some (.slice A k c) ∧ w'.cell? ⟨wr.heap.size, 0, none⟩ = some (.string pk.name) ∧ w'.cell? ⟨wr.heap.size, 1, none⟩ = some (.slice Av pk.val.length cv)) 15
        [(0, true), (1, true), (2, true), (3, true), (4, true), (5, true), (6, true), (7, true), (8, true), (9, false), (10, true), (11, false), (12, false), (13, true), (14, true), (15, false)] (by kernel_rfl) (by kernel_rfl) (by simp [go_sem, World.cell?_alloc_lt, c11, *]) ?_
      simp only [opsIn, List.map_cons, List.map_nil, List.getElem?_toArray, List.getElem?_cons_zero, List.getElem?_cons_succ, Option.getD_some, Nat.reduceBEq]
      iterate 9
        refine' Seq.quiet (by rfl) ?_ ?_
        rotate_left
        · rintro w' ⟨hS1, hS2, hS3⟩
          go_simp
          try with_reducible rfl
        try simp only [Act.put, List.setIfInBounds_toArray, List.set_cons_zero, List.set_cons_succ]
      refine Seq.eff ?_ ?_
      · rfl
      intro K hK
      go_simp
      refine (clone_any _ (.slice Av pk.val.length cv) pk.val (v4s.below (((Below.refl wr.heap.size wr).alloc (Nat.le_refl _) _).drew)) (by omega)).mono ?_
      rintro e w1 ⟨v, rfl, hv, hb⟩
      obtain ⟨A5, c5, rfl⟩ := own_slice hv
      have s1z := hb.size
      simp at s1z
      have e0 : w1.cell? ⟨w.heap.size + 1, 1, none⟩ = some (.slice A k c) := (hb.cell (by simp; omega)).trans (by simp [go_sem, World.cell?_alloc_lt, c11, *])
      have e1 : w1.cell? ⟨wr.heap.size, 0, none⟩ = some (.string pk.name) := (hb.cell (by simp)).trans (by simp [go_sem])
      have e2 : w1.cell? ⟨wr.heap.size, 1, none⟩ = some (.slice Av pk.val.length cv) := (hb.cell (by simp)).trans (by simp [go_sem])
      refine hK.out _ _ (.inr ⟨e0, e1, e2⟩) ?_
      clear hK K
      try simp only [Act.put, List.setIfInBounds_toArray, List.set_cons_zero, List.set_cons_succ]
      refine' Seq.quiet (by rfl) ?_ ?_
      rotate_left
      · rintro w' ⟨hS1, hS2, hS3⟩
        go_simp
        try with_reducible rfl
      try simp only [Act.put, List.setIfInBounds_toArray, List.set_cons_zero, List.set_cons_succ]
      refine Seq.eff ?_ ?_
      · rfl
      intro K hK
      go_simp
      have hb1 : w.heap.size + 1 < w1.heap.size := by omega
      have hb2 : wr.heap.size < w1.heap.size := by omega
      refine hK.out _ _ (.inr ⟨(World.cell?_alloc_lt _ _ _ hb1).trans e0, (World.cell?_alloc_lt _ _ _ hb2).trans e1, (World.cell?_alloc_lt _ _ _ hb2).trans e2⟩) ?_
      clear hK K
      try simp only [Act.put, List.setIfInBounds_toArray, List.set_cons_zero, List.set_cons_succ]
      refine Seq.eff ?_ ?_
      · rfl
      intro K hK
      refine wp_append_el el127 (.tmp 23) (.tmp 30) rfl (w.heap.size + 2) (.slice A k c) k (ts'.flatMap duo) rfl ((own_below hown hb).alloc _) (some ⟨w1.heap.size, 0, none⟩) 1 1 [.string pk.name, .slice A5 pk.val.length c5] rfl (by simp)
        ((Cs.new _ _ _).rd rfl) (by simp [Value.oneCell']) (by omega) (by omega) (by simp; omega) ?_
      intro v' w2 hown1 hgrow hnil hat
      obtain ⟨A', c', rfl⟩ := own_slice hown1
      clear hnil
      have s2z := hgrow.size
      simp at s2z
      have hrow : some wr.heap.size ≠ (Value.slice A k c).ownBlock := fun e => by have := (hown.lt _ e.symm).2; omega
      have hN2 : some (w.heap.size + 1) ≠ (Value.slice A k c).ownBlock := own_ne hown (by omega)
      have hk2 : ∀ b o, b < wr.heap.size + 1 → some b ≠ (Value.slice A k c).ownBlock → w2.cell? ⟨b, o, none⟩ = w1.cell? ⟨b, o, none⟩ := fun b o h1 h2 =>
        (World.cell?_of_block (a := ⟨b, o, none⟩) (hgrow.block b (by simp; omega) h2)).trans (World.cell?_alloc_lt _ _ _ (by simp; omega))
      have q2' := ((((Hq.out.2.alloc _).drew.below hb (by simp; omega)).alloc _).grown hgrow hN2)
      have hf11 : w2.frozen? ⟨w.heap.size + 1, 1, none⟩ = false := q2'.frozen 1
      have g0 : w2.cell? ⟨w.heap.size + 1, 1, none⟩ = some (.slice A k c) := (hk2 _ _ (by omega) hN2).trans e0
      refine hK.out _ _ (.inr ⟨g0, (hk2 _ _ (by omega) hrow).trans e1, (hk2 _ _ (by omega) hrow).trans e2⟩) ?_
      clear hK K
      try simp only [Act.put, List.setIfInBounds_toArray, List.set_cons_zero, List.set_cons_succ]
      iterate 2
        refine' Seq.quiet (by rfl) ?_ ?_
        rotate_left
        · rintro w' ⟨hS1, hS2, hS3⟩
          go_simp
          try with_reducible rfl
        try simp only [Act.put, List.setIfInBounds_toArray, List.set_cons_zero, List.set_cons_succ]
      refine Seq.last ?_ ?_
      · rfl
      intro K hK
      go_simp
      refine hK.out _ _ ?_
      clear hK K
      obtain ⟨a1, a2, a3, a4, a5, a6, a7⟩ := app_frame (q := w.heap.size + 1) (j := 1) (u := .slice A' (k + 1) c') hown (by omega) hz hb hgrow hat
      have HFIN := Lib.hid (show GInv1 w name ps #[.string name, .slice (some ⟨b, o, none⟩) ps.length cp, .slice Ak ks.length ck] (k + 1) (w2.setCell ⟨w.heap.size + 1, 1, none⟩ (.slice A' (k + 1) c')) from ⟨A', c', ts' ++ [(.string pk.name, .slice A5 pk.val.length c5)], HF.out.trans (a7 _ (by omega)), by simp [World.setCell]; omega, Hq.out.1.keep (a5 _ (by omega) (by omega)), q2'.set_ 1 _,
        by rw [List.flatMap_append]; exact ownsRow_setCell_below hown1 (a := ⟨w.heap.size + 1, 1, none⟩) (by simp) _,
        by
          rw [List.take_succ_eq_append_getElem hlt, Hpk.out]
          exact (HE.out.imp fun _ _ h => h.mono a1 a2).snoc ⟨rfl, pn, (valC_of_own hv (by omega) (fun g hg => hv.lt g hg)).mono a3 a4⟩⟩)
      clear a1 a2 a3 a4 a5 a6 a7 hv hb hown1 hgrow hat q2' hk2
      go_wp2_with fail
      exact ⟨⟨k + 1, by omega, by go_num, HFIN.out⟩, by simp [intOf]; omega⟩
    · obtain rfl : k = ps.length := by omega
      obtain ⟨wo, rfl⟩ : ∃ wo : World, wo = wr := ⟨_, rfl⟩
      rw [List.take_length] at hE
      have c02 := q1.cell 2
      simp at c02
      have hpr : PropsC wo (OkR (w.heap.size + 2) wo none) (.slice A ps.length c) ps := props_of_own70 hown hE rfl hp1 (fun b hb => ⟨hb.1, hb.2.1, by simp⟩) (fun g hg => ⟨(hown.lt g hg).1, (hown.lt g hg).2, by simp⟩)
      have HF := Lib.hid hF
      have Hpr := Lib.hid hpr
      have Hq := Lib.hid (And.intro q1 q2)
      clear hF hE q1 q2 hpr hown
      go_wp2_with fail
      go_loopw [38] (fun i wr => ∃ k : Nat, k ≤ ks.length ∧ i = .int .i64 k ∧ GInv2 w name ps ks #[.string name, .slice Ap ps.length cp, .slice Ak ks.length ck] k wr) (fun i _ => ks.length - (intOf i).toNat)
      case atStart =>
        exact ⟨0, by omega, by go_num, none, 0, [], .slice A ps.length c, HF.out, hz, Hq.out.1, Hq.out.2, World.ownsRow_nil _ _ _ _, Hpr.out, rfl, by simp, by simp, by simp⟩
      case round =>
        clear HF Hpr Hq c02 hz z1 z2
        obtain ⟨k, hk, rfl, A, c, lts, vp, hF, hz, q1, q2, hown, hpr, hm⟩ := hrel
        obtain ⟨Ap2, cp2, -, rfl, -⟩ := id hpr
        have z1 := q1.lt
        have z2 := q2.lt
        have HF := Lib.hid hF
        have Hpr := Lib.hid hpr
        have Hm := Lib.hid hm
        have Hq := Lib.hid (And.intro q1 q2)
        have c12 := q2.cell 2
        have f12 := q2.frozen 2
        simp at c12
        clear hpr hm q1 q2
        by_cases hlt : k < ks.length
        · have hne : ks ≠ [] := by rintro rfl; simp at hlt
          obtain ⟨b, o, rfl, hob, hD⟩ := Hk5.out.resolve_left hne
          have hk4 := Hk4.out
          have hkp : ks[k]? = some ks[k] := List.getElem?_eq_getElem hlt
          have hlt2 : k < us.length := by rw [← hk4.1]; exact hlt
          have hkt : us[k]? = some (us[k]'hlt2) := List.getElem?_eq_getElem hlt2
          have hN := hk4.2 k _ _ hkp hkt
          obtain ⟨d1, d2, d3⟩ := hD k _ hkt
          have hbo := hok b hob
          have tr : ∀ x, w.cell? ⟨b, x, none⟩ = wr.cell? ⟨b, x, none⟩ := fun x => (World.cell?_of_block (a := ⟨b, x, none⟩) (hF.block b hbo)).symm
          rw [tr] at d1 d2 d3
          generalize us[k]'hlt2 = tk at *
          obtain ⟨s1, A3, n3, c3, A4, n4, c4, rfl⟩ := hN.form
          simp only at d1 d2 d3
          have hbl : b < wr.heap.size := by omega
          have hki : (0 : Int) ≤ (k : Int) := by omega
          have hI := IH.out ks[k] (List.getElem_mem hlt) (wr.alloc (.cells #[.string s1, .slice A3 n3 c3, .slice A4 n4 c4] 38)).drew ok _ (fun x hx => by have := hok x hx; simp; omega) (NodeC.mono (Same.of_below ((hF.alloc (by omega) _).drew) hok) (fun _ h => h) hN)
          have HI := Lib.hid hI
          clear hkt hkp hD hk4 hN hI tr hF
          go_wp2_with fail
          refine wp_region_seq (fun w' => w'.cell? ⟨w.heap.size + 1, 2, none⟩ = some (.slice A k c) ∧ w'.cell? ⟨wr.heap.size, 0, none⟩ = some (.string s1) ∧ w'.cell? ⟨wr.heap.size, 1, none⟩ = some (.slice A3 n3 c3) ∧ w'.cell? ⟨wr.heap.size, 2, none⟩ = some (.slice A4 n4 c4)) 11
            [(0, true), (1, true), (2, true), (3, true), (4, true), (5, true), (6, false), (7, false), (8, false), (9, true), (10, true), (11, false)] (by kernel_rfl) (by kernel_rfl) (by simp [go_sem, World.cell?_alloc_lt, c12, *]) ?_
          simp only [opsIn, List.map_cons, List.map_nil, List.getElem?_toArray, List.getElem?_cons_zero, List.getElem?_cons_succ, Option.getD_some, Nat.reduceBEq]
          iterate 6
            refine' Seq.quiet (by rfl) ?_ ?_
            rotate_left
            · rintro w' ⟨hS1, hS2, hS3, hS4⟩
              go_simp
              try with_reducible rfl
            try simp only [Act.put, List.setIfInBounds_toArray, List.set_cons_zero, List.set_cons_succ]
          refine Seq.eff ?_ ?_
          · rfl
          intro K hK
          go_simp
          refine HI.out.mono ?_
          rintro e w1 ⟨lt, rfl, her, hpn, hb, hnd, hfl⟩
          have s1z := hb.size
          simp at s1z
          have e0 : w1.cell? ⟨w.heap.size + 1, 2, none⟩ = some (.slice A k c) := (hb.cell (by simp; omega)).trans (by simp [go_sem, World.cell?_alloc_lt, c12, *])
          have e1 : w1.cell? ⟨wr.heap.size, 0, none⟩ = some (.string s1) := (hb.cell (by simp)).trans (by simp [go_sem])
          have e2 : w1.cell? ⟨wr.heap.size, 1, none⟩ = some (.slice A3 n3 c3) := (hb.cell (by simp)).trans (by simp [go_sem])
          have e3 : w1.cell? ⟨wr.heap.size, 2, none⟩ = some (.slice A4 n4 c4) := (hb.cell (by simp)).trans (by simp [go_sem])
          refine hK.out _ _ (.inr ⟨e0, e1, e2, e3⟩) ?_
          clear hK K
          try simp only [Act.put, List.setIfInBounds_toArray, List.set_cons_zero, List.set_cons_succ]
          refine Seq.eff ?_ ?_
          · rfl
          intro K hK
          go_simp
          have hb1 : w.heap.size + 1 < w1.heap.size := by omega
          have hb2 : wr.heap.size < w1.heap.size := by omega
          refine hK.out _ _ (.inr ⟨(World.cell?_alloc_lt _ _ _ hb1).trans e0, (World.cell?_alloc_lt _ _ _ hb2).trans e1, (World.cell?_alloc_lt _ _ _ hb2).trans e2, (World.cell?_alloc_lt _ _ _ hb2).trans e3⟩) ?_
          clear hK K
          try simp only [Act.put, List.setIfInBounds_toArray, List.set_cons_zero, List.set_cons_succ]
          refine Seq.eff ?_ ?_
          · rfl
          intro K hK
          refine wp_append_el el128 (.tmp 46) (.tmp 49) rfl (w.heap.size + 2) (.slice A k c) k (lts.map fun x => .pointer (some ⟨x.b, 0, none⟩)) rfl ((own_below hown hb).alloc _) (some ⟨w1.heap.size, 0, none⟩) 1 1 [.pointer (some ⟨lt.b, 0, none⟩)] rfl (by simp)
            ((Cs.new _ _ _).rd rfl) (by simp [Value.oneCell']) (by omega) (by omega) (by simp; omega) ?_
          intro v' w2 hown1 hgrow hnil hat
          obtain ⟨A', c', rfl⟩ := own_slice hown1
          clear hnil
          have s2z := hgrow.size
          simp at s2z
          have hrow : some wr.heap.size ≠ (Value.slice A k c).ownBlock := fun e => by have := (hown.lt _ e.symm).2; omega
          have hN2 : some (w.heap.size + 1) ≠ (Value.slice A k c).ownBlock := own_ne hown (by omega)
          have hk2 : ∀ b o, b < wr.heap.size + 1 → some b ≠ (Value.slice A k c).ownBlock → w2.cell? ⟨b, o, none⟩ = w1.cell? ⟨b, o, none⟩ := fun b o h1 h2 =>
            (World.cell?_of_block (a := ⟨b, o, none⟩) (hgrow.block b (by simp; omega) h2)).trans (World.cell?_alloc_lt _ _ _ (by simp; omega))
          have q2' := ((((Hq.out.2.alloc _).drew.below hb (by simp; omega)).alloc _).grown hgrow hN2)
          have hf11 : w2.frozen? ⟨w.heap.size + 1, 2, none⟩ = false := q2'.frozen 2
          have g0 : w2.cell? ⟨w.heap.size + 1, 2, none⟩ = some (.slice A k c) := (hk2 _ _ (by omega) hN2).trans e0
          refine hK.out _ _ (.inr ⟨g0, (hk2 _ _ (by omega) hrow).trans e1, (hk2 _ _ (by omega) hrow).trans e2, (hk2 _ _ (by omega) hrow).trans e3⟩) ?_
          clear hK K
          try simp only [Act.put, List.setIfInBounds_toArray, List.set_cons_zero, List.set_cons_succ]
          iterate 2
            refine' Seq.quiet (by rfl) ?_ ?_
            rotate_left
            · rintro w' ⟨hS1, hS2, hS3, hS4⟩
              go_simp
              try with_reducible rfl
            try simp only [Act.put, List.setIfInBounds_toArray, List.set_cons_zero, List.set_cons_succ]
          refine Seq.last ?_ ?_
          · rfl
          intro K hK
          go_simp
          refine hK.out _ _ ?_
          clear hK K
          obtain ⟨a1, a2, a3, a4, a5, a6, a7⟩ := app_frame (q := w.heap.size + 1) (j := 2) (u := .slice A' (k + 1) c') hown (by omega) hz hb hgrow hat
          have HFIN := Lib.hid (show GInv2 w name ps ks #[.string name, .slice Ap ps.length cp, .slice (some ⟨b, o, none⟩) ks.length ck] (k + 1) (w2.setCell ⟨w.heap.size + 1, 2, none⟩ (.slice A' (k + 1) c')) from ⟨A', c', lts ++ [lt], .slice Ap2 ps.length cp2, HF.out.trans (a7 _ (by omega)), by simp [World.setCell]; omega, Hq.out.1.keep (a5 _ (by omega) (by omega)), q2'.set_ 2 _,
            by rw [List.map_append]; exact ownsRow_setCell_below hown1 (a := ⟨w.heap.size + 1, 2, none⟩) (by simp) _,
            Hpr.out.mono a1 a2,
            by rw [List.map_append, Hm.out.1, List.take_succ_eq_append_getElem hlt, List.map_cons, List.map_nil, her],
            fun x hx => (List.mem_append.1 hx).elim (fun h => (Hm.out.2.1 x h).mono a1 a2) (fun h => by rw [List.mem_singleton.1 h]; exact hpn.mono a3 a4),
            by
              rw [List.flatMap_append]
              exact flat_snoc Hm.out.2.2.1 (by simpa using hnd) Hm.out.2.2.2 (fun x hx => by have := (hfl x (by simpa using hx)).1; simp at this; omega),
            fun x hx => by
              rw [List.flatMap_append] at hx
              rcases List.mem_append.1 hx with h | h
              · have := Hm.out.2.2.2 x h; simp [World.setCell]; omega
              · have := hfl x (by simpa using h); unfold Rng at this; simp [World.setCell] at this ⊢; omega⟩)
          clear a1 a2 a3 a4 a5 a6 a7 hpn hnd hfl hb hown1 hgrow hat q2' hk2
          go_wp2_with fail
          exact ⟨⟨k + 1, by omega, by go_num, HFIN.out⟩, by simp [intOf]; omega⟩
        · obtain rfl : k = ks.length := by omega
          clear hF
          go_wp2_with fail
          go_ret
          exact given_fin hns hk1 HF.out hz Hq.out.2 hown Hpr.out Hm.out
end Go.Proofs.Ytlbhadggfipckaa
