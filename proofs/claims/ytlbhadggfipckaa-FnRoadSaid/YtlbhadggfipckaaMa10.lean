/-
  entryBytes.
  Plain data: strings and places in them, the bytes of a structure.
  The map from a name to its place.
  FDT.Write's first closure: the block of strings and the map of places.
  FDT.Write's first closure, walked.
  FDT.Write's second closure: the size of the structure.
-/
import Derived.Test.YtlbhadggfipckaaMa09
import Derived.Maps.OwnOps
import Derived.Maps.Views
import Derived.Test.YtlbhadggfipckaaMa01
import Derived.Deep.Cut
set_option linter.unusedVariables false
set_option linter.unusedSimpArgs false
namespace Go.Proofs.Ytlbhadggfipckaa
open Go.RowKit

/-- A room's sixteen bytes. -/
def be16 (r : Int × Int) : List UInt8 := [r.1 / 4294967296, r.1 % 4294967296, r.2 / 4294967296, r.2 % 4294967296].flatMap be4

theorem be16_len (rs : List (Int × Int)) : (rs.flatMap be16).length = 16 * rs.length := by
  induction rs with
  | nil => rfl
  | cons n ns ih => simp [be16, be4, ih]; omega

def EntPost (w : World) (rs : List (Int × Int)) (e : Ending) (w' : World) : Prop :=
  ∃ A c, e = .returned (.slice A (rs.flatMap be16).length c) ∧ w'.ownsRow w.heap.size 5 1 (.slice A (rs.flatMap be16).length c) (rs.flatMap be16).length ((rs.flatMap be16).map bv) ∧ Below w.heap.size w w'

set_option maxHeartbeats 1000000 in
theorem entry_walk (w : World) (A : Option Addr) (c : Nat) (rs : List (Int × Int)) (hr : rs = [] ∨ ∃ b o, A = some ⟨b, o, none⟩ ∧ b < w.heap.size ∧ DuoR w b o (rs.map roomC)) (hb : ∀ r ∈ rs, 0 ≤ r.1 ∧ r.1 ≤ 18446744073709551615 ∧ 0 ≤ r.2 ∧ r.2 ≤ 18446744073709551615) (hl : rs.length ≤ 100) :
    Calls Try.prog 75 #[.slice A rs.length c] w (EntPost w rs) := by
  have Hr := Lib.hid hr
  have Hb := Lib.hid hb
  clear hr hb
  go_enter Try.func75, Try.ntmps75
  go_wp2_with fail
  go_loopw [8, 3] (fun i x wr => ∃ k : Nat, k ≤ rs.length ∧ i = .int .i64 k ∧ ∃ A' c', x = .slice A' ((rs.take k).flatMap be16).length c' ∧ wr.ownsRow w.heap.size 5 1 (.slice A' ((rs.take k).flatMap be16).length c') ((rs.take k).flatMap be16).length (((rs.take k).flatMap be16).map bv) ∧ Below w.heap.size w wr) (fun i _ _ => rs.length - (intOf i).toNat)
  case atStart => exact ⟨0, by omega, by go_num, none, 0, rfl, World.ownsRow_nil _ _ _ _, Below.refl _ _⟩
  case round =>
    obtain ⟨k, hk, rfl, A', c', rfl, hown, hF⟩ := hrel
    by_cases hlt : k < rs.length
    · have hne : rs ≠ [] := by rintro rfl; simp at hlt
      obtain ⟨b, o, rfl, hbl, hD⟩ := Hr.out.resolve_left hne
      obtain ⟨d1, d2⟩ := hD k (roomC rs[k]) (by simp [hlt])
      have tr : ∀ y, w.cell? ⟨b, y, none⟩ = wr.cell? ⟨b, y, none⟩ := fun y => (World.cell?_of_block (a := ⟨b, y, none⟩) (hF.block b hbl)).symm
      rw [tr] at d1 d2
      have hB := Hb.out rs[k] (List.getElem_mem hlt)
      have hap : (rs.take (k + 1)).flatMap be16 = (rs.take k).flatMap be16 ++ be16 rs[k] := by
        rw [List.take_succ_eq_append_getElem hlt, List.flatMap_append]
        simp
      have hlen := be16_len (rs.take k)
      rw [List.length_take] at hlen
      generalize hL : (rs.take k).flatMap be16 = L at *
      generalize rs[k] = rk at *
      obtain ⟨ra, rz⟩ := rk
      simp only [roomC] at d1 d2 hB
      have hki : (0 : Int) ≤ (k : Int) := by omega
      have sz := hF.size
      have hbw : b < wr.heap.size := by omega
      have Hown := Lib.hid hown
      have HF := Lib.hid hF
      have Hap := Lib.hid hap
      clear hown hF hap hD tr
      have hlen' : L.length = 16 * k := by omega
      clear hlen
      go_wp2_with fail
      generalize hW : (wr.alloc (.cells #[.int .u64 ra, .int .u64 rz] 98)).alloc (.cells #[.int .u32 (ra / 4294967296), .int .u32 (ra % 4294967296), .int .u32 (rz / 4294967296), .int .u32 (rz % 4294967296)] 22) = W
      have hWs : W.heap.size = wr.heap.size + 2 := by rw [← hW]; simp
      have hWb : Below wr.heap.size wr W := by rw [← hW]; exact ((Below.refl _ _).alloc (Nat.le_refl _) _).alloc (by simp) _
      have hWc : Cs W (wr.heap.size + 1) #[.int .u32 (ra / 4294967296), .int .u32 (ra % 4294967296), .int .u32 (rz / 4294967296), .int .u32 (rz % 4294967296)] := by rw [← hW]; exact Cs.new' _ _ _ _ (by simp)
      have hWo : W.ownsRow w.heap.size 5 1 (.slice A' L.length c') L.length (L.map bv) := own_keep Hown.out fun g hg => hWb.block g (Hown.out.lt g hg).2
      clear hW
      have hI := app32_walk W w.heap.size A' c' L hWo (by omega) (some ⟨wr.heap.size + 1, 0, none⟩) 4 [ra / 4294967296, ra % 4294967296, rz / 4294967296, rz % 4294967296] (.inr ⟨wr.heap.size + 1, 0, rfl, ⟨by omega, fun e => by have := (Hown.out.lt _ e.symm).2; omega⟩, fun j u hu => by
        rw [Nat.zero_add, hWc.cell]
        simpa using hu⟩) (fun n hn => by
        simp only [List.mem_cons, List.not_mem_nil, or_false] at hn
        rcases hn with rfl | rfl | rfl | rfl <;> omega) (by simp only [List.length_cons, List.length_nil]; omega)
      rw [hlen'] at hI
      refine hI.mono ?_
      rintro e w1 ⟨A2, c2, rfl, hown, hf, -⟩
      have hown2 : w1.ownsRow w.heap.size 5 1 (.slice A2 ((rs.take (k + 1)).flatMap be16).length c2) ((rs.take (k + 1)).flatMap be16).length (((rs.take (k + 1)).flatMap be16).map bv) := by rw [Hap.out]; exact hown
      have hb2 : Below w.heap.size w w1 := (HF.out.trans (hWb.mono sz)).trans (hf.below (by omega) (fun x hx e => by
        have h1 := (Hown.out.lt x (by rw [hlen']; exact e.symm)).1
        omega))
      have hle2 : (L ++ be16 (ra, rz)).length = ((rs.take (k + 1)).flatMap be16).length := by rw [Hap.out]
      have HX := Lib.hid (And.intro hown2 hb2)
      have Hle2 := Lib.hid hle2
      clear hown2 hb2 hown hf hWc hWb hWo hI hle2
      go_wp2_with fail
      go_roundw
      case rel =>
        refine ⟨k + 1, hlt, by go_num, A2, c2, ?_, HX.out.1, HX.out.2⟩
        rw [← Hle2.out, List.length_append, hlen']
        rfl
      case measure => simp [intOf]; omega
    · obtain rfl : k = rs.length := by omega
      rw [List.take_length] at hown ⊢
      have hfin : EntPost w rs (.returned (.slice A' (rs.flatMap be16).length c')) wr := ⟨A', c', rfl, hown, hF⟩
      have HFIN := Lib.hid hfin
      clear hown hF hfin
      go_wp2_with fail
      go_ret
      exact HFIN.out
end Go.Proofs.Ytlbhadggfipckaa

set_option linter.unusedVariables false
set_option linter.unusedSimpArgs false
namespace Go.Proofs.Ytlbhadggfipckaa
open Go.RowKit

/-- The bytes of a text. -/
def bytesOf (s : ByteArray) : List UInt8 := s.data.toList

/-- At off, the strings have the text s and a nought behind it. -/
def Has (strs : List UInt8) (off : Nat) (s : ByteArray) : Prop := ∃ pre post, strs = pre ++ bytesOf s ++ 0 :: post ∧ pre.length = off

theorem Has.append {strs : List UInt8} {off : Nat} {s : ByteArray} (h : Has strs off s) (more : List UInt8) : Has (strs ++ more) off s := by
  obtain ⟨pre, post, rfl, rfl⟩ := h
  exact ⟨pre, post ++ more, by simp, rfl⟩

theorem Has.new (strs : List UInt8) (s : ByteArray) : Has (strs ++ bytesOf s ++ [0]) strs.length s := ⟨strs, [], by simp, rfl⟩

theorem Has.lt {strs : List UInt8} {off : Nat} {s : ByteArray} (h : Has strs off s) : off + s.size < strs.length := by
  obtain ⟨pre, post, rfl, rfl⟩ := h
  simp [bytesOf]

/-- A token, with nop tokens of nothing ahead. -/
def tok (nop : Nat) (n : Int) : List UInt8 := (List.replicate nop (be4 4)).flatten ++ be4 n

/-- Bytes with noughts up to a multiple of four. -/
def pad4 (l : List UInt8) : List UInt8 := l ++ pad 4 l.length

inductive EncP (strs : List UInt8) (nop : Nat) : List Pr → List UInt8 → Prop
  | nil : EncP strs nop [] []
  | cons {p : Pr} {ps : List Pr} {off : Nat} {r : List UInt8} (h : Has strs off p.name) (hr : EncP strs nop ps r) : EncP strs nop (p :: ps) (tok nop 3 ++ be4 p.val.length ++ be4 off ++ pad4 p.val ++ r)

mutual
inductive EncN (strs : List UInt8) (nop : Nat) : Nd → List UInt8 → Prop
  | mk {name : ByteArray} {ps : List Pr} {ks : List Nd} {bp bk : List UInt8} (hp : EncP strs nop ps bp) (hk : EncL strs nop ks bk) : EncN strs nop (.mk name ps ks) (tok nop 1 ++ pad4 (bytesOf name ++ [0]) ++ bp ++ bk ++ tok nop 2)
inductive EncL (strs : List UInt8) (nop : Nat) : List Nd → List UInt8 → Prop
  | nil : EncL strs nop [] []
  | cons {k : Nd} {ks : List Nd} {b r : List UInt8} (h : EncN strs nop k b) (hr : EncL strs nop ks r) : EncL strs nop (k :: ks) (b ++ r)
end

theorem EncP.snoc {strs : List UInt8} {nop : Nat} {p : Pr} {off : Nat} (h : Has strs off p.name) : ∀ {ps : List Pr} {r : List UInt8}, EncP strs nop ps r → EncP strs nop (ps ++ [p]) (r ++ (tok nop 3 ++ be4 p.val.length ++ be4 off ++ pad4 p.val))
  | _, _, .nil => by simpa using EncP.cons (nop := nop) h .nil
  | _, _, .cons h' hr => by
    have := EncP.cons h' (EncP.snoc h hr)
    simpa [List.append_assoc] using this

theorem EncL.snoc {strs : List UInt8} {nop : Nat} {k : Nd} {b : List UInt8} (h : EncN strs nop k b) : ∀ {ks : List Nd} {r : List UInt8}, EncL strs nop ks r → EncL strs nop (ks ++ [k]) (r ++ b)
  | _, _, .nil => by simpa using EncL.cons h .nil
  | _, _, .cons h' hr => by
    have := EncL.cons h' (EncL.snoc h hr)
    simpa [List.append_assoc] using this

theorem EncP.append {strs : List UInt8} {nop : Nat} (more : List UInt8) {ps : List Pr} {r : List UInt8} (h : EncP strs nop ps r) : EncP (strs ++ more) nop ps r := by
  induction h with
  | nil => exact .nil
  | cons h _ ih => exact .cons (h.append more) ih

mutual
theorem EncN.append {strs : List UInt8} {nop : Nat} (more : List UInt8) : ∀ {n : Nd} {r : List UInt8}, EncN strs nop n r → EncN (strs ++ more) nop n r
  | _, _, .mk hp hk => .mk (hp.append more) (EncL.append more hk)
theorem EncL.append {strs : List UInt8} {nop : Nat} (more : List UInt8) : ∀ {n : List Nd} {r : List UInt8}, EncL strs nop n r → EncL (strs ++ more) nop n r
  | _, _, .nil => .nil
  | _, _, .cons h hr => .cons (EncN.append more h) (EncL.append more hr)
end
end Go.Proofs.Ytlbhadggfipckaa

set_option linter.unusedVariables false
set_option linter.unusedSimpArgs false
namespace Go.Proofs.Ytlbhadggfipckaa
open Go.RowKit

theorem key9 : Maps.Keyed Try.prog 9 := Maps.string_keyed Try.underlying9
theorem zero22 (w : World) : (zeroValue 22).run Try.prog w = .ok (.int .u32 0) w := by kernel_rfl

/-- The place of a name. -/
def offOf (s : ByteArray) : List (ByteArray × Nat) → Option Nat
  | [] => none
  | p :: r => if p.1 = s then some p.2 else offOf s r

theorem lit_int_inj {a b : Int} (h : (DataW.lit (.int .u32 a) : DataW Unit) = .lit (.int .u32 b)) : a = b := (Lit.int.inj (DataW.lit.inj h)).2

theorem lit_str_ne {s u : ByteArray} (e : ¬ s = u) : (Lit.string s.data.toList) ≠ (Lit.string u.data.toList) := fun h => e (ByteArray.ext (Array.ext' (Lit.string.inj h)))

/-- The map at block m holds just the pairs S (the first one of a name counts). -/
def MapOff (w : World) (m : Nat) (S : List (ByteArray × Nat)) : Prop :=
  ∃ (n : Nat) (D : DataW Unit), w.ownsMap Try.prog 9 (plainElem Try.prog 22) m n D ∧ n ≤ S.length ∧ (∀ p ∈ S, p.2 ≤ 4294967295) ∧ ∀ (s : ByteArray) (zd : DataW Unit), D.atKey (.string s.data.toList) zd = match offOf s S with | some off => .lit (.int .u32 off) | none => zd

theorem MapOff.lt {w : World} {m : Nat} {S : List (ByteArray × Nat)} (h : MapOff w m S) : m < w.heap.size := by
  obtain ⟨n, D, h, -⟩ := h
  exact h.lt

theorem MapOff.keep {w w' : World} {m : Nat} {S : List (ByteArray × Nat)} (h : MapOff w m S) (hb : w'.heap[m]? = w.heap[m]?) : MapOff w' m S := by
  obtain ⟨n, D, ⟨es, clock, h1, h2, h3, h4⟩, rest⟩ := h
  exact ⟨n, D, ⟨es, clock, hb.trans h1, h2, h3, h4⟩, rest⟩

theorem MapOff.new (w : World) : MapOff (w.alloc (.map #[] 0)) w.heap.size [] := ⟨0, .map [], World.ownsMap_made _ _ _ _, by simp, by simp, fun s zd => rfl⟩

theorem MapOff.look {w : World} {m : Nat} {S : List (ByteArray × Nat)} (h : MapOff w m S) {s : ByteArray} (hs : s.size ≤ maxLen) (c : Bool) :
    (Instr.lookup 150 (.map (some m)) (.string s) c).run Try.prog w = .ok (if c then .tuple #[.int .u32 ((offOf s S).getD 0 : Nat), .bool (offOf s S).isSome] else .int .u32 ((offOf s S).getD 0 : Nat)) w := by
  obtain ⟨n, D, ⟨es, clock, h1, F, h3, h4⟩, hn, hb, hat⟩ := h
  have hkey := WideMaps.keyOf_string_mk (P := Try.prog) Try.underlying9 hs
  rcases Maps.fit_look c key9 Try.underlying150 (zero22 w) h1 F hkey with ⟨hrun, _, ha⟩ | ⟨e0, y, _, _, hrun, hR, ha, _⟩
  · rw [← h4] at ha
    have e1 := (ha .nil).symm.trans (hat s .nil)
    cases hl : offOf s S with
    | none => simpa using hrun
    | some off => rw [hl] at e1; cases e1
  · rw [← h4] at ha
    obtain ⟨a, hv, hy, _⟩ := plainElem_int_inv Try.underlying22 hR
    have e1 := (ha .nil).symm.trans (hat s .nil)
    rw [hy] at e1
    cases hl : offOf s S with
    | none => rw [hl] at e1; cases e1
    | some off =>
      rw [hl] at e1
      have e2 := lit_int_inj e1
      subst e2
      rw [hv] at hrun
      simpa using hrun

theorem MapOff.put {w : World} {m : Nat} {S : List (ByteArray × Nat)} (h : MapOff w m S) {s : ByteArray} (hs : s.size ≤ maxLen) {off : Nat} (ho : off ≤ 4294967295) (hl : S.length ≤ 1000000) :
    ∃ w', (Instr.mapUpdate 150 (.map (some m)) (.string s) (.int .u32 (off : Int))).run Try.prog w = .ok () w' ∧ MapOff w' m ((s, off) :: S) ∧ w.grownBy w' (some m) := by
  obtain ⟨n, D, hm, hn, hb, hat⟩ := h
  have hkey := WideMaps.keyOf_string_mk (P := Try.prog) Try.underlying9 hs
  have hD : Maps.IsMap D := by
    obtain ⟨es, clock, _, _, _, h4⟩ := id hm
    exact ⟨_, h4⟩
  have hwf : (Lit.int .u32 (off : Int)).wf = true := by simp [Lit.wf, IntKind.min, IntKind.max, IntKind.signed, IntKind.bits]; omega
  obtain ⟨w', hrun, hm', hg⟩ := hm.update key9 Try.underlying150 (by simp only [maxLen]; omega) hkey (plainElem_int (H := Unit) Try.underlying22 hwf)
  refine ⟨w', hrun, ⟨n + 1, _, hm', by simp; omega, fun p hp => ?_, fun s' zd => ?_⟩, hg⟩
  · rcases List.mem_cons.1 hp with rfl | hp
    · exact ho
    · exact hb p hp
  · by_cases e : s' = s
    · subst e
      rw [Maps.atKey_put_same hD (by simp [WideAt.IsKeyLit])]
      simp [offOf]
    · have hne := lit_str_ne e
      have e' : ¬ s = s' := fun h => e h.symm
      rw [Maps.atKey_put_other hne, hat s' zd]
      simp only [offOf]
      rw [if_neg e']
end Go.Proofs.Ytlbhadggfipckaa

set_option linter.unusedVariables false
set_option linter.unusedSimpArgs false
namespace Go.Proofs.Ytlbhadggfipckaa
open Go.RowKit

theorem conv_rd (W : World) (s : ByteArray) : Rd (Lib.bytesWorld W 5 s) (some ⟨W.heap.size, 0, none⟩) ((bytesOf s).map bv) := by
  refine .inr ⟨W.heap.size, 0, rfl, fun j v hv => ?_⟩
  have hj : j < s.size := by have := (List.getElem?_eq_some_iff.1 hv).1; simpa [bytesOf] using this
  have hget : s.data.toList[j]? = some s.data[j] := by
    rw [List.getElem?_eq_getElem (by simpa using hj)]
    rfl
  rw [Nat.zero_add, Lib.bytesWorld_cell W 5 s j hj]
  unfold bytesOf at hv
  rw [List.getElem?_map, hget] at hv
  rw [List.getD_eq_getElem?_getD, hget]
  exact hv

theorem conv_below (W : World) (s : ByteArray) : Below W.heap.size W (Lib.bytesWorld W 5 s) :=
  ⟨rfl, rfl, rfl, by rw [Lib.bytesWorld_size]; omega, fun k hk => Lib.bytesWorld_at_old W 5 s k hk⟩

/-- The row of a slice is none of these blocks. -/
def NR (v : Value) (mv sv m : Nat) : Prop := ∀ g, v.ownBlock = some g → g ≠ mv ∧ g ≠ sv ∧ g ≠ m

theorem NR.step {v v' : Value} {mv sv m n : Nat} (h : NR v mv sv m) (hat : v'.ownBlock = v.ownBlock ∨ v'.ownBlock = some n) (h1 : mv < n) (h2 : sv < n) (h3 : m < n) : NR v' mv sv m := fun g hg => by
  rcases hat with e | e
  · exact h g (e.symm.trans hg)
  · have := e.symm.trans hg
    injection this with this
    omega

/-- The state of the strings: the variables at blocks mv (the map) and sv (the strings). -/
def SB (w : World) (mv sv m lo : Nat) (S : List (ByteArray × Nat)) (strs : List UInt8) : Prop :=
  Cs w mv #[.map (some m)] ∧ MapOff w m S ∧ (∃ A c, Cs w sv #[.slice A strs.length c] ∧ w.ownsRow lo 5 1 (.slice A strs.length c) strs.length (strs.map bv) ∧ NR (.slice A strs.length c) mv sv m) ∧ (∀ s off, offOf s S = some off → Has strs off s) ∧
    mv ≠ sv ∧ mv ≠ m ∧ sv ≠ m ∧ lo ≤ w.heap.size ∧ S.length ≤ strs.length

/-- What was there stays there. -/
def More (S S' : List (ByteArray × Nat)) (strs strs' : List UInt8) : Prop := (∃ more, strs' = strs ++ more) ∧ ∀ s off, offOf s S = some off → offOf s S' = some off

theorem More.refl (S : List (ByteArray × Nat)) (strs : List UInt8) : More S S strs strs := ⟨⟨[], by simp⟩, fun _ _ h => h⟩
theorem More.trans {S S' S'' : List (ByteArray × Nat)} {a b c : List UInt8} (h : More S S' a b) (k : More S' S'' b c) : More S S'' a c := by
  obtain ⟨⟨x, rfl⟩, h2⟩ := h
  obtain ⟨⟨y, rfl⟩, k2⟩ := k
  exact ⟨⟨x ++ y, by simp⟩, fun s off hs => k2 s off (h2 s off hs)⟩
theorem More.new {S : List (ByteArray × Nat)} {strs : List UInt8} {s : ByteArray} {off : Nat} (hno : offOf s S = none) (more : List UInt8) : More S ((s, off) :: S) strs (strs ++ more) :=
  ⟨⟨more, rfl⟩, fun u o hu => by
    simp only [offOf]
    rw [if_neg (fun e => by rw [← e, hno] at hu; cases hu)]
    exact hu⟩
end Go.Proofs.Ytlbhadggfipckaa

set_option linter.unusedVariables false
set_option linter.unusedSimpArgs false
namespace Go.Proofs.Ytlbhadggfipckaa
open Go.RowKit

/-- the loop -/
def SInv (w : World) (mv sv m lo : Nat) (S0 : List (ByteArray × Nat)) (strs0 : List UInt8) (ps : List Pr) (k : Nat) (wr : World) : Prop :=
  ∃ S strs, SB wr mv sv m lo S strs ∧ More S0 S strs0 strs ∧ (∀ p ∈ ps.take k, (offOf p.name S).isSome = true) ∧ strs.length ≤ strs0.length + 32 * k ∧ Fr lo (fun x => x = mv ∨ x = sv ∨ x = m) w wr

def W1Post (w : World) (mv sv m lo : Nat) (S0 : List (ByteArray × Nat)) (strs0 : List UInt8) (ps : List Pr) (e : Ending) (w' : World) : Prop :=
  e = .returned .nilIface ∧ SInv w mv sv m lo S0 strs0 ps ps.length w'

theorem sv_after {w3 w4 : World} {sv lo n c3 : Nat} {A3 : Option Addr} {x : Value} {xs : List Value} (q3 : Cs w3 sv #[x]) (hown3 : w3.ownsRow lo 5 1 (.slice A3 n c3) n xs) (h7 : some sv ≠ (Value.slice A3 n c3).ownBlock)
    (hg : ((w3.setCell ⟨sv, 0, none⟩ (.slice A3 n c3)).alloc (.cells #[.int .u8 0] 5)).grownBy w4 (Value.slice A3 n c3).ownBlock) :
    Cs w4 sv #[.slice A3 n c3] ∧ w4.cell? ⟨sv, 0, none⟩ = some (.slice A3 n c3) ∧ w4.frozen? ⟨sv, 0, none⟩ = false := by
  have q : Cs (w3.setCell ⟨sv, 0, none⟩ (.slice A3 n c3)) sv #[.slice A3 n c3] := q3.set_ 0 _
  have q4 := (q.alloc (.cells #[.int .u8 0] 5)).grown hg h7
  exact ⟨q4, (q4.cell 0).trans rfl, q4.frozen 0⟩

theorem w1_fin {w wB w3 w4 : World} {mv sv m lo k c1 c3 c4 : Nat} {A1 A3 A4 : Option Addr} {S0 S : List (ByteArray × Nat)} {strs0 strs : List UInt8} {ps : List Pr} {pk : Pr}
    (j1 : Cs wB mv #[.map (some m)]) (j4 : wB.ownsRow lo 5 1 (.slice A1 strs.length c1) strs.length (strs.map bv)) (jF : Fr lo (fun x => x = mv ∨ x = sv ∨ x = m) w wB) (jm : MapOff wB m ((pk.name, strs.length) :: S))
    (hgrow3 : wB.grownBy w3 (Value.slice A1 strs.length c1).ownBlock) (hown3 : w3.ownsRow lo 5 1 (.slice A3 (strs.length + pk.name.size) c3) (strs.length + pk.name.size) (strs.map bv ++ (bytesOf pk.name).map bv))
    (q4 : Cs w4 sv #[.slice A3 (strs.length + pk.name.size) c3]) (hown4 : w4.ownsRow lo 5 1 (.slice A4 (strs.length + pk.name.size + 1) c4) (strs.length + pk.name.size + 1) (strs.map bv ++ (bytesOf pk.name).map bv ++ [.int .u8 0]))
    (hgrow4 : ((w3.setCell ⟨sv, 0, none⟩ (.slice A3 (strs.length + pk.name.size) c3)).alloc (.cells #[.int .u8 0] 5)).grownBy w4 (Value.slice A3 (strs.length + pk.name.size) c3).ownBlock)
    (h5 : ∀ s off, offOf s S = some off → Has strs off s) (hR : NR (.slice A1 strs.length c1) mv sv m) (h6 : mv < wB.heap.size) (h7 : sv < wB.heap.size) (h8 : m < wB.heap.size) (hat3 : (Value.slice A3 (strs.length + pk.name.size) c3).ownBlock = (Value.slice A1 strs.length c1).ownBlock ∨ (Value.slice A3 (strs.length + pk.name.size) c3).ownBlock = some wB.heap.size)
    (hat4 : (Value.slice A4 (strs.length + pk.name.size + 1) c4).ownBlock = (Value.slice A3 (strs.length + pk.name.size) c3).ownBlock ∨ (Value.slice A4 (strs.length + pk.name.size + 1) c4).ownBlock = some ((w3.setCell ⟨sv, 0, none⟩ (.slice A3 (strs.length + pk.name.size) c3)).alloc (.cells #[.int .u8 0] 5)).heap.size) (h9 : mv ≠ sv) (h10 : mv ≠ m) (h11 : sv ≠ m) (h12 : lo ≤ wB.heap.size) (h13 : S.length ≤ strs.length)
    (hmore : More S0 S strs0 strs) (hall : ∀ p ∈ ps.take k, (offOf p.name S).isSome = true) (hmem : ∀ q ∈ ps.take (k + 1), q ∈ ps.take k ∨ q = pk) (hoff : offOf pk.name S = none) (hsz : pk.name.size ≤ 31) (hsl : strs.length ≤ strs0.length + 32 * k) :
    SInv w mv sv m lo S0 strs0 ps (k + 1) (w4.setCell ⟨sv, 0, none⟩ (.slice A4 (strs.length + pk.name.size + 1) c4)) := by
  have hlen : (strs ++ bytesOf pk.name ++ [0]).length = strs.length + pk.name.size + 1 := by simp [bytesOf]; omega
  have hmap : (strs ++ bytesOf pk.name ++ [0]).map bv = strs.map bv ++ (bytesOf pk.name).map bv ++ [.int .u8 0] := by simp [bv]
  have s3 := hgrow3.size
  have s4 := hgrow4.size
  simp [World.setCell] at s4
  have hR3 := hR.step hat3 h6 h7 h8
  have hR4 := hR3.step hat4 (by simp [World.setCell]; omega) (by simp [World.setCell]; omega) (by simp [World.setCell]; omega)
  have key : ∀ b, b < wB.heap.size → b = mv ∨ b = m → b ≠ sv → (w4.setCell ⟨sv, 0, none⟩ (.slice A4 (strs.length + pk.name.size + 1) c4)).heap[b]? = wB.heap[b]? := fun b hb hbm hs => by
    have n1 : some b ≠ (Value.slice A1 strs.length c1).ownBlock := fun e => by have := hR b e.symm; omega
    have n3 : some b ≠ (Value.slice A3 (strs.length + pk.name.size) c3).ownBlock := fun e => by have := hR3 b e.symm; omega
    rw [Below.heap_setCell _ _ _ _ hs, hgrow4.block b (by simp [World.setCell]; omega) n3, Below.heap_alloc _ _ _ (by simp [World.setCell]; omega), Below.heap_setCell _ _ _ _ hs, hgrow3.block b hb n1]
  have hnew := More.new (strs := strs) hoff (off := strs.length) (bytesOf pk.name ++ [0])
  rw [← List.append_assoc] at hnew
  refine ⟨(pk.name, strs.length) :: S, strs ++ bytesOf pk.name ++ [0], ⟨j1.keep (key mv h6 (.inl rfl) h9), jm.keep (key m h8 (.inr rfl) (Ne.symm h11)), ⟨A4, c4, ?_, ?_, by rw [hlen]; exact hR4⟩, fun s off hs => ?_, h9, h10, h11, by simp [World.setCell]; omega, by simp; omega⟩, hmore.trans hnew, fun q hq => ?_, by rw [hlen]; omega, ?_⟩
  · rw [hlen]
    exact q4.set_ 0 _
  · rw [hlen, hmap]
    exact own_keep hown4 fun g hg => Below.heap_setCell _ _ _ _ (hR4 g hg).2.1
  · simp only [offOf] at hs
    split at hs
    · rename_i e
      cases hs
      rw [← e]
      exact Has.new strs pk.name
    · rw [List.append_assoc]
      exact (h5 s off hs).append _
  · simp only [offOf]
    split
    · rfl
    · rename_i e
      rcases hmem q hq with h | h
      · exact hall q h
      · exact absurd (by rw [h]) e
  · exact (((jF.grown hgrow3 h12 fun x hx => .inl (j4.lt x hx).1).setCell (.inr (.inr (.inl rfl))) _).alloc (by simp [World.setCell]; omega) _).grown hgrow4 (by simp [World.setCell]; omega) (fun x hx => .inl (hown3.lt x hx).1) |>.setCell (.inr (.inr (.inl rfl))) _

set_option maxHeartbeats 2000000 in
theorem w1_walk (w : World) (ok : Nat → Prop) (mv sv m lo : Nat) (S0 : List (ByteArray × Nat)) (strs0 : List UInt8) (lt : LT) (hok : ∀ k, ok k → k < lo ∧ k ≠ mv ∧ k ≠ sv ∧ k ≠ m) (hn : PN w ok lt) (hsb : SB w mv sv m lo S0 strs0) (b : Nat) (name : ByteArray) (ps : List Pr) (ks : List LT)
    (hlt : lt = .mk b name ps ks) (hnm : ∀ p ∈ ps, p.name.size ≤ 31) (hlen : strs0.length + 32 * ps.length ≤ 100000) :
    Calls Try.prog 68 #[.pointer (some ⟨b, 0, none⟩), .pointer (some ⟨mv, 0, none⟩), .pointer (some ⟨sv, 0, none⟩)] w (W1Post w mv sv m lo S0 strs0 ps) := by
  subst hlt
  obtain ⟨vp, A, c, hob, hns, hcs, hps, hl1, hl2, hl3, hks, hrow⟩ := hn.open_
  obtain ⟨Ap, cp, ts, rfl, hp1, hp2, hp3, hp4, hp5⟩ := hps
  have c1 := hcs.cell 1
  simp at c1
  have Hp4 := Lib.hid hp4
  have Hp5 := Lib.hid hp5
  have Hsb := Lib.hid hsb
  have Hnm := Lib.hid hnm
  clear hn hks hrow hcs hp4 hp5 hsb hnm
  go_enter Try.func68, Try.ntmps68
  go_wp2_with fail
  go_loopw [14] (fun i wr => ∃ k : Nat, k ≤ ps.length ∧ i = .int .i64 k ∧ SInv w mv sv m lo S0 strs0 ps k wr) (fun i _ => ps.length - (intOf i).toNat)
  case atStart =>
    exact ⟨0, by omega, by go_num, S0, strs0, Hsb.out, More.refl _ _, by simp, by omega, Fr.refl _ _ _⟩
  case round =>
    obtain ⟨k, hk, rfl, S, strs, ⟨h1, h2, ⟨A1, c1', h3, h4, hR⟩, h5, h9, h10, h11, h12, h13⟩, hmore, hall, hsl, hF⟩ := hrel
    clear c1
    by_cases hlt : k < ps.length
    · have hne : ps ≠ [] := by rintro rfl; simp at hlt
      obtain ⟨g, o, rfl, hog, hD⟩ := Hp5.out.resolve_left hne
      have hp4 := Hp4.out
      have hkp : ps[k]? = some ps[k] := List.getElem?_eq_getElem hlt
      have hlt2 : k < ts.length := by rw [← hp4.1]; exact hlt
      have hkt : ts[k]? = some (ts[k]'hlt2) := List.getElem?_eq_getElem hlt2
      obtain ⟨e1, pn, Av, cv, e3, -⟩ := hp4.2 k _ _ hkp hkt
      obtain ⟨d1, d2⟩ := hD k _ hkt
      obtain ⟨o1, o2, o3, o4⟩ := hok g hog
      rw [← hF.cell o1 (by simp; omega), e1] at d1
      rw [← hF.cell o1 (by simp; omega), e3] at d2
      have hsz := Hnm.out ps[k] (List.getElem_mem hlt)
      have hmem : ∀ q ∈ ps.take (k + 1), q ∈ ps.take k ∨ q = ps[k] := fun q hq => by
        rw [List.take_succ_eq_append_getElem hlt] at hq
        rcases List.mem_append.1 hq with h | h
        · exact .inl h
        · exact .inr (List.mem_singleton.1 h)
      generalize ps[k] = pk at *
      have m0 := h1.cell 0
      have s0 := h3.cell 0
      have sf := h3.frozen 0
      simp at m0 s0
      have z1 := h1.lt
      have z3 := h3.lt
      have zm := h2.lt
      have hgl : g < wr.heap.size := by omega
      have hki : (0 : Int) ≤ (k : Int) := by omega
      have hmo : MapOff (wr.alloc (.cells #[.string pk.name, .slice Av pk.val.length cv] 70)) m S := h2.keep (Below.heap_alloc _ _ _ zm)
      have hlk := hmo.look (s := pk.name) (by simp only [maxLen]; omega) true
      simp only [if_true] at hlk
      clear e1 e3 hkt hkp hD hp4
      cases hoff : offOf pk.name S with
      | some off =>
        rw [hoff] at hlk
        simp only [Option.getD_some, Option.isSome_some] at hlk
        have hfin : SInv w mv sv m lo S0 strs0 ps (k + 1) (wr.alloc (.cells #[.string pk.name, .slice Av pk.val.length cv] 70)) :=
          ⟨S, strs, ⟨h1.alloc _, hmo, ⟨A1, c1', h3.alloc _, h4.alloc _, hR⟩, h5, h9, h10, h11, by simp; omega, h13⟩, hmore, fun q hq => by
            rcases hmem q hq with h | h
            · exact hall q h
            · rw [h, hoff]; rfl, by omega, hF.alloc h12 _⟩
        have HFIN := Lib.hid hfin
        clear h1 h2 h3 h4 h5 hmore hall hF hmem hmo hfin hoff
        go_wp2_with fail
        go_roundw
        case rel => exact ⟨k + 1, hlt, by go_num, HFIN.out⟩
        case measure => simp [intOf]; omega
      | none =>
        rw [hoff] at hlk
        simp only [Option.getD_none, Option.isSome_none] at hlk
        obtain ⟨w2, hup, hmo2, hg2⟩ := hmo.put (s := pk.name) (by simp only [maxLen]; omega) (off := strs.length) (by omega) (by omega)
        have hs2 := hg2.size
        simp at hs2
        have k1 := (h1.alloc (.cells #[.string pk.name, .slice Av pk.val.length cv] 70)).grown hg2 (by simp; omega)
        have k3 := (h3.alloc (.cells #[.string pk.name, .slice Av pk.val.length cv] 70)).grown hg2 (by simp; omega)
        have k4 : w2.ownsRow lo 5 1 (.slice A1 strs.length c1') strs.length (strs.map bv) := own_keep (h4.alloc (.cells #[.string pk.name, .slice Av pk.val.length cv] 70)) fun g hg => hg2.block g (by have := h4.lt g hg; simp; omega) (by have := hR g hg; simp; omega)
        have kp := (Cs.new wr 70 #[.string pk.name, .slice Av pk.val.length cv]).grown hg2 (by simp; omega)
        have kF : Fr lo (fun x => x = mv ∨ x = sv ∨ x = m) w w2 := (hF.alloc h12 _).grown hg2 (by simp; omega) fun x hx => .inr (.inr (.inr (Option.some.inj hx).symm))
        have hcv := fun w => Lib.run_convert_string_bytes (P := Try.prog) w 9 24 5 pk.name Try.underlying9 Try.underlying24 Try.underlying5
        have hbz := Lib.bytesWorld_size w2 5 pk.name
        have hbb := conv_below w2 pk.name
        have j1 := k1.below hbb k1.lt
        have j3 := k3.below hbb k3.lt
        have j4 := own_keep (w' := Lib.bytesWorld w2 5 pk.name) k4 fun g hg => hbb.block g (k4.lt g hg).2
        have jp := kp.below hbb kp.lt
        have jF := kF.trans (Fr.of_below (B := w2.heap.size) (X := fun x => x = mv ∨ x = sv ∨ x = m) hbb |>.mono (by omega) fun _ _ h => h)
        have jm := hmo2.keep (hbb.block m hmo2.lt)
        have kc0 := k1.cell 0
        have kd0 := k3.cell 0
        have kp0 := kp.cell 0
        have jd0 := j3.cell 0
        simp at kc0 kd0 kp0 jd0
        have hsl31 : pk.name.size ≤ 31 := hsz
        have hblen : (bytesOf pk.name).length = pk.name.size := by simp [bytesOf]
        have Hj := Lib.hid (And.intro j1 (And.intro j3 (And.intro j4 (And.intro jF jm))))
        have Hmore := Lib.hid (And.intro hmore (And.intro hall (And.intro hmem (And.intro hoff h5))))
        have HR := Lib.hid hR
        clear h1 h2 h3 h4 h5 hR hmore hall hF hmem hmo hoff k1 k3 k4 kp kF hbb j1 j3 j4 jp jF jm hmo2 hg2
        go_upto_region 8 with (at_builtin; have HjX := Hj; refine wpList_append_el el24 rfl (.tmp 33) (.tmp 36) rfl lo (.slice A1 strs.length c1') strs.length (strs.map bv) rfl Hj.out.2.2.1 (some ⟨w2.heap.size, 0, none⟩) pk.name.size (grownCap w2 pk.name.size 0 5) ((bytesOf pk.name).map bv) rfl (by simp [hblen]) (conv_rd w2 pk.name) (bv_one _) (by omega) (by omega) (by omega) ?_; intro v' w3 hown3 hgrow3 hnil3 hat3; obtain ⟨A3, c3, rfl⟩ := own_slice hown3; clear hnil3; have q3 := Hj.out.2.1.grown hgrow3 (fun e => (HR.out _ e.symm).2.1 rfl); have HR3 := Lib.hid (HR.out.step hat3 (by omega) (by omega) (by omega)); have qd := q3.cell 0; have qf := q3.frozen 0; simp at qd; have Hk := Hj; clear Hj HjX)
        go_wp2_with (at_builtin; go_must (refine wpList_append_el el24 rfl (.tmp 38) (.tmp 39) rfl lo (.slice A3 (strs.length + pk.name.size) c3) (strs.length + pk.name.size) (strs.map bv ++ (bytesOf pk.name).map bv) rfl (World.ownsRow.alloc (own_keep hown3 fun g hg => Below.heap_setCell _ _ _ _ (HR3.out g hg).2.1) _) (some ⟨w3.heap.size, 0, none⟩) 1 1 [.int .u8 0] rfl (by simp) ((Cs.new' _ _ _ _ (by simp [World.setCell])).rd rfl) (by simp [Value.oneCell']) (by omega) (by omega) (by have := hgrow3.size; simp [World.setCell]; omega) ?_); intro v' w4 hown4 hgrow4 hnil4 hat4; obtain ⟨A4, c4, rfl⟩ := own_slice hown4; clear hnil4; obtain ⟨q4, qd4, qf4⟩ := sv_after q3 hown3 (fun e => (HR3.out _ e.symm).2.1 rfl) hgrow4)
        have HFIN := Lib.hid (w1_fin Hk.out.1 Hk.out.2.2.1 Hk.out.2.2.2.1 Hk.out.2.2.2.2 hgrow3 hown3 q4 hown4 hgrow4 Hmore.out.2.2.2.2 HR.out (by omega) (by omega) (by omega) hat3 hat4 h9 h10 h11 (by omega) h13 Hmore.out.1 Hmore.out.2.1 Hmore.out.2.2.1 Hmore.out.2.2.2.1 hsl31 hsl)
        exact ⟨⟨k + 1, hlt, by go_num, HFIN.out⟩, by simp [intOf]; omega⟩
    · obtain rfl : k = ps.length := by omega
      have HFIN := Lib.hid (show SInv w mv sv m lo S0 strs0 ps ps.length wr from ⟨S, strs, ⟨h1, h2, ⟨A1, c1', h3, h4, hR⟩, h5, h9, h10, h11, h12, h13⟩, hmore, hall, hsl, hF⟩)
      clear h1 h2 h3 h4 h5 hmore hall hF
      go_wp2_with fail
      go_ret
      exact ⟨rfl, HFIN.out⟩
end Go.Proofs.Ytlbhadggfipckaa

set_option linter.unusedVariables false
set_option linter.unusedSimpArgs false
namespace Go.Proofs.Ytlbhadggfipckaa
open Go.RowKit

def szP : List Pr → Nat
  | [] => 0
  | p :: r => 12 + al4 p.val.length + szP r

theorem szP_append : ∀ (a b : List Pr), szP (a ++ b) = szP a + szP b
  | [], b => by simp [szP]
  | p :: a, b => by simp [szP, szP_append a b]; omega

theorem szP_take (ps : List Pr) (k : Nat) (h : k < ps.length) : szP (ps.take (k + 1)) = szP (ps.take k) + (12 + al4 ps[k].val.length) ∧ szP (ps.take (k + 1)) ≤ szP ps := by
  have e1 : ps.take (k + 1) = ps.take k ++ [ps[k]] := by rw [List.take_succ_eq_append_getElem h]
  have e2 : szP ps = szP (ps.take (k + 1)) + szP (ps.drop (k + 1)) := by rw [← szP_append, List.take_append_drop]
  refine ⟨?_, by omega⟩
  rw [e1, szP_append]
  simp [szP]

theorem al4_le (n : Nat) : al4 n ≤ n + 3 ∧ n ≤ al4 n := by unfold al4; omega

/-- A tree of the package, in its block: the header's ten numbers, the rooms, the root. -/
def FD (h : Array Value) (x : Nat) : Array Value := h.setIfInBounds 9 (.int .u32 (x : Nat))

theorem FD_set {h : Array Value} {x y : Nat} {z : Int} (e : z = (y : Int)) : (FD h x).setIfInBounds 9 (.int .u32 z) = FD h y := by
  subst e
  simp [FD]

def SzInv (w : World) (fv f : Nat) (h : Array Value) (x : Nat) (wr : World) : Prop := Cs wr fv #[.pointer (some ⟨f, 0, none⟩)] ∧ Cs wr f (FD h x) ∧ Fr w.heap.size (· = f) w wr

def W2Post (w : World) (fv f : Nat) (h : Array Value) (x : Nat) (e : Ending) (w' : World) : Prop := e = .returned .nilIface ∧ SzInv w fv f h x w'

set_option maxHeartbeats 2000000 in
theorem w2_walk (w : World) (ok : Nat → Prop) (fv f x : Nat) (h : Array Value) (hh : h.size = 12) (hok : ∀ k, ok k → k < w.heap.size ∧ k ≠ f) (b : Nat) (name : ByteArray) (ps : List Pr) (ks : List LT) (hn : PN w ok (.mk b name ps ks)) (hns : name.size ≤ 100) (hff : fv ≠ f)
    (hi : SzInv w fv f h x w) (hx : x + 8 + al4 (name.size + 1) + szP ps ≤ 1000000) :
    Calls Try.prog 69 #[.pointer (some ⟨b, 0, none⟩), .pointer (some ⟨fv, 0, none⟩)] w (W2Post w fv f h (x + 8 + al4 (name.size + 1) + szP ps)) := by
  obtain ⟨vp, A, c, hob, hns', hcs, hps, hl1, hl2, hl3, hks, hrow⟩ := hn.open_
  obtain ⟨Ap, cp, ts, rfl, hp1, hp2, hp3, hp4, hp5⟩ := hps
  obtain ⟨h1, h2, -⟩ := hi
  have n0 := hcs.cell 0
  have n1 := hcs.cell 1
  have v0 := h1.cell 0
  have x9 := h2.cell 9
  have xf := h2.frozen 9
  simp at n0 n1 v0
  simp [FD, hh] at x9
  obtain ⟨hb1, hb2⟩ := hok b hob
  have zf := h1.lt
  have z2 := h2.lt
  have hA4 := align4_walk w.drew (name.size + 1) (by omega)
  have hle := al4_le (name.size + 1)
  have e1 : ((name.size + 1 : Nat) : Int) = (name.size : Int) + 1 := by omega
  rw [e1] at hA4
  have hw0 : IntKind.i64.wrap ((name.size : Int) + 1) = (name.size : Int) + 1 := by simp only [IntKind.wrap, IntKind.bits, IntKind.signed]; simp; omega
  have hw1 : IntKind.u32.wrap (8 + ((al4 (name.size + 1) : Nat) : Int)) = 8 + ((al4 (name.size + 1) : Nat) : Int) := by simp only [IntKind.wrap, IntKind.bits, IntKind.signed]; simp; omega
  have hw2 : IntKind.u32.wrap ((x : Int) + (8 + ((al4 (name.size + 1) : Nat) : Int))) = (x : Int) + (8 + ((al4 (name.size + 1) : Nat) : Int)) := by simp only [IntKind.wrap, IntKind.bits, IntKind.signed]; simp; omega
  have Hp4 := Lib.hid hp4
  have Hp5 := Lib.hid hp5
  have H12 := Lib.hid (And.intro h1 h2)
  clear hn hks hrow hcs hp4 hp5 h1 h2
  go_enter Try.func69, Try.ntmps69
  go_wp2_with fail
  refine wp_region_seq (fun w' => w'.cell? ⟨fv, 0, none⟩ = some (.pointer (some ⟨f, 0, none⟩)) ∧ w'.cell? ⟨f, 9, none⟩ = some (.int .u32 (x : Nat)) ∧ w'.cell? ⟨b, 0, none⟩ = some (.string name)) 17
    [(0, true), (1, true), (2, true), (3, true), (4, true), (5, true), (6, true), (7, true), (8, true), (9, true), (10, true), (11, false), (12, true), (13, true), (14, true), (15, true), (16, true), (17, false)] (by kernel_rfl) (by kernel_rfl) ⟨v0, x9, n0⟩ ?_
  simp only [opsIn, List.map_cons, List.map_nil, List.getElem?_toArray, List.getElem?_cons_zero, List.getElem?_cons_succ, Option.getD_some, Nat.reduceBEq]
  iterate 11
    refine' Seq.quiet (by rfl) ?_ ?_
    rotate_left
    · rintro w' ⟨hS1, hS2, hS3⟩
      go_simp
      try with_reducible rfl
    try simp only [Act.put, List.setIfInBounds_toArray, List.set_cons_zero, List.set_cons_succ]
  refine Seq.eff ?_ ?_
  · rfl
  intro K hK
  go_simp
  refine hA4.mono ?_
  rintro e w1 ⟨rfl, rfl⟩
  refine hK.out _ _ (.inr ⟨v0, x9, n0⟩) ?_
  clear hK K
  try simp only [Act.put, List.setIfInBounds_toArray, List.set_cons_zero, List.set_cons_succ]
  iterate 5
    refine' Seq.quiet (by rfl) ?_ ?_
    rotate_left
    · rintro w' ⟨hS1, hS2, hS3⟩
      go_simp
      try with_reducible rfl
    try simp only [Act.put, List.setIfInBounds_toArray, List.set_cons_zero, List.set_cons_succ]
  refine Seq.last ?_ ?_
  · rfl
  intro K hK
  go_simp
  refine hK.out _ _ ?_
  clear hK K
  go_wp2_with fail
  go_loopw [28] (fun i wr => ∃ k : Nat, k ≤ ps.length ∧ i = .int .i64 k ∧ SzInv w fv f h (x + 8 + al4 (name.size + 1) + szP (ps.take k)) wr) (fun i _ => ps.length - (intOf i).toNat)
  case atStart =>
    refine ⟨0, by omega, by go_num, (H12.out.1.far (p := ⟨f, 9, none⟩) hff _).drew, ?_, ((Fr.refl w.heap.size (· = f) w).setCell (p := ⟨f, 9, none⟩) (.inr rfl) _).drew⟩
    have q := (H12.out.2.set_ 9 (.int .u32 ((x : Int) + (8 + ((al4 (name.size + 1) : Nat) : Int))))).drew
    rw [FD_set (y := x + 8 + al4 (name.size + 1)) (by omega)] at q
    simpa [szP] using q
  case round =>
    obtain ⟨k, hk, rfl, h1, h2, hF⟩ := hrel
    clear hA4 n0 n1 v0 x9 xf zf z2 hw0 hw1 hw2
    have hlt0 : k < ps.length → x + 8 + al4 (name.size + 1) + szP (ps.take k) ≤ 1000000 := fun h => by have := szP_take ps k h; omega
    generalize hy : x + 8 + al4 (name.size + 1) + szP (ps.take k) = y at *
    have s0 := h1.cell 0
    have s9 := h2.cell 9
    have sf := h2.frozen 9
    simp at s0
    simp [FD, hh] at s9
    have zf := h1.lt
    have z2 := h2.lt
    by_cases hlt : k < ps.length
    · have hne : ps ≠ [] := by rintro rfl; simp at hlt
      obtain ⟨g, o, rfl, hog, hD⟩ := Hp5.out.resolve_left hne
      have hp4 := Hp4.out
      have hkp : ps[k]? = some ps[k] := List.getElem?_eq_getElem hlt
      have hlt2 : k < ts.length := by rw [← hp4.1]; exact hlt
      have hkt : ts[k]? = some (ts[k]'hlt2) := List.getElem?_eq_getElem hlt2
      obtain ⟨e1, pn, Av, cv, e3, -⟩ := hp4.2 k _ _ hkp hkt
      obtain ⟨d1, d2⟩ := hD k _ hkt
      obtain ⟨o1, o2⟩ := hok g hog
      rw [← hF.cell o1 o2, e1] at d1
      rw [← hF.cell o1 o2, e3] at d2
      obtain ⟨t1, t2⟩ := szP_take ps k hlt
      generalize ps[k] = pk at *
      clear e1 e3 hkt hkp hD hp4
      have hgl : g < wr.heap.size := by have := hF.size; omega
      have hki : (0 : Int) ≤ (k : Int) := by omega
      have hle2 := al4_le pk.val.length
      have hy2 : x + 8 + al4 (name.size + 1) + szP (ps.take (k + 1)) = y + (12 + al4 pk.val.length) := by omega
      have hA4 := align4_walk (wr.alloc (.cells #[.string pk.name, .slice Av pk.val.length cv] 70)).drew pk.val.length (by omega)
      have hw1 : IntKind.u32.wrap (12 + ((al4 pk.val.length : Nat) : Int)) = 12 + ((al4 pk.val.length : Nat) : Int) := by simp only [IntKind.wrap, IntKind.bits, IntKind.signed]; simp; omega
      have hw2 : IntKind.u32.wrap ((y : Int) + (12 + ((al4 pk.val.length : Nat) : Int))) = (y : Int) + (12 + ((al4 pk.val.length : Nat) : Int)) := by simp only [IntKind.wrap, IntKind.bits, IntKind.signed]; simp; omega
      have hs1 : (wr.alloc (.cells #[.string pk.name, .slice Av pk.val.length cv] 70)).drew.cell? ⟨fv, 0, none⟩ = some (.pointer (some ⟨f, 0, none⟩)) := (World.cell?_alloc_lt _ _ _ zf).trans s0
      have hs2 : (wr.alloc (.cells #[.string pk.name, .slice Av pk.val.length cv] 70)).drew.cell? ⟨f, 9, none⟩ = some (.int .u32 (y : Nat)) := (World.cell?_alloc_lt _ _ _ z2).trans s9
      have hs3 : (wr.alloc (.cells #[.string pk.name, .slice Av pk.val.length cv] 70)).drew.cell? ⟨wr.heap.size, 1, none⟩ = some (.slice Av pk.val.length cv) := ((Cs.new wr 70 #[.string pk.name, .slice Av pk.val.length cv]).drew.cell 1).trans rfl
      have H := Lib.hid (And.intro h1 (And.intro h2 hF))
      clear h1 h2 hF
      go_wp2_with fail
      refine wp_region_seq (fun w' => w'.cell? ⟨fv, 0, none⟩ = some (.pointer (some ⟨f, 0, none⟩)) ∧ w'.cell? ⟨f, 9, none⟩ = some (.int .u32 (y : Nat)) ∧ w'.cell? ⟨wr.heap.size, 1, none⟩ = some (.slice Av pk.val.length cv)) 14
        [(0, true), (1, true), (2, true), (3, true), (4, true), (5, true), (6, true), (7, true), (8, false), (9, true), (10, true), (11, true), (12, true), (13, true), (14, false)] (by kernel_rfl) (by kernel_rfl) ⟨hs1, hs2, hs3⟩ ?_
      simp only [opsIn, List.map_cons, List.map_nil, List.getElem?_toArray, List.getElem?_cons_zero, List.getElem?_cons_succ, Option.getD_some, Nat.reduceBEq]
      iterate 8
        refine' Seq.quiet (by rfl) ?_ ?_
        rotate_left
        · rintro w' ⟨hS1, hS2, hS3⟩
          go_simp
          try with_reducible rfl
        try simp only [Act.put, List.setIfInBounds_toArray, List.set_cons_zero, List.set_cons_succ]
      refine Seq.eff ?_ ?_
      · rfl
      intro K hK
      go_simp
      refine hA4.mono ?_
      rintro e w1 ⟨rfl, rfl⟩
      refine hK.out _ _ (.inr ⟨hs1, hs2, hs3⟩) ?_
      clear hK K
      try simp only [Act.put, List.setIfInBounds_toArray, List.set_cons_zero, List.set_cons_succ]
      iterate 5
        refine' Seq.quiet (by rfl) ?_ ?_
        rotate_left
        · rintro w' ⟨hS1, hS2, hS3⟩
          go_simp
          try with_reducible rfl
        try simp only [Act.put, List.setIfInBounds_toArray, List.set_cons_zero, List.set_cons_succ]
      refine Seq.last ?_ ?_
      · rfl
      intro K hK
      go_simp
      refine hK.out _ _ ?_
      clear hK K
      obtain ⟨h1, h2, hF⟩ := H.out
      have q := h2.set_ 9 (.int .u32 ((y : Int) + (12 + ((al4 pk.val.length : Nat) : Int))))
      rw [FD_set (y := y + (12 + al4 pk.val.length)) (by omega)] at q
      have hfin : SzInv w fv f h (y + (12 + al4 pk.val.length)) (((wr.setCell ⟨f, 9, none⟩ (.int .u32 ((y : Int) + (12 + ((al4 pk.val.length : Nat) : Int))))).alloc (.cells #[.string pk.name, .slice Av pk.val.length cv] 70)).drew) :=
        ⟨((h1.far hff _).alloc _).drew, (q.alloc _).drew, ((hF.setCell (p := ⟨f, 9, none⟩) (.inr rfl) _).alloc (by have := hF.size; simp [World.setCell]; omega) _).drew⟩
      rw [← hy2] at hfin
      have HFIN := Lib.hid hfin
      clear h1 h2 hF q hfin
      go_wp2_with fail
      exact ⟨⟨k + 1, hlt, by go_num, HFIN.out⟩, by simp [intOf]; omega⟩
    · obtain rfl : k = ps.length := by omega
      rw [List.take_length] at hy
      subst hy
      have H := Lib.hid (show SzInv w fv f h _ wr from ⟨h1, h2, hF⟩)
      clear h1 h2 hF
      go_wp2_with fail
      go_ret
      exact ⟨rfl, H.out⟩
end Go.Proofs.Ytlbhadggfipckaa
