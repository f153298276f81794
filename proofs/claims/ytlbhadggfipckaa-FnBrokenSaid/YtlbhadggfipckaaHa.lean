/-
  The package's small writers: beAppend32, Header.bytes, entryBytes.
-/
import Derived.Test.YtlbhadggfipckaaGf
import Derived.Test.YtlbhadggfipckaaVa
set_option linter.unusedVariables false
set_option linter.unusedSimpArgs false
namespace Go.Proofs.Ytlbhadggfipckaa
open Go.RowKit

def be4 (n : Int) : List UInt8 := [byteOf n 24, byteOf n 16, byteOf n 8, byteOf n 0]

theorem be4_len (ns : List Int) : (ns.flatMap be4).length = 4 * ns.length := by
  induction ns with
  | nil => rfl
  | cons n ns ih => simp [be4, ih]; omega

/-- What a call does that appends to a row of bytes. -/
def AppPost (w : World) (lo : Nat) (v : Value) (bs : List UInt8) (e : Ending) (w' : World) : Prop :=
  ∃ A' c', e = .returned (.slice A' bs.length c') ∧ w'.ownsRow lo 5 1 (.slice A' bs.length c') bs.length (bs.map bv) ∧ Fr w.heap.size (fun k => some k = v.ownBlock) w w' ∧
    ((Value.slice A' bs.length c').ownBlock = v.ownBlock ∨ ∀ g, (Value.slice A' bs.length c').ownBlock = some g → w.heap.size ≤ g)

def AInv (w : World) (lo : Nat) (v : Value) (bs : List UInt8) (x : Value) (wr : World) : Prop :=
  ∃ A' c', x = .slice A' bs.length c' ∧ wr.ownsRow lo 5 1 (.slice A' bs.length c') bs.length (bs.map bv) ∧ Fr w.heap.size (fun k => some k = v.ownBlock) w wr ∧
    ((Value.slice A' bs.length c').ownBlock = v.ownBlock ∨ ∀ g, (Value.slice A' bs.length c').ownBlock = some g → w.heap.size ≤ g)

set_option maxHeartbeats 1000000 in
theorem app32_walk (w : World) (lo : Nat) (A : Option Addr) (c : Nat) (bs : List UInt8) (hown : w.ownsRow lo 5 1 (.slice A bs.length c) bs.length (bs.map bv)) (hlo : lo ≤ w.heap.size) (A2 : Option Addr) (c2 : Nat) (ns : List Int)
    (hn : RdO w (fun k => k < w.heap.size ∧ some k ≠ (Value.slice A bs.length c).ownBlock) A2 (ns.map (Value.int .u32 ·))) (hb : ∀ n ∈ ns, 0 ≤ n ∧ n ≤ 4294967295) (hl : bs.length + 4 * ns.length ≤ 1000000) :
    Calls Try.prog 77 #[.slice A bs.length c, .slice A2 ns.length c2] w (AppPost w lo (.slice A bs.length c) (bs ++ ns.flatMap be4)) := by
  have Hown := Lib.hid hown
  have Hn := Lib.hid hn
  have Hb := Lib.hid hb
  clear hown hn hb
  go_enter Try.func77, Try.ntmps77
  go_wp2_with fail
  go_loopw [9, 0] (fun i x wr => ∃ k : Nat, k ≤ ns.length ∧ i = .int .i64 k ∧ AInv w lo (.slice A bs.length c) (bs ++ (ns.take k).flatMap be4) x wr) (fun i _ _ => ns.length - (intOf i).toNat)
  case atStart =>
    exact ⟨0, by omega, by go_num, A, c, by simp, by simpa using Hown.out, Fr.refl _ _ _, .inl (by simp)⟩
  case round =>
    obtain ⟨k, hk, rfl, A', c', rfl, hw, hF, hat⟩ := hrel
    by_cases hlt : k < ns.length
    · have hne : ns.map (Value.int IntKind.u32 ·) ≠ [] := by intro e; have := congrArg List.length e; simp at this; simp [this] at hlt
      obtain ⟨g, o, rfl, ⟨hgl, hgo⟩, hD⟩ := Hn.out.resolve_left hne
      have d1 := hD k _ (by rw [List.getElem?_map, List.getElem?_eq_getElem hlt]; rfl)
      rw [← hF.cell hgl hgo] at d1
      have hB := Hb.out ns[k] (List.getElem_mem hlt)
      have hap : (ns.take (k + 1)).flatMap be4 = (ns.take k).flatMap be4 ++ be4 ns[k] := by
        rw [List.take_succ_eq_append_getElem hlt, List.flatMap_append]
        simp
      have hlen : (bs ++ (ns.take k).flatMap be4).length = bs.length + 4 * k := by
        rw [List.length_append, be4_len, List.length_take]
        omega
      generalize ns[k] = n at *
      have hki : (0 : Int) ≤ (k : Int) := by omega
      have sz := hF.size
      have hgw : g < wr.heap.size := by omega
      rw [hlen] at hw hat
      have Hw := Lib.hid hw
      have HF := Lib.hid hF
      have Hat := Lib.hid hat
      have Hap := Lib.hid hap
      rw [hlen]
      clear hw hF hat hD hap hlen
      go_wp2_with (at_builtin; go_must (refine wpList_append_el el24 rfl (.tmp 13) (.tmp 25) rfl lo (.slice A' (bs.length + 4 * k) c') (bs.length + 4 * k) ((bs ++ (ns.take k).flatMap be4).map bv) rfl (World.ownsRow.alloc Hw.out _) (some ⟨wr.heap.size, 0, none⟩) 4 4 [.int .u8 (n / 16777216), .int .u8 (n / 65536 % 256), .int .u8 (n / 256 % 256), .int .u8 (n % 256)] rfl (by simp) ((Cs.new _ _ _).rd rfl) (by simp [Value.oneCell']) (by omega) (by omega) (by simp; omega) ?_); intro v' w1 hown hgrow hnil hat2; obtain ⟨A2', c2', rfl⟩ := own_slice hown; clear hnil)
      have hlen2 : (bs ++ (ns.take (k + 1)).flatMap be4).length = bs.length + 4 * k + 4 := by
        rw [List.length_append, be4_len, List.length_take]
        omega
      have hbe : (be4 n).map bv = [.int .u8 (n / 16777216), .int .u8 (n / 65536 % 256), .int .u8 (n / 256 % 256), .int .u8 (n % 256)] := by
        simp only [be4, List.map_cons, List.map_nil, bv_byteOf]
        have e1 : n / 2 ^ 24 % 256 = n / 16777216 := by simp only [Int.reducePow]; omega
        have e2 : n / 2 ^ 16 % 256 = n / 65536 % 256 := by simp only [Int.reducePow]
        have e3 : n / 2 ^ 8 % 256 = n / 256 % 256 := by simp only [Int.reducePow]
        have e4 : n / 2 ^ 0 % 256 = n % 256 := by simp
        rw [e1, e2, e3, e4]
      go_roundw
      case rel =>
        refine ⟨k + 1, hlt, by go_num, A2', c2', by rw [hlen2], ?_, ?_, ?_⟩
        · rw [hlen2, Hap.out, ← List.append_assoc, List.map_append, hbe]
          exact hown
        · refine Fr.grown (Fr.alloc HF.out sz _) hgrow (by simp; omega) fun x hx => ?_
          rcases Hat.out with h | h
          · exact .inr (hx.symm.trans h)
          · exact .inl (h x hx)
        · rw [hlen2]
          rcases hat2 with h | h
          · rcases Hat.out with h' | h'
            · exact .inl (h.trans h')
            · exact .inr fun x hx => h' x (h.symm.trans hx)
          · refine .inr fun x hx => ?_
            have := h.symm.trans hx
            injection this with this
            simp at this
            omega
      case measure => simp [intOf]; omega
    · obtain rfl : k = ns.length := by omega
      rw [List.take_length] at hw hat ⊢
      have Hf := Lib.hid (show AppPost w lo (.slice A bs.length c) (bs ++ ns.flatMap be4) (.returned (.slice A' (bs ++ ns.flatMap be4).length c')) wr from ⟨A', c', rfl, hw, hF, hat⟩)
      clear hw hF hat
      go_wp2_with fail
      go_ret
      exact Hf.out
end Go.Proofs.Ytlbhadggfipckaa
