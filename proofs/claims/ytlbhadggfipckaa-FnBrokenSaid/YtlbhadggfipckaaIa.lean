/-
  Plain data: strings and places in them, the bytes of a structure.
-/
import Derived.Test.YtlbhadggfipckaaHe
set_option linter.unusedVariables false
set_option linter.unusedSimpArgs false
namespace Go.Proofs.Ytlbhadggfipckaa
open Go.RowKit

/-- The bytes of a text. -/
def bytesOf (s : ByteArray) : List UInt8 := s.data.toList

/-- At off, the strings have the text s and a nought behind it. -/
def Has (strs : List UInt8) (off : Nat) (s : ByteArray) : Prop := ∃ pre post, strs = pre ++ bytesOf s ++ 0 :: post ∧ pre.length = off

theorem Has.append {strs : List UInt8} {off : Nat} {s : ByteArray} (h : Has strs off s) (more : List UInt8) : Has (strs ++ more) off s := by
  obtain ⟨pre, post, rfl, rfl⟩ := h
  exact ⟨pre, post ++ more, by simp, rfl⟩

theorem Has.new (strs : List UInt8) (s : ByteArray) : Has (strs ++ bytesOf s ++ [0]) strs.length s := ⟨strs, [], by simp, rfl⟩

theorem Has.lt {strs : List UInt8} {off : Nat} {s : ByteArray} (h : Has strs off s) : off + s.size < strs.length := by
  obtain ⟨pre, post, rfl, rfl⟩ := h
  simp [bytesOf]

/-- A token, with nop tokens of nothing ahead. -/
def tok (nop : Nat) (n : Int) : List UInt8 := (List.replicate nop (be4 4)).flatten ++ be4 n

/-- Bytes with noughts up to a multiple of four. -/
def pad4 (l : List UInt8) : List UInt8 := l ++ pad 4 l.length

inductive EncP (strs : List UInt8) (nop : Nat) : List Pr → List UInt8 → Prop
  | nil : EncP strs nop [] []
  | cons {p : Pr} {ps : List Pr} {off : Nat} {r : List UInt8} (h : Has strs off p.name) (hr : EncP strs nop ps r) : EncP strs nop (p :: ps) (tok nop 3 ++ be4 p.val.length ++ be4 off ++ pad4 p.val ++ r)

mutual
inductive EncN (strs : List UInt8) (nop : Nat) : Nd → List UInt8 → Prop
  | mk {name : ByteArray} {ps : List Pr} {ks : List Nd} {bp bk : List UInt8} (hp : EncP strs nop ps bp) (hk : EncL strs nop ks bk) : EncN strs nop (.mk name ps ks) (tok nop 1 ++ pad4 (bytesOf name ++ [0]) ++ bp ++ bk ++ tok nop 2)
inductive EncL (strs : List UInt8) (nop : Nat) : List Nd → List UInt8 → Prop
  | nil : EncL strs nop [] []
  | cons {k : Nd} {ks : List Nd} {b r : List UInt8} (h : EncN strs nop k b) (hr : EncL strs nop ks r) : EncL strs nop (k :: ks) (b ++ r)
end

theorem EncP.snoc {strs : List UInt8} {nop : Nat} {p : Pr} {off : Nat} (h : Has strs off p.name) : ∀ {ps : List Pr} {r : List UInt8}, EncP strs nop ps r → EncP strs nop (ps ++ [p]) (r ++ (tok nop 3 ++ be4 p.val.length ++ be4 off ++ pad4 p.val))
  | _, _, .nil => by simpa using EncP.cons (nop := nop) h .nil
  | _, _, .cons h' hr => by
    have := EncP.cons h' (EncP.snoc h hr)
    simpa [List.append_assoc] using this

theorem EncL.snoc {strs : List UInt8} {nop : Nat} {k : Nd} {b : List UInt8} (h : EncN strs nop k b) : ∀ {ks : List Nd} {r : List UInt8}, EncL strs nop ks r → EncL strs nop (ks ++ [k]) (r ++ b)
  | _, _, .nil => by simpa using EncL.cons h .nil
  | _, _, .cons h' hr => by
    have := EncL.cons h' (EncL.snoc h hr)
    simpa [List.append_assoc] using this

theorem EncP.append {strs : List UInt8} {nop : Nat} (more : List UInt8) {ps : List Pr} {r : List UInt8} (h : EncP strs nop ps r) : EncP (strs ++ more) nop ps r := by
  induction h with
  | nil => exact .nil
  | cons h _ ih => exact .cons (h.append more) ih

mutual
theorem EncN.append {strs : List UInt8} {nop : Nat} (more : List UInt8) : ∀ {n : Nd} {r : List UInt8}, EncN strs nop n r → EncN (strs ++ more) nop n r
  | _, _, .mk hp hk => .mk (hp.append more) (EncL.append more hk)
theorem EncL.append {strs : List UInt8} {nop : Nat} (more : List UInt8) : ∀ {n : List Nd} {r : List UInt8}, EncL strs nop n r → EncL (strs ++ more) nop n r
  | _, _, .nil => .nil
  | _, _, .cons h hr => .cons (EncN.append more h) (EncL.append more hr)
end
end Go.Proofs.Ytlbhadggfipckaa
