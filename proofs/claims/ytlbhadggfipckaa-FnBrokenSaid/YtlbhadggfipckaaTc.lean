/-
  beUint32, beUint64.
-/
import Derived.Test.YtlbhadggfipckaaTb
set_option linter.unusedVariables false
set_option linter.unusedSimpArgs false
namespace Go.Proofs.Ytlbhadggfipckaa
open Go.RowKit

def be32 (a b c d : UInt8) : Nat := a.toNat * 16777216 + b.toNat * 65536 + c.toNat * 256 + d.toNat

theorem be32_lt (a b c d : UInt8) : be32 a b c d < 4294967296 := by
  have h0 := a.toNat_lt
  have h1 := b.toNat_lt
  have h2 := c.toNat_lt
  have h3 := d.toNat_lt
  unfold be32
  omega

theorem be32_bits (x0 x1 x2 x3 : UInt8) : bits .or .u32 (bits .or .u32 (bits .or .u32 ((x3.toNat : Nat) : Int) ((x2.toNat : Nat) * 256)) ((x1.toNat : Nat) * 65536)) ((x0.toNat : Nat) * 16777216) = ((be32 x0 x1 x2 x3 : Nat) : Int) := by
  have b0 := x0.toNat_lt
  have b1 := x1.toNat_lt
  have b2 := x2.toNat_lt
  have b3 := x3.toNat_lt
  unfold be32
  generalize x0.toNat = y0 at *
  generalize x1.toNat = y1 at *
  generalize x2.toNat = y2 at *
  generalize x3.toNat = y3 at *
  have e1 : bits .or .u32 (y3 : Int) ((y2 : Int) * 256) = ((y2 * 256 + y3 : Nat) : Int) := by
    have := u32_or_nat y3 (y2 * 256) (by omega) (by omega)
    rw [Nat.or_comm, nat_join 8 (y2 * 256) y3 (by omega) (by omega)] at this
    simpa using this
  have e2 : bits .or .u32 ((y2 * 256 + y3 : Nat) : Int) ((y1 : Int) * 65536) = ((y1 * 65536 + (y2 * 256 + y3) : Nat) : Int) := by
    have := u32_or_nat (y2 * 256 + y3) (y1 * 65536) (by omega) (by omega)
    rw [Nat.or_comm, nat_join 16 (y1 * 65536) (y2 * 256 + y3) (by omega) (by omega)] at this
    simpa using this
  have e3 : bits .or .u32 ((y1 * 65536 + (y2 * 256 + y3) : Nat) : Int) ((y0 : Int) * 16777216) = ((y0 * 16777216 + (y1 * 65536 + (y2 * 256 + y3)) : Nat) : Int) := by
    have := u32_or_nat (y1 * 65536 + (y2 * 256 + y3)) (y0 * 16777216) (by omega) (by omega)
    rw [Nat.or_comm, nat_join 24 (y0 * 16777216) (y1 * 65536 + (y2 * 256 + y3)) (by omega) (by omega)] at this
    simpa using this
  rw [e1, e2, e3]
  omega

theorem be64_bits (a b : Nat) (ha : a < 4294967296) (hb : b < 4294967296) : bits .or .u64 ((a : Int) * 4294967296) (b : Int) = ((a * 4294967296 + b : Nat) : Int) := by
  have := u64_or_nat (a * 4294967296) b (by omega) (by omega)
  rw [nat_join 32 (a * 4294967296) b (by omega) (by omega)] at this
  simpa using this

theorem beU32 (w : World) (b o n cap : Nat) (x0 x1 x2 x3 : UInt8) (hn : 4 ≤ n) (hcap : n ≤ cap) (hm : cap ≤ 9223372036854775807)
    (h0 : w.cell? ⟨b, o, none⟩ = some (bv x0)) (h1 : w.cell? ⟨b, o + 1, none⟩ = some (bv x1)) (h2 : w.cell? ⟨b, o + 2, none⟩ = some (bv x2)) (h3 : w.cell? ⟨b, o + 3, none⟩ = some (bv x3)) :
    Calls Try.prog 55 #[.slice (some ⟨b, o, none⟩) n cap] w fun e w' => e = .returned (.int .u32 (be32 x0 x1 x2 x3)) ∧ ∃ k, w' = w.drewN k := by
  have b0 := x0.toNat_lt
  have b1 := x1.toNat_lt
  have b2 := x2.toNat_lt
  have b3 := x3.toNat_lt
  go_enter Try.func55, Try.ntmps55
  go_wp2_with fail
  go_quiet (fail)
  go_wp2_with fail
  go_ret
  exact ⟨by rw [← be32_bits x0 x1 x2 x3]; rfl, _, rfl⟩

theorem beU64 (w : World) (b o n cap : Nat) (x0 x1 x2 x3 x4 x5 x6 x7 : UInt8) (hn : 8 ≤ n) (hcap : n ≤ cap) (hm : cap ≤ 9223372036854775807)
    (h0 : w.cell? ⟨b, o, none⟩ = some (bv x0)) (h1 : w.cell? ⟨b, o + 1, none⟩ = some (bv x1)) (h2 : w.cell? ⟨b, o + 2, none⟩ = some (bv x2)) (h3 : w.cell? ⟨b, o + 3, none⟩ = some (bv x3))
    (h4 : w.cell? ⟨b, o + 4, none⟩ = some (bv x4)) (h5 : w.cell? ⟨b, o + 5, none⟩ = some (bv x5)) (h6 : w.cell? ⟨b, o + 6, none⟩ = some (bv x6)) (h7 : w.cell? ⟨b, o + 7, none⟩ = some (bv x7)) :
    Calls Try.prog 56 #[.slice (some ⟨b, o, none⟩) n cap] w fun e w' => e = .returned (.int .u64 ((be32 x0 x1 x2 x3 * 4294967296 + be32 x4 x5 x6 x7 : Nat) : Int)) ∧ ∃ k, w' = w.drewN k := by
  have l0 := be32_lt x0 x1 x2 x3
  have l1 := be32_lt x4 x5 x6 x7
  have hn1 : (4 : Int) ≤ (n : Int) := by omega
  have hn2 : (n : Int) ≤ (cap : Int) := by omega
  have hc4 : ¬ cap = 4 := by omega
  have q0 : IntKind.u64.wrap ((be32 x0 x1 x2 x3 : Nat) : Int) = ((be32 x0 x1 x2 x3 : Nat) : Int) := by simp only [IntKind.wrap, IntKind.bits, IntKind.signed]; simp; omega
  have q1 : IntKind.u64.wrap ((be32 x4 x5 x6 x7 : Nat) : Int) = ((be32 x4 x5 x6 x7 : Nat) : Int) := by simp only [IntKind.wrap, IntKind.bits, IntKind.signed]; simp; omega
  have q2 : IntKind.u64.wrap (((be32 x0 x1 x2 x3 : Nat) : Int) * 4294967296) = ((be32 x0 x1 x2 x3 : Nat) : Int) * 4294967296 := by simp only [IntKind.wrap, IntKind.bits, IntKind.signed]; simp; omega
  go_enter Try.func56, Try.ntmps56
  go_wp2_with fail
  go_quiet ((first
    | (go_at_call 55; (with_reducible (refine Calls.quiet_of (beU32 _ b o n cap x0 x1 x2 x3 ?_ ?_ ?_ ?_ ?_ ?_ ?_))) <;> first | omega | (simp only [*]; done) | (simp [*]; done))
    | (go_at_call 55; (with_reducible (refine Calls.quiet_of (beU32 _ b (o + 4) (n - 4) (cap - 4) x4 x5 x6 x7 ?_ ?_ ?_ ?_ ?_ ?_ ?_))) <;> first | omega | (simp only [*]; done) | (simp [*]; done))))
  go_wp2_with fail
  go_ret
  exact ⟨by rw [← be64_bits _ _ l0 l1]; rfl, _, rfl⟩
end Go.Proofs.Ytlbhadggfipckaa
