/-
  spec.Plain and isPrintableASCII.
-/
import Derived.Test.YtlbhadggfipckaaTe
set_option linter.unusedVariables false
set_option linter.unusedSimpArgs false
namespace Go.Proofs.Ytlbhadggfipckaa
open Go.RowKit

def okSign (c : UInt8) : Prop := 32 ≤ (c.toNat : Int) ∧ (c.toNat : Int) ≤ 126

def PlainS (s : ByteArray) : Prop := (∀ k, ∀ h : k < s.size, okSign s[k]) ∧ 1 ≤ s.size ∧ s.size ≤ 50

def PlainPost (s : ByteArray) (w : World) (e : Ending) (w' : World) : Prop :=
  (e = .returned (.bool true) ∧ PlainS s ∨ e = .returned (.bool false)) ∧ w = w'

theorem plain_walk (s : ByteArray) (w : World) (hs : s.size ≤ 2147483647) : Calls Try.prog 13 #[.string s] w (PlainPost s w) := by
  go_enter Try.func13, Try.ntmps13
  go_wp2_with fail
  go_loop [6] (fun i => ∃ k : Nat, k ≤ s.size ∧ i = .int .i64 k ∧ Hid (∀ j, ∀ h : j < s.size, j < k → okSign s[j])) (fun i => s.size - (intOf i).toNat)
  case atStart => exact ⟨0, Nat.zero_le _, rfl, Lib.hid (fun j h hj => absurd hj (Nat.not_lt_zero _))⟩
  case round =>
    obtain ⟨k, hk, rfl, H⟩ := hrel
    by_cases hlt : k < s.size
    · have hb := s[k].toNat_lt
      by_cases h1 : (s[k].toNat : Int) < 32
      · go_wp2_with fail
        go_ret
        exact ⟨.inr rfl, rfl⟩
      · by_cases h2 : 126 < (s[k].toNat : Int)
        · have h1' : decide ((s[k].toNat : Int) < 32) = false := by simpa using h1
          go_wp2_with fail
          go_ret
          exact ⟨.inr rfl, rfl⟩
        · go_wp2_with fail
          go_round
          case rel => exact ⟨k + 1, by omega, by go_num, Lib.hid (fun j h hj => by
            rcases Nat.lt_or_ge j k with hjk | hjk
            · exact H.out j h hjk
            · obtain rfl : j = k := by omega
              unfold okSign
              omega)⟩
          case measure => simp [intOf]; omega
    · obtain rfl : k = s.size := by omega
      have hall : ∀ j, ∀ h : j < s.size, okSign s[j] := fun j h => H.out j h h
      clear H hlt hk
      by_cases h1 : 1 ≤ s.size
      · by_cases h2 : s.size ≤ 50
        · have A := Lib.hid hall
          clear hall
          have hd : decide ((s.size : Int) ≤ 50) = true := decide_eq_true (by omega)
          go_wp2_with fail
          go_ret
          exact ⟨.inl ⟨rfl, A.out, h1, h2⟩, rfl⟩
        · clear hall
          have hd : decide ((s.size : Int) ≤ 50) = false := decide_eq_false (by omega)
          go_wp2_with fail
          go_ret
          exact ⟨.inr rfl, rfl⟩
      · clear hall
        have hd : decide (1 ≤ (s.size : Int)) = false := decide_eq_false (by omega)
        go_wp2_with fail
        go_ret
        exact ⟨.inr rfl, rfl⟩

theorem ascii_walk (w : World) (A : Option Addr) (cap : Nat) (l : List UInt8) (hr : Rd w A (l.map bv)) (hl : l.length ≤ 2147483647) (hok : ∀ c ∈ l, okSign c) :
    Calls Try.prog 57 #[.slice A l.length cap] w fun e w' => e = .returned (.bool true) ∧ w = w' := by
  have Hok := Lib.hid hok
  clear hok
  have Hr := Lib.hid hr
  clear hr
  go_enter Try.func57, Try.ntmps57
  go_wp2_with fail
  go_loop [7] (fun i => ∃ k : Nat, k ≤ l.length ∧ i = .int .i64 k) (fun i => l.length - (intOf i).toNat)
  case atStart => exact ⟨0, Nat.zero_le _, rfl⟩
  case round =>
    obtain ⟨k, hk, rfl⟩ := hrel
    by_cases hlt : k < l.length
    · obtain ⟨b, o, rfl, hc⟩ := rd_at Hr.out (.inl (by simp; omega))
      have hck : w.cell? ⟨b, o + k, none⟩ = some (bv l[k]) := hc k (bv l[k]) (by rw [List.getElem?_map, List.getElem?_eq_getElem hlt]; rfl)
      have hs := Hok.out l[k] (List.getElem_mem _)
      clear hc
      obtain ⟨h1, h2⟩ := hs
      have h1' : decide ((l[k].toNat : Int) < 32) = false := decide_eq_false (by omega)
      go_wp2_with fail
      go_round
      case rel => exact ⟨k + 1, by omega, by go_num⟩
      case measure => simp [intOf]; omega
    · go_wp2_with fail
      go_ret
      exact ⟨rfl, rfl⟩
end Go.Proofs.Ytlbhadggfipckaa
