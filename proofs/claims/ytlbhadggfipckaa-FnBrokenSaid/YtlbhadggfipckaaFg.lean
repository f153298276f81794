/-
  spec.name: whether a text is a name.
-/
import Derived.Test.YtlbhadggfipckaaFe
set_option linter.unusedVariables false
set_option linter.unusedSimpArgs false
namespace Go.Proofs.Ytlbhadggfipckaa
open Go.RowKit

def okName (c : UInt8) : Prop := 33 ≤ (c.toNat : Int) ∧ (c.toNat : Int) ≤ 126

def NameP (s : ByteArray) : Prop := (∀ k, ∀ h : k < s.size, okName s[k]) ∧ 1 ≤ s.size ∧ s.size ≤ 31

def NamePost (s : ByteArray) (w : World) (e : Ending) (w' : World) : Prop :=
  (e = .returned (.bool true) ∧ NameP s ∨ e = .returned (.bool false)) ∧ w = w'

theorem step_name {s : ByteArray} {k : Nat} {hk : k < s.size} (H : ∀ j, ∀ h : j < s.size, j < k → okName s[j]) (hc : okName s[k]) : ∀ j, ∀ h : j < s.size, j < k + 1 → okName s[j] := fun j h hj => by
  rcases Nat.lt_or_ge j k with hjk | hjk
  · exact H j h hjk
  · obtain rfl : j = k := by omega
    exact hc

set_option maxHeartbeats 1000000 in
theorem name_walk (s g : ByteArray) (w : World) (hs : s.size ≤ 140737488351232) (hg : g.size ≤ 100) (hok : ∀ k, ∀ h : k < g.size, okName g[k]) : Calls Try.prog 58 #[.string s, .string g] w (NamePost s w) := by
  have Hok := Lib.hid hok
  clear hok
  go_enter Try.func58, Try.ntmps58
  go_wp2_with fail
  go_loop [11] (fun i => ∃ k : Nat, k ≤ s.size ∧ i = .int .i64 k ∧ Hid (∀ j, ∀ h : j < s.size, j < k → okName s[j])) (fun i => s.size - (intOf i).toNat)
  case atStart => exact ⟨0, Nat.zero_le _, rfl, Lib.hid (fun j h hj => absurd hj (Nat.not_lt_zero _))⟩
  case round =>
    obtain ⟨k, hk, rfl, H⟩ := hrel
    by_cases hlt : k < s.size
    · have hb := s[k].toNat_lt
      go_wp2_with fail
      go_loop [19, 7] (fun i x => ∃ m : Nat, m ≤ g.size ∧ i = .int .i64 m ∧ ∃ b, x = .bool b ∧ (b = true → okName s[k])) (fun i x => g.size - (intOf i).toNat)
      case atStart => exact ⟨0, Nat.zero_le _, rfl, false, rfl, fun h => by simp at h⟩
      case round =>
        obtain ⟨m, hm, rfl, b, rfl, hbn⟩ := hrel
        by_cases hlt2 : m < g.size
        · have hb2 := g[m].toNat_lt
          cases b
          · by_cases heq : (g[m].toNat : Int) = (s[k].toNat : Int)
            · have he : ((g[m].toNat : Int) == (s[k].toNat : Int)) = true := by simpa using heq
              have hn : okName s[k] := by
                have := Hok.out m hlt2
                unfold okName at *
                omega
              go_wp2_with fail
              go_round
              case rel => exact ⟨m + 1, by omega, by go_num, true, rfl, fun _ => hn⟩
              case measure => simp [intOf]; omega
            · have he : ((g[m].toNat : Int) == (s[k].toNat : Int)) = false := by simpa using heq
              go_wp2_with fail
              go_round
              case rel => exact ⟨m + 1, by omega, by go_num, false, rfl, fun h => by simp at h⟩
              case measure => simp [intOf]; omega
          · go_wp2_with fail
            go_round
            case rel => exact ⟨m + 1, by omega, by go_num, true, rfl, hbn⟩
            case measure => simp [intOf]; omega
        · obtain rfl : m = g.size := by omega
          cases b
          · by_cases a1 : (s[k].toNat : Int) < 97
            · by_cases a3 : (s[k].toNat : Int) < 65
              · by_cases a5 : (s[k].toNat : Int) < 48
                · have d1 : decide ((s[k].toNat : Int) < 97) = true := decide_eq_true (by omega)
                  have d2 : decide (122 < (s[k].toNat : Int)) = false := decide_eq_false (by omega)
                  have d3 : decide ((s[k].toNat : Int) < 65) = true := decide_eq_true (by omega)
                  have d4 : decide (90 < (s[k].toNat : Int)) = false := decide_eq_false (by omega)
                  have d5 : decide ((s[k].toNat : Int) < 48) = true := decide_eq_true (by omega)
                  have d6 : decide (57 < (s[k].toNat : Int)) = false := decide_eq_false (by omega)
                  go_wp2_with fail
                  go_ret
                  exact ⟨.inr rfl, rfl⟩
                · by_cases a6 : 57 < (s[k].toNat : Int)
                  · have d1 : decide ((s[k].toNat : Int) < 97) = true := decide_eq_true (by omega)
                    have d2 : decide (122 < (s[k].toNat : Int)) = false := decide_eq_false (by omega)
                    have d3 : decide ((s[k].toNat : Int) < 65) = true := decide_eq_true (by omega)
                    have d4 : decide (90 < (s[k].toNat : Int)) = false := decide_eq_false (by omega)
                    have d5 : decide ((s[k].toNat : Int) < 48) = false := decide_eq_false (by omega)
                    have d6 : decide (57 < (s[k].toNat : Int)) = true := decide_eq_true (by omega)
                    go_wp2_with fail
                    go_ret
                    exact ⟨.inr rfl, rfl⟩
                  · have d1 : decide ((s[k].toNat : Int) < 97) = true := decide_eq_true (by omega)
                    have d2 : decide (122 < (s[k].toNat : Int)) = false := decide_eq_false (by omega)
                    have d3 : decide ((s[k].toNat : Int) < 65) = true := decide_eq_true (by omega)
                    have d4 : decide (90 < (s[k].toNat : Int)) = false := decide_eq_false (by omega)
                    have d5 : decide ((s[k].toNat : Int) < 48) = false := decide_eq_false (by omega)
                    have d6 : decide (57 < (s[k].toNat : Int)) = false := decide_eq_false (by omega)
                    go_wp2_with fail
                    have hc : okName s[k] := ⟨by omega, by omega⟩
                    go_round
                    case rel => exact ⟨k + 1, by omega, by go_num, Lib.hid (step_name H.out hc)⟩
                    case measure => simp [intOf]; omega
              · by_cases a4 : 90 < (s[k].toNat : Int)
                · have d1 : decide ((s[k].toNat : Int) < 97) = true := decide_eq_true (by omega)
                  have d2 : decide (122 < (s[k].toNat : Int)) = false := decide_eq_false (by omega)
                  have d3 : decide ((s[k].toNat : Int) < 65) = false := decide_eq_false (by omega)
                  have d4 : decide (90 < (s[k].toNat : Int)) = true := decide_eq_true (by omega)
                  have d5 : decide ((s[k].toNat : Int) < 48) = false := decide_eq_false (by omega)
                  have d6 : decide (57 < (s[k].toNat : Int)) = true := decide_eq_true (by omega)
                  go_wp2_with fail
                  go_ret
                  exact ⟨.inr rfl, rfl⟩
                · have d1 : decide ((s[k].toNat : Int) < 97) = true := decide_eq_true (by omega)
                  have d2 : decide (122 < (s[k].toNat : Int)) = false := decide_eq_false (by omega)
                  have d3 : decide ((s[k].toNat : Int) < 65) = false := decide_eq_false (by omega)
                  have d4 : decide (90 < (s[k].toNat : Int)) = false := decide_eq_false (by omega)
                  have d5 : decide ((s[k].toNat : Int) < 48) = false := decide_eq_false (by omega)
                  have d6 : decide (57 < (s[k].toNat : Int)) = true := decide_eq_true (by omega)
                  go_wp2_with fail
                  have hc : okName s[k] := ⟨by omega, by omega⟩
                  go_round
                  case rel => exact ⟨k + 1, by omega, by go_num, Lib.hid (step_name H.out hc)⟩
                  case measure => simp [intOf]; omega
            · by_cases a2 : 122 < (s[k].toNat : Int)
              · have d1 : decide ((s[k].toNat : Int) < 97) = false := decide_eq_false (by omega)
                have d2 : decide (122 < (s[k].toNat : Int)) = true := decide_eq_true (by omega)
                have d3 : decide ((s[k].toNat : Int) < 65) = false := decide_eq_false (by omega)
                have d4 : decide (90 < (s[k].toNat : Int)) = true := decide_eq_true (by omega)
                have d5 : decide ((s[k].toNat : Int) < 48) = false := decide_eq_false (by omega)
                have d6 : decide (57 < (s[k].toNat : Int)) = true := decide_eq_true (by omega)
                go_wp2_with fail
                go_ret
                exact ⟨.inr rfl, rfl⟩
              · have d1 : decide ((s[k].toNat : Int) < 97) = false := decide_eq_false (by omega)
                have d2 : decide (122 < (s[k].toNat : Int)) = false := decide_eq_false (by omega)
                have d3 : decide ((s[k].toNat : Int) < 65) = false := decide_eq_false (by omega)
                have d4 : decide (90 < (s[k].toNat : Int)) = true := decide_eq_true (by omega)
                have d5 : decide ((s[k].toNat : Int) < 48) = false := decide_eq_false (by omega)
                have d6 : decide (57 < (s[k].toNat : Int)) = true := decide_eq_true (by omega)
                go_wp2_with fail
                have hc : okName s[k] := ⟨by omega, by omega⟩
                go_round
                case rel => exact ⟨k + 1, by omega, by go_num, Lib.hid (step_name H.out hc)⟩
                case measure => simp [intOf]; omega
          · have hc := hbn rfl
            go_wp2_with fail
            go_round
            case rel => exact ⟨k + 1, by omega, by go_num, Lib.hid (step_name H.out hc)⟩
            case measure => simp [intOf]; omega
    · obtain rfl : k = s.size := by omega
      have hall : ∀ j, ∀ h : j < s.size, okName s[j] := fun j h => H.out j h h
      clear H hlt hk
      by_cases h1 : 1 ≤ s.size
      · by_cases h2 : s.size ≤ 31
        · have A := Lib.hid hall
          clear hall
          have hd : decide ((s.size : Int) ≤ 31) = true := decide_eq_true (by omega)
          go_wp2_with fail
          go_ret
          exact ⟨.inl ⟨rfl, A.out, h1, h2⟩, rfl⟩
        · clear hall
          have hd : decide ((s.size : Int) ≤ 31) = false := decide_eq_false (by omega)
          go_wp2_with fail
          go_ret
          exact ⟨.inr rfl, rfl⟩
      · clear hall
        have hd : decide (1 ≤ (s.size : Int)) = false := decide_eq_false (by omega)
        go_wp2_with fail
        go_ret
        exact ⟨.inr rfl, rfl⟩
end Go.Proofs.Ytlbhadggfipckaa
