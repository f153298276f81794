/-
  Property.AsString of a printable text with a nought behind it; the closure that calls it; impl.Text.
-/
import Derived.Test.YtlbhadggfipckaaXa
set_option linter.unusedVariables false
set_option linter.unusedSimpArgs false
namespace Go.Proofs.Ytlbhadggfipckaa
open Go.RowKit

/-- The bytes of a list as a string's. -/
def strOf (l : List UInt8) : ByteArray := ⟨l.toArray⟩

theorem strOf_toList (s : ByteArray) : strOf s.data.toList = s := rfl

theorem strOfNums_bv (l : List UInt8) : strOfNums (l.map fun x => (x.toNat : Int)) = strOf l := by
  have h : (strOfNums (l.map fun x => (x.toNat : Int))).data.toList = (strOf l).data.toList := by
    rw [strOfNums_data, List.map_map]
    refine (List.map_congr_left (g := id) fun x _ => ?_).trans (List.map_id _)
    simp
  have h2 : (strOfNums (l.map fun x => (x.toNat : Int))).data = (strOf l).data := Array.toList_inj.1 h
  cases h3 : strOfNums (l.map fun x => (x.toNat : Int))
  rw [h3] at h2
  simp only at h2
  rw [h2]

theorem own_rd {w : World} {base e : Nat} {A : Option Addr} {n n' cap : Nat} {xs : List Value} (h : w.ownsRow base e 1 (.slice A n' cap) n xs) : Rd w A xs := by
  rcases h.2 with ⟨_, rfl⟩ | ⟨g, c, cur, hv, _, hg, h1, h2, h3, h4⟩
  · exact .inl (List.eq_nil_of_length_eq_zero (by simpa using h.1))
  · injection hv with hv
    subst hv
    refine .inr ⟨g, 0, rfl, fun j u hu => ?_⟩
    have := h.cells (g := g) rfl j u hu
    unfold Addr.add at this
    split at this
    · rename_i h0; subst h0; simpa using this
    · simpa using this

theorem len1 (l : List UInt8) (x : UInt8) : (l ++ [x]).length = l.length + 1 := by simp

theorem conv_str (w : World) (A : Option Addr) (n cap : Nat) (l : List UInt8) (hn : n = l.length) (hr : Rd w A (l.map bv)) :
    (convert 24 9 (.slice A n cap)).run Try.prog w = .ok (.string (strOf l)) w := by
  subst hn
  rcases hr with h | ⟨b, o, rfl, h⟩
  · have : l = [] := by simpa using h
    subst this
    rcases A with _ | a
    · exact run_convert_bytes_nil w 24 5 Try.underlying24 Try.underlying5 0 cap 9 Try.underlying9
    · simp [convert, run_underlying Try.underlying24, run_underlying Try.underlying9, run_underlying Try.underlying5, Conv.bytesToString, strOf]
      rfl
  · rw [← strOfNums_bv]
    exact run_convert_bytes_arg w 24 5 Try.underlying24 Try.underlying5 b o l.length cap _ (by simp) (fun i hi => by
      have := h i (bv (l[i]'(by simpa using hi))) (by rw [List.getElem?_map, List.getElem?_eq_getElem (by simpa using hi)]; rfl)
      rw [this]
      simp [List.getD_eq_getElem?_getD, List.getElem?_eq_getElem (show i < l.length by simpa using hi)]) 9 Try.underlying9

theorem asText (w : World) (p b cap : Nat) (l : List UInt8) (hl : l.length ≤ 2147483647) (hcap : l.length + 1 ≤ cap) (hm : cap ≤ 9223372036854775807)
    (hv : w.cell? ⟨p, 1, none⟩ = some (.slice (some ⟨b, 0, none⟩) (l.length + 1) cap)) (hr : Rd w (some ⟨b, 0, none⟩) ((l ++ [0]).map bv)) (hok : ∀ c ∈ l, okSign c) :
    Calls Try.prog 32 #[.pointer (some ⟨p, 0, none⟩)] w fun e w' => e = .returned (.tuple #[.string (strOf l), .nilIface]) ∧ ∃ k, w' = w.drewN k := by
  obtain ⟨b', o', hA, hc⟩ := rd_at hr (.inr (by simp))
  injection hA with hA
  injection hA with hA1 hA2
  subst hA1 hA2
  have hz : w.cell? ⟨b, l.length, none⟩ = some (.int .u8 0) := by
    have := hc l.length (bv 0) (by simp)
    rw [Nat.zero_add] at this
    exact this
  have hr' : Rd w (some ⟨b, 0, none⟩) (l.map bv) := .inr ⟨b, 0, rfl, fun j u hu => hc j u (by
    rw [List.map_append, List.getElem?_append_left (by have := (List.getElem?_eq_some_iff.1 hu).1; exact this)]; exact hu)⟩
  have Hr := Lib.hid hr'
  have Hok := Lib.hid hok
  clear hr hr' hok hc
  have hd : (((l.length : Int) + 1) == 0) = false := by simp; omega
  have hw : IntKind.i64.wrap (l.length : Int) = (l.length : Int) := by simp only [IntKind.wrap, IntKind.bits, IntKind.signed]; simp; omega
  have hi0 : (0 : Int) ≤ (l.length : Int) := by omega
  have hi1 : (l.length : Int) < (l.length : Int) + 1 := by omega
  have hi2 : (l.length : Int) ≤ (cap : Int) := by omega
  go_enter Try.func32, Try.ntmps32
  go_wp2_with fail
  go_quiet (fail)
  go_wp2_with fail
  go_quiet (fail)
  go_wp2_with fail
  refine (ascii_walk _ _ cap l ?_ hl Hok.out).mono ?_
  · exact Hr.out
  rintro e w' ⟨rfl, rfl⟩
  have hcv := fun k => conv_str (w.drewN k) (some ⟨b, 0, none⟩) l.length cap l rfl Hr.out
  go_wp2_with fail
  go_ret2
  exact ⟨rfl, _, rfl⟩

theorem closText (w : World) (p0 p1 : Nat) (v : Value) (l : List UInt8) (hv : w.cell? ⟨p0, 0, none⟩ = some v) (y : Value) (hn : w.cell? ⟨p1, 0, none⟩ = some y) (hf : w.frozen? ⟨p1, 0, none⟩ = false)
    (hs : SlB w v (l ++ [0])) (hl : l.length ≤ 2147483647) (hok : ∀ c ∈ l, okSign c) :
    Calls Try.prog 31 #[.pointer (some ⟨p0, 0, none⟩), .pointer (some ⟨p1, 0, none⟩)] w (ClosPost w p1 (.string (strOf l))) := by
  have hb : p1 < w.heap.size := World.block_lt_of_cell? w _ hn
  have Hok := Lib.hid hok
  clear hok
  go_enter Try.func31, Try.ntmps31
  go_wp2_with fail
  refine (clone_any w v _ hs (by simp; omega)).mono ?_
  rintro e w1 ⟨v', rfl, hown, hbl⟩
  obtain ⟨g, cap, rfl, hg, hlt⟩ := hown.form (by simp)
  have hcap := own_cap hown
  have hsl : Rd w1 (some ⟨g, 0, none⟩) ((l ++ [0]).map bv) := own_rd hown
  have cn : w1.cell? ⟨p1, 0, none⟩ = some y := (hbl.cell (p := ⟨p1, 0, none⟩) hb).trans hn
  have fn : w1.frozen? ⟨p1, 0, none⟩ = false := (hbl.frozen (p := ⟨p1, 0, none⟩) hb).trans hf
  have hb1 : p1 < w1.heap.size := Nat.lt_of_lt_of_le hb hbl.size
  have Hsl := Lib.hid hsl
  clear hsl hown
  rw [len1] at hcap
  rw [len1]
  go_wp2_with fail
  refine (asText _ w1.heap.size g cap l hl hcap.1 (by have := hcap.2; simp only [maxLen] at this; omega) ?_ ?_ Hok.out).mono ?_
  · simp [go_sem]
  · exact Hsl.out.alloc
  rintro e w2 ⟨rfl, k, rfl⟩
  go_wp2_with fail
  go_ret
  exact ⟨_, rfl, (blw_drewN (hbl.alloc hbl.size _) k), rfl⟩

theorem text_any (w : World) (v : Value) (l : List UInt8) (hs : SlB w v (l ++ [0])) (hl : l.length ≤ 2147483647) (hok : ∀ c ∈ l, okSign c) :
    Calls Try.prog 14 #[v] w (NumPost w (.string (strOf l))) := by
  have hmf : ∀ (fn : Fn) (first cap : Array Value) (w : World), (Instr.makeFunc fn first cap).run Try.prog w = .ok (.func fn first cap) w := fun _ _ _ _ => rfl
  obtain ⟨A, cap, rfl, hs'⟩ := id hs
  have Hok := Lib.hid hok
  clear hok
  rw [len1] at *
  have Hs := Lib.hid hs
  clear hs hs'
  go_enter Try.func14, Try.ntmps14
  go_wp2_with fail
  refine (try_var (B := w.heap.size) (p := w.heap.size + 1) (x := .string (strOf l)) (by omega) (y := .string ⟨#[]⟩) (by simp [go_sem]) (by simp [go_sem]) (fun _ => by kernel_rfl) ?_).mono ?_
  · refine closText _ w.heap.size (w.heap.size + 1) (.slice A (l.length + 1) cap) l ?_ (.string ⟨#[]⟩) ?_ ?_ (Hs.out.below ?_) hl Hok.out
    iterate 3 (simp [go_sem])
    exact ((((Below.refl w.heap.size w).alloc (Nat.le_refl _) _).alloc (by simp) _).alloc (by simp; omega) _)
  · rintro e w3 ⟨rfl, hb, hc, hf⟩
    have hb' : Below w.heap.size w w3 := (((Below.refl _ _).alloc (Nat.le_refl _) _).alloc (by simp) _).trans hb
    clear hb hmf
    go_wp2_with fail
    refine bodyPost_ret (v := .tuple #[.string (strOf l), .bool true]) (by simp [results, Try.results14, go_sem, World.cell?_setCell_same _ _ _ hc]) rfl ⟨rfl, hb'.setCell (by simp) _⟩
end Go.Proofs.Ytlbhadggfipckaa
