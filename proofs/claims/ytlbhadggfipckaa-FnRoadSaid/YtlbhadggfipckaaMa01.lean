/-
  spec.Plain and isPrintableASCII.
  Property.AsString of a printable text with a nought behind it; the closure that calls it; impl.Text.
  The walk of laws.FnText.
  Nodes and trees as plain data, and how they lie in memory.
-/
import Derived.Test.YtlbhadggfipckaaMa00
import Derived.Lib.ConvBytes
set_option linter.unusedVariables false
set_option linter.unusedSimpArgs false
namespace Go.Proofs.Ytlbhadggfipckaa
open Go.RowKit

def okSign (c : UInt8) : Prop := 32 ≤ (c.toNat : Int) ∧ (c.toNat : Int) ≤ 126

def PlainS (s : ByteArray) : Prop := (∀ k, ∀ h : k < s.size, okSign s[k]) ∧ 1 ≤ s.size ∧ s.size ≤ 50

def PlainPost (s : ByteArray) (w : World) (e : Ending) (w' : World) : Prop :=
  (e = .returned (.bool true) ∧ PlainS s ∨ e = .returned (.bool false)) ∧ w = w'

theorem plain_walk (s : ByteArray) (w : World) (hs : s.size ≤ 2147483647) : Calls Try.prog 13 #[.string s] w (PlainPost s w) := by
  go_enter Try.func13, Try.ntmps13
  go_wp2_with fail
  go_loop [6] (fun i => ∃ k : Nat, k ≤ s.size ∧ i = .int .i64 k ∧ Hid (∀ j, ∀ h : j < s.size, j < k → okSign s[j])) (fun i => s.size - (intOf i).toNat)
  case atStart => exact ⟨0, Nat.zero_le _, rfl, Lib.hid (fun j h hj => absurd hj (Nat.not_lt_zero _))⟩
  case round =>
    obtain ⟨k, hk, rfl, H⟩ := hrel
    by_cases hlt : k < s.size
    · have hb := s[k].toNat_lt
      by_cases h1 : (s[k].toNat : Int) < 32
      · go_wp2_with fail
        go_ret
        exact ⟨.inr rfl, rfl⟩
      · by_cases h2 : 126 < (s[k].toNat : Int)
        · have h1' : decide ((s[k].toNat : Int) < 32) = false := by simpa using h1
          go_wp2_with fail
          go_ret
          exact ⟨.inr rfl, rfl⟩
        · go_wp2_with fail
          go_round
          case rel => exact ⟨k + 1, by omega, by go_num, Lib.hid (fun j h hj => by
            rcases Nat.lt_or_ge j k with hjk | hjk
            · exact H.out j h hjk
            · obtain rfl : j = k := by omega
              unfold okSign
              omega)⟩
          case measure => simp [intOf]; omega
    · obtain rfl : k = s.size := by omega
      have hall : ∀ j, ∀ h : j < s.size, okSign s[j] := fun j h => H.out j h h
      clear H hlt hk
      by_cases h1 : 1 ≤ s.size
      · by_cases h2 : s.size ≤ 50
        · have A := Lib.hid hall
          clear hall
          have hd : decide ((s.size : Int) ≤ 50) = true := decide_eq_true (by omega)
          go_wp2_with fail
          go_ret
          exact ⟨.inl ⟨rfl, A.out, h1, h2⟩, rfl⟩
        · clear hall
          have hd : decide ((s.size : Int) ≤ 50) = false := decide_eq_false (by omega)
          go_wp2_with fail
          go_ret
          exact ⟨.inr rfl, rfl⟩
      · clear hall
        have hd : decide (1 ≤ (s.size : Int)) = false := decide_eq_false (by omega)
        go_wp2_with fail
        go_ret
        exact ⟨.inr rfl, rfl⟩

theorem ascii_walk (w : World) (A : Option Addr) (cap : Nat) (l : List UInt8) (hr : Rd w A (l.map bv)) (hl : l.length ≤ 2147483647) (hok : ∀ c ∈ l, okSign c) :
    Calls Try.prog 57 #[.slice A l.length cap] w fun e w' => e = .returned (.bool true) ∧ w = w' := by
  have Hok := Lib.hid hok
  clear hok
  have Hr := Lib.hid hr
  clear hr
  go_enter Try.func57, Try.ntmps57
  go_wp2_with fail
  go_loop [7] (fun i => ∃ k : Nat, k ≤ l.length ∧ i = .int .i64 k) (fun i => l.length - (intOf i).toNat)
  case atStart => exact ⟨0, Nat.zero_le _, rfl⟩
  case round =>
    obtain ⟨k, hk, rfl⟩ := hrel
    by_cases hlt : k < l.length
    · obtain ⟨b, o, rfl, hc⟩ := rd_at Hr.out (.inl (by simp; omega))
      have hck : w.cell? ⟨b, o + k, none⟩ = some (bv l[k]) := hc k (bv l[k]) (by rw [List.getElem?_map, List.getElem?_eq_getElem hlt]; rfl)
      have hs := Hok.out l[k] (List.getElem_mem _)
      clear hc
      obtain ⟨h1, h2⟩ := hs
      have h1' : decide ((l[k].toNat : Int) < 32) = false := decide_eq_false (by omega)
      go_wp2_with fail
      go_round
      case rel => exact ⟨k + 1, by omega, by go_num⟩
      case measure => simp [intOf]; omega
    · go_wp2_with fail
      go_ret
      exact ⟨rfl, rfl⟩
end Go.Proofs.Ytlbhadggfipckaa

set_option linter.unusedVariables false
set_option linter.unusedSimpArgs false
namespace Go.Proofs.Ytlbhadggfipckaa
open Go.RowKit

/-- The bytes of a list as a string's. -/
def strOf (l : List UInt8) : ByteArray := ⟨l.toArray⟩

theorem strOf_toList (s : ByteArray) : strOf s.data.toList = s := rfl

theorem strOfNums_bv (l : List UInt8) : strOfNums (l.map fun x => (x.toNat : Int)) = strOf l := by
  have h : (strOfNums (l.map fun x => (x.toNat : Int))).data.toList = (strOf l).data.toList := by
    rw [strOfNums_data, List.map_map]
    refine (List.map_congr_left (g := id) fun x _ => ?_).trans (List.map_id _)
    simp
  have h2 : (strOfNums (l.map fun x => (x.toNat : Int))).data = (strOf l).data := Array.toList_inj.1 h
  cases h3 : strOfNums (l.map fun x => (x.toNat : Int))
  rw [h3] at h2
  simp only at h2
  rw [h2]

theorem own_rd {w : World} {base e : Nat} {A : Option Addr} {n n' cap : Nat} {xs : List Value} (h : w.ownsRow base e 1 (.slice A n' cap) n xs) : Rd w A xs := by
  rcases h.2 with ⟨_, rfl⟩ | ⟨g, c, cur, hv, _, hg, h1, h2, h3, h4⟩
  · exact .inl (List.eq_nil_of_length_eq_zero (by simpa using h.1))
  · injection hv with hv
    subst hv
    refine .inr ⟨g, 0, rfl, fun j u hu => ?_⟩
    have := h.cells (g := g) rfl j u hu
    unfold Addr.add at this
    split at this
    · rename_i h0; subst h0; simpa using this
    · simpa using this

theorem len1 (l : List UInt8) (x : UInt8) : (l ++ [x]).length = l.length + 1 := by simp

theorem conv_str (w : World) (A : Option Addr) (n cap : Nat) (l : List UInt8) (hn : n = l.length) (hr : Rd w A (l.map bv)) :
    (convert 24 9 (.slice A n cap)).run Try.prog w = .ok (.string (strOf l)) w := by
  subst hn
  rcases hr with h | ⟨b, o, rfl, h⟩
  · have : l = [] := by simpa using h
    subst this
    rcases A with _ | a
    · exact run_convert_bytes_nil w 24 5 Try.underlying24 Try.underlying5 0 cap 9 Try.underlying9
    · simp [convert, run_underlying Try.underlying24, run_underlying Try.underlying9, run_underlying Try.underlying5, Conv.bytesToString, strOf]
      rfl
  · rw [← strOfNums_bv]
    exact run_convert_bytes_arg w 24 5 Try.underlying24 Try.underlying5 b o l.length cap _ (by simp) (fun i hi => by
      have := h i (bv (l[i]'(by simpa using hi))) (by rw [List.getElem?_map, List.getElem?_eq_getElem (by simpa using hi)]; rfl)
      rw [this]
      simp [List.getD_eq_getElem?_getD, List.getElem?_eq_getElem (show i < l.length by simpa using hi)]) 9 Try.underlying9

theorem asText (w : World) (p b cap : Nat) (l : List UInt8) (hl : l.length ≤ 2147483647) (hcap : l.length + 1 ≤ cap) (hm : cap ≤ 9223372036854775807)
    (hv : w.cell? ⟨p, 1, none⟩ = some (.slice (some ⟨b, 0, none⟩) (l.length + 1) cap)) (hr : Rd w (some ⟨b, 0, none⟩) ((l ++ [0]).map bv)) (hok : ∀ c ∈ l, okSign c) :
    Calls Try.prog 32 #[.pointer (some ⟨p, 0, none⟩)] w fun e w' => e = .returned (.tuple #[.string (strOf l), .nilIface]) ∧ ∃ k, w' = w.drewN k := by
  obtain ⟨b', o', hA, hc⟩ := rd_at hr (.inr (by simp))
  injection hA with hA
  injection hA with hA1 hA2
  subst hA1 hA2
  have hz : w.cell? ⟨b, l.length, none⟩ = some (.int .u8 0) := by
    have := hc l.length (bv 0) (by simp)
    rw [Nat.zero_add] at this
    exact this
  have hr' : Rd w (some ⟨b, 0, none⟩) (l.map bv) := .inr ⟨b, 0, rfl, fun j u hu => hc j u (by
    rw [List.map_append, List.getElem?_append_left (by have := (List.getElem?_eq_some_iff.1 hu).1; exact this)]; exact hu)⟩
  have Hr := Lib.hid hr'
  have Hok := Lib.hid hok
  clear hr hr' hok hc
  have hd : (((l.length : Int) + 1) == 0) = false := by simp; omega
  have hw : IntKind.i64.wrap (l.length : Int) = (l.length : Int) := by simp only [IntKind.wrap, IntKind.bits, IntKind.signed]; simp; omega
  have hi0 : (0 : Int) ≤ (l.length : Int) := by omega
  have hi1 : (l.length : Int) < (l.length : Int) + 1 := by omega
  have hi2 : (l.length : Int) ≤ (cap : Int) := by omega
  go_enter Try.func32, Try.ntmps32
  go_wp2_with fail
  go_quiet (fail)
  go_wp2_with fail
  go_quiet (fail)
  go_wp2_with fail
  refine (ascii_walk _ _ cap l ?_ hl Hok.out).mono ?_
  · exact Hr.out
  rintro e w' ⟨rfl, rfl⟩
  have hcv := fun k => conv_str (w.drewN k) (some ⟨b, 0, none⟩) l.length cap l rfl Hr.out
  go_wp2_with fail
  go_ret2
  exact ⟨rfl, _, rfl⟩

theorem closText (w : World) (p0 p1 : Nat) (v : Value) (l : List UInt8) (hv : w.cell? ⟨p0, 0, none⟩ = some v) (y : Value) (hn : w.cell? ⟨p1, 0, none⟩ = some y) (hf : w.frozen? ⟨p1, 0, none⟩ = false)
    (hs : SlB w v (l ++ [0])) (hl : l.length ≤ 2147483647) (hok : ∀ c ∈ l, okSign c) :
    Calls Try.prog 31 #[.pointer (some ⟨p0, 0, none⟩), .pointer (some ⟨p1, 0, none⟩)] w (ClosPost w p1 (.string (strOf l))) := by
  have hb : p1 < w.heap.size := World.block_lt_of_cell? w _ hn
  have Hok := Lib.hid hok
  clear hok
  go_enter Try.func31, Try.ntmps31
  go_wp2_with fail
  refine (clone_any w v _ hs (by simp; omega)).mono ?_
  rintro e w1 ⟨v', rfl, hown, hbl⟩
  obtain ⟨g, cap, rfl, hg, hlt⟩ := hown.form (by simp)
  have hcap := own_cap hown
  have hsl : Rd w1 (some ⟨g, 0, none⟩) ((l ++ [0]).map bv) := own_rd hown
  have cn : w1.cell? ⟨p1, 0, none⟩ = some y := (hbl.cell (p := ⟨p1, 0, none⟩) hb).trans hn
  have fn : w1.frozen? ⟨p1, 0, none⟩ = false := (hbl.frozen (p := ⟨p1, 0, none⟩) hb).trans hf
  have hb1 : p1 < w1.heap.size := Nat.lt_of_lt_of_le hb hbl.size
  have Hsl := Lib.hid hsl
  clear hsl hown
  rw [len1] at hcap
  rw [len1]
  go_wp2_with fail
  refine (asText _ w1.heap.size g cap l hl hcap.1 (by have := hcap.2; simp only [maxLen] at this; omega) ?_ ?_ Hok.out).mono ?_
  · simp [go_sem]
  · exact Hsl.out.alloc
  rintro e w2 ⟨rfl, k, rfl⟩
  go_wp2_with fail
  go_ret
  exact ⟨_, rfl, (blw_drewN (hbl.alloc hbl.size _) k), rfl⟩

theorem text_any (w : World) (v : Value) (l : List UInt8) (hs : SlB w v (l ++ [0])) (hl : l.length ≤ 2147483647) (hok : ∀ c ∈ l, okSign c) :
    Calls Try.prog 14 #[v] w (NumPost w (.string (strOf l))) := by
  have hmf : ∀ (fn : Fn) (first cap : Array Value) (w : World), (Instr.makeFunc fn first cap).run Try.prog w = .ok (.func fn first cap) w := fun _ _ _ _ => rfl
  obtain ⟨A, cap, rfl, hs'⟩ := id hs
  have Hok := Lib.hid hok
  clear hok
  rw [len1] at *
  have Hs := Lib.hid hs
  clear hs hs'
  go_enter Try.func14, Try.ntmps14
  go_wp2_with fail
  refine (try_var (B := w.heap.size) (p := w.heap.size + 1) (x := .string (strOf l)) (by omega) (y := .string ⟨#[]⟩) (by simp [go_sem]) (by simp [go_sem]) (fun _ => by kernel_rfl) ?_).mono ?_
  · refine closText _ w.heap.size (w.heap.size + 1) (.slice A (l.length + 1) cap) l ?_ (.string ⟨#[]⟩) ?_ ?_ (Hs.out.below ?_) hl Hok.out
    iterate 3 (simp [go_sem])
    exact ((((Below.refl w.heap.size w).alloc (Nat.le_refl _) _).alloc (by simp) _).alloc (by simp; omega) _)
  · rintro e w3 ⟨rfl, hb, hc, hf⟩
    have hb' : Below w.heap.size w w3 := (((Below.refl _ _).alloc (Nat.le_refl _) _).alloc (by simp) _).trans hb
    clear hb hmf
    go_wp2_with fail
    refine bodyPost_ret (v := .tuple #[.string (strOf l), .bool true]) (by simp [results, Try.results14, go_sem, World.cell?_setCell_same _ _ _ hc]) rfl ⟨rfl, hb'.setCell (by simp) _⟩
end Go.Proofs.Ytlbhadggfipckaa

set_option linter.unusedVariables false
set_option linter.unusedSimpArgs false
namespace Go.Proofs.Ytlbhadggfipckaa
open Go.RowKit

theorem blw_drew {B : Nat} {a w : World} (h : Below B a w) : Below B a w.drew := ⟨h.os, h.tape, h.output, h.size, h.block⟩

/-- One byte more behind the row that '[]byte(s)' made: there is room, or there is a new row. -/
theorem run_append_conv (W : World) (s : ByteArray) (x : UInt8) (hs : s.size ≤ 2147483647) :
    ∃ v' w', (Builtin.append_ #[24, 24] 24 #[.slice (some ⟨W.heap.size, 0, none⟩) s.size (grownCap W s.size 0 5), .slice (some ⟨W.heap.size + 1, 0, none⟩) 1 1]).run Try.prog ((Lib.bytesWorld W 5 s).alloc (.cells #[bv x] 5)) = .ok v' w' ∧
      SlB w' v' (s.data.toList ++ [x]) ∧ Below W.heap.size W w' := by
  obtain ⟨i0, hi, hz0, hz1, hz2⟩ := info_parts info5
  have hsz := Lib.bytesWorld_size W 5 s
  generalize hW1 : (Lib.bytesWorld W 5 s).alloc (.cells #[bv x] 5) = W1
  have hb1 : Below W.heap.size W W1 := by
    subst hW1
    refine ⟨rfl, rfl, rfl, by simp [hsz]; omega, fun k hk => ?_⟩
    rw [Below.heap_alloc _ _ _ (by omega), Lib.bytesWorld_at_old W 5 s k hk]
  have hget : ∀ j (hj : j < s.size), s.data.toList[j]? = some s.data[j] := fun j hj => by
    rw [List.getElem?_eq_getElem (by simpa using hj)]
    rfl
  have hold : ∀ j v, (s.data.toList.map bv)[j]? = some v → W1.cell? ((⟨W.heap.size, 0, none⟩ : Addr).add j) = some v := fun j v hv => by
    have hj : j < s.size := by have := (List.getElem?_eq_some_iff.1 hv).1; simpa using this
    have ha : (⟨W.heap.size, 0, none⟩ : Addr).add j = ⟨W.heap.size, j, none⟩ := by unfold Addr.add; split <;> simp_all
    rw [ha]
    subst hW1
    rw [World.cell?_alloc_lt _ _ _ (by simp [hsz]), Lib.bytesWorld_cell W 5 s j hj]
    rw [List.getElem?_map, hget j hj] at hv
    rw [List.getD_eq_getElem?_getD, hget j hj]
    exact hv
  have hnew : ∀ j v, [bv x][j]? = some v → W1.cell? ((⟨W.heap.size + 1, 0, none⟩ : Addr).add j) = some v := fun j v hv => by
    match j, hv with
    | 0, hv =>
      subst hW1
      cases hv
      have : (Lib.bytesWorld W 5 s).heap.size = W.heap.size + 1 := hsz
      rw [← this]
      simp [go_sem, Addr.add]
    | j + 1, hv => simp at hv
  have hbsz : (Lib.bytesCells W 5 s).size = grownCap W s.size 0 5 := by
    have := grownCap_ge W s.size 0 5
    simp [Lib.bytesCells]
    have e : s.data.size = s.size := rfl
    omega
  have hblk : W1.heap[W.heap.size]? = some (.cells (Lib.bytesCells W 5 s) 5 ((Lib.bytesCells W 5 s).size, (Lib.bytesCells W 5 s).size + 1)) := by
    subst hW1
    rw [Below.heap_alloc _ _ _ (by omega)]
    exact Lib.bytesWorld_at_new W 5 s
  by_cases hroom : s.size + 1 ≤ grownCap W s.size 0 5
  · have hc : W1.cell? ⟨W.heap.size, s.size, none⟩ = some ((Lib.bytesCells W 5 s)[s.size]'(by omega)) := by
      rw [cell_of_row W1 W.heap.size s.size _ 5 _ hblk, Array.getElem?_eq_getElem]
    have hf : W1.frozen? ⟨W.heap.size, s.size, none⟩ = false := by
      simp [World.frozen?, hblk]
      omega
    have hfc := run_firstCells_some (P := Try.prog) W1 i0.size 1 ⟨W.heap.size + 1, 0, none⟩ 1 1 [bv x] (by simp [hz1]) hnew
    have hst : (storeCells (⟨W.heap.size, s.size, none⟩ : Addr) [bv x] 0).run Try.prog W1 = .ok () (W1.setCells W.heap.size (s.size + 0) [bv x]) :=
      run_storeCells_cells W.heap.size s.size [bv x] 0 W1 (fun j hj => by simp at hj; subst hj; simpa using by rw [hc]; rfl) (fun j hj => by simp at hj; subst hj; simpa using hf) (by simp [Value.oneCell'])
    have ha : (⟨W.heap.size, 0, none⟩ : Addr).add s.size = ⟨W.heap.size, s.size, none⟩ := by unfold Addr.add; split <;> simp_all
    refine ⟨.slice (some ⟨W.heap.size, 0, none⟩) (s.size + 1) (grownCap W s.size 0 5), W1.setCell ⟨W.heap.size, s.size, none⟩ (bv x), ?_, ?_, ?_⟩
    · rw [hz1] at hfc
      simp [Builtin.append_, run_underlying Try.underlying24, sizeOf, typeInfo, hi, Builtin.lenOf, hroom, hz1, hfc, ha]
      simp at hst
      simp [hst, World.setCells]
    · refine ⟨some ⟨W.heap.size, 0, none⟩, grownCap W s.size 0 5, by simp, by simpa using hroom, grownCap_le_maxLen _ _ _ _ (by simp only [maxLen]; omega), .inr ⟨_, _, rfl, fun j u hu => ?_⟩⟩
      have hl : s.data.toList.length = s.size := by simp
      rw [Nat.zero_add]
      rcases Nat.lt_or_ge j s.size with hj | hj
      · rw [World.cell?_setCell_other _ _ _ _ (by intro hh; injection hh; omega)]
        have := hold j u (by rw [List.map_append, List.getElem?_append_left (by simpa using hj)] at hu; exact hu)
        unfold Addr.add at this
        split at this
        · rename_i h0; subst h0; exact this
        · simpa using this
      · have hj' : j = s.size := by
          have := (List.getElem?_eq_some_iff.1 hu).1
          simp at this
          omega
        subst hj'
        rw [List.map_append, List.getElem?_append_right (by simp)] at hu
        simp at hu
        subst hu
        exact World.cell?_setCell_same _ _ _ hc
    · exact hb1.setCell (by simp) _
  · have hr := run_append_grow (P := Try.prog) W1 24 24 5 i0 _ Try.underlying24 hi hz0 ⟨W.heap.size, 0, none⟩ s.size (grownCap W s.size 0 5) (s.data.toList.map bv) (by simp [hz1]) hold ⟨W.heap.size + 1, 0, none⟩ 1 1 [bv x] (by simp [hz1]) hnew (by omega) (by omega) (growslice_fits (by omega) (by rw [hz2]; omega))
    refine ⟨_, _, hr, ?_, ?_⟩
    · refine ⟨some ⟨W1.heap.size, 0, none⟩, grownCap W1 (s.size + 1) (grownCap W s.size 0 5) 5, by simp, by simpa using grownCap_ge W1 (s.size + 1) (grownCap W s.size 0 5) 5, grownCap_le_maxLen _ _ _ _ (by simp only [maxLen]; omega), .inr ⟨_, _, rfl, fun j u hu => ?_⟩⟩
      rw [cell_of_row _ W1.heap.size (0 + j) _ 5 (0, 0) (heap_alloc_new W1.drew _)]
      have hj := (List.getElem?_eq_some_iff.1 hu).1
      rw [Nat.zero_add, Array.getElem?_append_left (by simpa using hj)]
      rw [List.map_append] at hu
      simpa using hu
    · exact (blw_drew hb1).alloc hb1.size _

theorem wpList_append_conv {ops : Array Oper} {rest : List Oper} {o : Oper} {a : Act} {Q : Exit → Act → World → Prop} (W : World) (s : ByteArray) (x : UInt8) (hs : s.size ≤ 2147483647) (hgd : o.guard = none) (d y : Operand)
    (ho : o.op = .call { callee := .builtin .append, args := #[d, y], argTypes := #[24, 24] }) (hty : o.type = 24) (hd : a.eval d = .slice (some ⟨W.heap.size, 0, none⟩) s.size (grownCap W s.size 0 5)) (hy : a.eval y = .slice (some ⟨W.heap.size + 1, 0, none⟩) 1 1)
    (h : ∀ v' w', SlB w' v' (s.data.toList ++ [x]) → Below W.heap.size W w' → wpList Try.prog ops Q rest (a.put o.dst v') w') : wpList Try.prog ops Q (o :: rest) a ((Lib.bytesWorld W 5 s).alloc (.cells #[bv x] 5)) :=
  wpList_plain hgd fun _ hK => by
    obtain ⟨v', w', hr, h2, h3⟩ := run_append_conv W s x hs
    unfold Oper.wp execOp
    simp only [ho, hty, resolve, invoke, builtin, Sem.run_bind, Sem.run_pure, Result.andThen_ok, List.map_toArray, List.map_cons, List.map_nil, hd, hy, hr]
    exact hK _ _ (h v' w' h2 h3)

theorem text_walk (s : ByteArray) (w : World) (hs0 : s.size ≤ 9223372036854775807) :
    Calls Try.prog 4 #[.string s] w fun e w' => e = .returned (.bool true) ∧ Below w.heap.size w w' := by
  by_cases hs : s.size ≤ 2147483647
  · go_enter Try.func4, Try.ntmps4
    go_wp2_with fail
    refine (plain_walk s w hs).mono ?_
    rintro e w' ⟨hp, rfl⟩
    rcases hp with ⟨rfl, hp⟩ | rfl
    · have Hp := Lib.hid hp
      clear hp
      have hcv := fun w => Lib.run_convert_string_bytes (P := Try.prog) w 9 24 5 s Try.underlying9 Try.underlying24 Try.underlying5
      have hbz := Lib.bytesWorld_size w 5 s
      go_wp2_with (at_builtin; go_must (refine wpList_append_conv w s 0 hs rfl (.tmp 14) (.tmp 15) rfl rfl rfl rfl ?_); intro v' w1 hsl hb)
      refine (text_any w1 v' _ hsl (by simpa using hs) (fun c hc => ?_)).mono ?_
      · obtain ⟨k, hk, rfl⟩ := List.getElem_of_mem hc
        exact Hp.out.1 k (by simpa using hk)
      rintro e w2 ⟨rfl, hb2⟩
      rw [strOf_toList]
      go_wp2_with fail
      refine (works_true w2).mono ?_
      rintro e w3 ⟨rfl, hb3⟩
      go_wp2_with fail
      go_ret
      exact ⟨rfl, hb.trans ((hb2.mono hb.size).trans (hb3.mono (Nat.le_trans hb.size hb2.size)))⟩
    · go_wp2_with fail
      refine (works_true w).mono ?_
      rintro e w1 ⟨rfl, hb⟩
      go_wp2_with fail
      go_ret
      exact ⟨rfl, hb⟩
  · go_enter Try.func4, Try.ntmps4
    go_wp2_with fail
    go_ret
    exact ⟨rfl, Below.refl _ _⟩
end Go.Proofs.Ytlbhadggfipckaa

set_option linter.unusedVariables false
set_option linter.unusedSimpArgs false
namespace Go.Proofs.Ytlbhadggfipckaa
open Go.RowKit

structure Pr where
  name : ByteArray
  val : List UInt8

inductive Nd where
  | mk (name : ByteArray) (props : List Pr) (kids : List Nd)

def Nd.nm : Nd → ByteArray | .mk n _ _ => n
def Nd.ps : Nd → List Pr | .mk _ p _ => p
def Nd.ks : Nd → List Nd | .mk _ _ k => k

theorem Nd.ind {P : Nd → Prop} (h : ∀ n p k, (∀ x ∈ k, P x) → P (.mk n p k)) : ∀ x, P x
  | .mk n p k => h n p k fun x hx => Nd.ind h x
termination_by x => SizeOf.sizeOf x
decreasing_by
  have := List.sizeOf_lt_of_mem hx
  simp
  omega

structure Tr where
  ver : Int
  lc : Int
  boot : Int
  rooms : List (Int × Int)
  root : Nd

/-- The slice at A holds the cells xs, in a block of those that 'ok' names. -/
def RdO (w : World) (ok : Nat → Prop) (A : Option Addr) (xs : List Value) : Prop :=
  xs = [] ∨ ∃ b o, A = some ⟨b, o, none⟩ ∧ ok b ∧ ∀ j u, xs[j]? = some u → w.cell? ⟨b, o + j, none⟩ = some u

theorem RdO.rd {w : World} {ok : Nat → Prop} {A : Option Addr} {xs : List Value} (h : RdO w ok A xs) : Rd w A xs := by
  rcases h with h | ⟨b, o, h1, _, h2⟩
  · exact .inl h
  · exact .inr ⟨b, o, h1, h2⟩

/-- Nothing in the blocks that 'ok' names has turned. -/
def Same (ok : Nat → Prop) (w w' : World) : Prop := ∀ k, ok k → w'.heap[k]? = w.heap[k]?

theorem Same.cell {ok : Nat → Prop} {w w' : World} (h : Same ok w w') {b o : Nat} (hb : ok b) : w'.cell? ⟨b, o, none⟩ = w.cell? ⟨b, o, none⟩ := World.cell?_of_block (a := ⟨b, o, none⟩) (h b hb)

theorem RdO.mono {w w' : World} {ok ok' : Nat → Prop} {A : Option Addr} {xs : List Value} (h : RdO w ok A xs) (hs : Same ok w w') (ho : ∀ k, ok k → ok' k) : RdO w' ok' A xs := by
  rcases h with h | ⟨b, o, h1, hb, h2⟩
  · exact .inl h
  · exact .inr ⟨b, o, h1, ho b hb, fun j u hu => (hs.cell hb).trans (h2 j u hu)⟩

/-- a value: a slice of bytes -/
def ValC (w : World) (ok : Nat → Prop) (v : Value) (l : List UInt8) : Prop :=
  ∃ A c, v = .slice A l.length c ∧ l.length ≤ 140737488351232 ∧ l.length ≤ c ∧ c ≤ maxLen ∧ RdO w ok A (l.map bv)

theorem ValC.mono {w w' : World} {ok ok' : Nat → Prop} {v : Value} {l : List UInt8} (h : ValC w ok v l) (hs : Same ok w w') (ho : ∀ k, ok k → ok' k) : ValC w' ok' v l := by
  obtain ⟨A, c, h1, h2, h3, h4, h5⟩ := h
  exact ⟨A, c, h1, h2, h3, h4, h5.mono hs ho⟩

theorem ValC.slB {w : World} {ok : Nat → Prop} {v : Value} {l : List UInt8} (h : ValC w ok v l) : SlB w v l := by
  obtain ⟨A, c, h1, h2, h3, h4, h5⟩ := h
  exact ⟨A, c, h1, h3, h4, h5.rd⟩

/-- Pairs of cells in a row. -/
def DuoR (w : World) (b o : Nat) (ts : List (Value × Value)) : Prop :=
  ∀ i t, ts[i]? = some t → w.cell? ⟨b, o + i * 2, none⟩ = some t.1 ∧ w.cell? ⟨b, o + i * 2 + 1, none⟩ = some t.2

/-- Triples of cells in a row. -/
def TriR (w : World) (b o : Nat) (ts : List (Value × Value × Value)) : Prop :=
  ∀ i t, ts[i]? = some t → w.cell? ⟨b, o + i * 3, none⟩ = some t.1 ∧ w.cell? ⟨b, o + i * 3 + 1, none⟩ = some t.2.1 ∧ w.cell? ⟨b, o + i * 3 + 2, none⟩ = some t.2.2

def duo (t : Value × Value) : List Value := [t.1, t.2]
def tri (t : Value × Value × Value) : List Value := [t.1, t.2.1, t.2.2]

theorem duo_length (ts : List (Value × Value)) : (ts.flatMap duo).length = ts.length * 2 := by
  induction ts with
  | nil => rfl
  | cons t ts ih => simp [duo, ih]; omega

theorem tri_length (ts : List (Value × Value × Value)) : (ts.flatMap tri).length = ts.length * 3 := by
  induction ts with
  | nil => rfl
  | cons t ts ih => simp [tri, ih]; omega

theorem duo_get : ∀ (ts : List (Value × Value)) (i : Nat) (t : Value × Value), ts[i]? = some t → (ts.flatMap duo)[i * 2]? = some t.1 ∧ (ts.flatMap duo)[i * 2 + 1]? = some t.2
  | [], i, t, h => by simp at h
  | x :: ts, 0, t, h => by
    simp at h
    subst h
    simp [duo]
  | x :: ts, i + 1, t, h => by
    have := duo_get ts i t (by simpa using h)
    rw [show (i + 1) * 2 = i * 2 + 2 by omega]
    simpa [duo] using this

theorem tri_get : ∀ (ts : List (Value × Value × Value)) (i : Nat) (t : Value × Value × Value), ts[i]? = some t → (ts.flatMap tri)[i * 3]? = some t.1 ∧ (ts.flatMap tri)[i * 3 + 1]? = some t.2.1 ∧ (ts.flatMap tri)[i * 3 + 2]? = some t.2.2
  | [], i, t, h => by simp at h
  | x :: ts, 0, t, h => by
    simp at h
    subst h
    simp [tri]
  | x :: ts, i + 1, t, h => by
    have := tri_get ts i t (by simpa using h)
    rw [show (i + 1) * 3 = i * 3 + 3 by omega]
    simpa [tri] using this

theorem DuoR.mono {w w' : World} {b o : Nat} {ts : List (Value × Value)} (h : DuoR w b o ts) (hb : w'.heap[b]? = w.heap[b]?) : DuoR w' b o ts := fun i t ht =>
  ⟨(World.cell?_of_block (a := ⟨b, o + i * 2, none⟩) hb).trans (h i t ht).1, (World.cell?_of_block (a := ⟨b, o + i * 2 + 1, none⟩) hb).trans (h i t ht).2⟩

theorem TriR.mono {w w' : World} {b o : Nat} {ts : List (Value × Value × Value)} (h : TriR w b o ts) (hb : w'.heap[b]? = w.heap[b]?) : TriR w' b o ts := fun i t ht =>
  ⟨(World.cell?_of_block (a := ⟨b, o + i * 3, none⟩) hb).trans (h i t ht).1, (World.cell?_of_block (a := ⟨b, o + i * 3 + 1, none⟩) hb).trans (h i t ht).2.1, (World.cell?_of_block (a := ⟨b, o + i * 3 + 2, none⟩) hb).trans (h i t ht).2.2⟩

theorem own_duo {w : World} {base e g n cap : Nat} {ts : List (Value × Value)} (h : w.ownsRow base e 2 (.slice (some ⟨g, 0, none⟩) n cap) n (ts.flatMap duo)) : DuoR w g 0 ts := fun i t ht => by
  obtain ⟨h1, h2⟩ := duo_get ts i t ht
  have hl := duo_length ts
  have hi := (List.getElem?_eq_some_iff.1 ht).1
  have hn : ts.length * 2 = n * 2 := hl.symm.trans h.1
  exact ⟨by rw [Nat.zero_add, h.cellAt _ (by omega)]; exact h1, by rw [Nat.zero_add, h.cellAt _ (by omega)]; exact h2⟩

theorem own_tri {w : World} {base e g n cap : Nat} {ts : List (Value × Value × Value)} (h : w.ownsRow base e 3 (.slice (some ⟨g, 0, none⟩) n cap) n (ts.flatMap tri)) : TriR w g 0 ts := fun i t ht => by
  obtain ⟨h1, h2, h3⟩ := tri_get ts i t ht
  have hl := tri_length ts
  have hi := (List.getElem?_eq_some_iff.1 ht).1
  have hn : ts.length * 3 = n * 3 := hl.symm.trans h.1
  exact ⟨by rw [Nat.zero_add, h.cellAt _ (by omega)]; exact h1, by rw [Nat.zero_add, h.cellAt _ (by omega)]; exact h2, by rw [Nat.zero_add, h.cellAt _ (by omega)]; exact h3⟩

/-- One property's two cells. -/
def PrC (w : World) (ok : Nat → Prop) (p : Pr) (t : Value × Value) : Prop := t.1 = .string p.name ∧ p.name.size ≤ 140737488351232 ∧ ValC w ok t.2 p.val

theorem PrC.mono {w w' : World} {ok ok' : Nat → Prop} {p : Pr} {t : Value × Value} (h : PrC w ok p t) (hs : Same ok w w') (ho : ∀ k, ok k → ok' k) : PrC w' ok' p t := ⟨h.1, h.2.1, h.2.2.mono hs ho⟩

/-- Elements one by one. -/
def Each {α β : Type} (R : α → β → Prop) (xs : List α) (ys : List β) : Prop := xs.length = ys.length ∧ ∀ (i : Nat) (x : α) (y : β), xs[i]? = some x → ys[i]? = some y → R x y

theorem Each.nil {α β : Type} {R : α → β → Prop} : Each R [] [] := ⟨rfl, fun i x y h => by simp at h⟩
theorem Each.imp {α β : Type} {R S : α → β → Prop} {xs : List α} {ys : List β} (h : Each R xs ys) (hi : ∀ x y, R x y → S x y) : Each S xs ys := ⟨h.1, fun i x y hx hy => hi x y (h.2 i x y hx hy)⟩
theorem Each.snoc {α β : Type} {R : α → β → Prop} {xs : List α} {ys : List β} (h : Each R xs ys) {x : α} {y : β} (hxy : R x y) : Each R (xs ++ [x]) (ys ++ [y]) := by
  refine ⟨by simp [h.1], fun i a b ha hb => ?_⟩
  rcases Nat.lt_or_ge i xs.length with hi | hi
  · rw [List.getElem?_append_left hi] at ha
    rw [List.getElem?_append_left (by have := h.1; omega)] at hb
    exact h.2 i a b ha hb
  · rw [List.getElem?_append_right hi] at ha
    rw [List.getElem?_append_right (by have := h.1; omega)] at hb
    rw [← h.1] at hb
    cases hj : i - xs.length with
    | zero =>
      rw [hj] at ha hb
      simp at ha hb
      subst ha hb
      exact hxy
    | succ j => rw [hj] at ha; simp at ha

/-- A slice of properties. -/
def PropsC (w : World) (ok : Nat → Prop) (v : Value) (ps : List Pr) : Prop :=
  ∃ A c ts, v = .slice A ps.length c ∧ ps.length * 40 ≤ 140737488351232 ∧ ps.length ≤ c ∧ c ≤ maxLen ∧ Each (PrC w ok) ps ts ∧ (ps = [] ∨ ∃ b o, A = some ⟨b, o, none⟩ ∧ ok b ∧ DuoR w b o ts)

theorem PropsC.mono {w w' : World} {ok ok' : Nat → Prop} {v : Value} {ps : List Pr} (h : PropsC w ok v ps) (hs : Same ok w w') (ho : ∀ k, ok k → ok' k) : PropsC w' ok' v ps := by
  obtain ⟨A, c, ts, h1, h2, h3, h4, h5, h6⟩ := h
  refine ⟨A, c, ts, h1, h2, h3, h4, h5.imp fun _ _ h => h.mono hs ho, ?_⟩
  rcases h6 with h6 | ⟨b, o, e, hb, hd⟩
  · exact .inl h6
  · exact .inr ⟨b, o, e, ho b hb, hd.mono (hs b hb)⟩

/-- A node's three cells: its name, its properties, the nodes within. -/
inductive NodeC (w : World) (ok : Nat → Prop) : Nd → Value × Value × Value → Prop
  | mk {name : ByteArray} {ps : List Pr} {ks : List Nd} {vp : Value} {A : Option Addr} {c : Nat} (ts : List (Value × Value × Value)) (hn : name.size ≤ 140737488351232) (hp : PropsC w ok vp ps) (hl : ks.length * 64 ≤ 140737488351232)
      (hc : ks.length ≤ c) (hm : c ≤ maxLen) (hlen : ks.length = ts.length) (hk : ∀ (i : Nat) (x : Nd) (t : Value × Value × Value), ks[i]? = some x → ts[i]? = some t → NodeC w ok x t) (hr : ks = [] ∨ ∃ b o, A = some ⟨b, o, none⟩ ∧ ok b ∧ TriR w b o ts) :
      NodeC w ok (.mk name ps ks) (.string name, vp, .slice A ks.length c)

theorem NodeC.mono {w w' : World} {ok ok' : Nat → Prop} (hs : Same ok w w') (ho : ∀ k, ok k → ok' k) {n : Nd} {t : Value × Value × Value} (h : NodeC w ok n t) : NodeC w' ok' n t := by
  induction h with
  | mk ts hn hp hl hc hm hlen hk hr ih =>
    refine .mk ts hn (hp.mono hs ho) hl hc hm hlen ih ?_
    rcases hr with hr | ⟨b, o, e, hb, hd⟩
    · exact .inl hr
    · exact .inr ⟨b, o, e, ho b hb, hd.mono (hs b hb)⟩

/-- A slice of nodes. -/
def KidsC (w : World) (ok : Nat → Prop) (v : Value) (ks : List Nd) : Prop :=
  ∃ A c ts, v = .slice A ks.length c ∧ ks.length * 64 ≤ 140737488351232 ∧ ks.length ≤ c ∧ c ≤ maxLen ∧ Each (NodeC w ok) ks ts ∧ (ks = [] ∨ ∃ b o, A = some ⟨b, o, none⟩ ∧ ok b ∧ TriR w b o ts)

theorem NodeC.open_ {w : World} {ok : Nat → Prop} {name : ByteArray} {ps : List Pr} {ks : List Nd} {t : Value × Value × Value} (h : NodeC w ok (.mk name ps ks) t) :
    ∃ vp vk, t = (.string name, vp, vk) ∧ name.size ≤ 140737488351232 ∧ PropsC w ok vp ps ∧ KidsC w ok vk ks := by
  cases h with
  | mk ts hn hp hl hc hm hlen hk hr => exact ⟨_, _, rfl, hn, hp, _, _, ts, rfl, hl, hc, hm, ⟨hlen, hk⟩, hr⟩

theorem NodeC.shut {w : World} {ok : Nat → Prop} {name : ByteArray} {ps : List Pr} {ks : List Nd} {vp vk : Value} (hn : name.size ≤ 140737488351232) (hp : PropsC w ok vp ps) (hk : KidsC w ok vk ks) : NodeC w ok (.mk name ps ks) (.string name, vp, vk) := by
  obtain ⟨A, c, ts, rfl, hl, hc, hm, ⟨hlen, hk⟩, hr⟩ := hk
  exact .mk ts hn hp hl hc hm hlen hk hr

theorem KidsC.mono {w w' : World} {ok ok' : Nat → Prop} {v : Value} {ks : List Nd} (h : KidsC w ok v ks) (hs : Same ok w w') (ho : ∀ k, ok k → ok' k) : KidsC w' ok' v ks := by
  obtain ⟨A, c, ts, h1, h2, h3, h4, h5, h6⟩ := h
  refine ⟨A, c, ts, h1, h2, h3, h4, h5.imp fun _ _ h => h.mono hs ho, ?_⟩
  rcases h6 with h6 | ⟨b, o, e, hb, hd⟩
  · exact .inl h6
  · exact .inr ⟨b, o, e, ho b hb, hd.mono (hs b hb)⟩

/-- The rooms' cells. -/
def roomC (r : Int × Int) : Value × Value := (.int .u64 r.1, .int .u64 r.2)

def RoomsC (w : World) (ok : Nat → Prop) (v : Value) (rs : List (Int × Int)) : Prop :=
  ∃ A c, v = .slice A rs.length c ∧ rs.length * 16 ≤ 140737488351232 ∧ rs.length ≤ c ∧ c ≤ maxLen ∧ (∀ r ∈ rs, 0 ≤ r.1 ∧ r.1 ≤ 18446744073709551615 ∧ 0 ≤ r.2 ∧ r.2 ≤ 18446744073709551615) ∧
    (rs = [] ∨ ∃ b o, A = some ⟨b, o, none⟩ ∧ ok b ∧ DuoR w b o (rs.map roomC))

theorem RoomsC.mono {w w' : World} {ok ok' : Nat → Prop} {v : Value} {rs : List (Int × Int)} (h : RoomsC w ok v rs) (hs : Same ok w w') (ho : ∀ k, ok k → ok' k) : RoomsC w' ok' v rs := by
  obtain ⟨A, c, h1, h2, h3, h4, h5, h6⟩ := h
  refine ⟨A, c, h1, h2, h3, h4, h5, ?_⟩
  rcases h6 with h6 | ⟨b, o, e, hb, hd⟩
  · exact .inl h6
  · exact .inr ⟨b, o, e, ho b hb, hd.mono (hs b hb)⟩

/-- A tree's seven cells. -/
def TreeC (w : World) (ok : Nat → Prop) (t : Tr) (cs : Array Value) : Prop :=
  ∃ vr k, cs = #[.int .i64 t.ver, .int .i64 t.lc, .int .i64 t.boot, vr, k.1, k.2.1, k.2.2] ∧ RoomsC w ok vr t.rooms ∧ NodeC w ok t.root k ∧
    (-9223372036854775808 ≤ t.ver ∧ t.ver ≤ 9223372036854775807) ∧ (-9223372036854775808 ≤ t.lc ∧ t.lc ≤ 9223372036854775807) ∧ (-9223372036854775808 ≤ t.boot ∧ t.boot ≤ 9223372036854775807)

theorem TreeC.mono {w w' : World} {ok ok' : Nat → Prop} {t : Tr} {cs : Array Value} (h : TreeC w ok t cs) (hs : Same ok w w') (ho : ∀ k, ok k → ok' k) : TreeC w' ok' t cs := by
  obtain ⟨vr, k, h1, h2, h3, h4⟩ := h
  exact ⟨vr, k, h1, h2.mono hs ho, h3.mono hs ho, h4⟩

theorem Same.of_below {B : Nat} {w w' : World} (h : Below B w w') {ok : Nat → Prop} (ho : ∀ k, ok k → k < B) : Same ok w w' := fun k hk => h.block k (ho k hk)
theorem Same.refl (ok : Nat → Prop) (w : World) : Same ok w w := fun _ _ => rfl
theorem Same.trans {ok : Nat → Prop} {a b c : World} (h : Same ok a b) (k : Same ok b c) : Same ok a c := fun i hi => (k i hi).trans (h i hi)
end Go.Proofs.Ytlbhadggfipckaa
