/-
  The walk of laws.FnText.
-/
import Derived.Test.YtlbhadggfipckaaXb
import Derived.Lib.ConvBytes
set_option linter.unusedVariables false
set_option linter.unusedSimpArgs false
namespace Go.Proofs.Ytlbhadggfipckaa
open Go.RowKit

theorem blw_drew {B : Nat} {a w : World} (h : Below B a w) : Below B a w.drew := ⟨h.os, h.tape, h.output, h.size, h.block⟩

/-- One byte more behind the row that '[]byte(s)' made: there is room, or there is a new row. -/
theorem run_append_conv (W : World) (s : ByteArray) (x : UInt8) (hs : s.size ≤ 2147483647) :
    ∃ v' w', (Builtin.append_ #[24, 24] 24 #[.slice (some ⟨W.heap.size, 0, none⟩) s.size (grownCap W s.size 0 5), .slice (some ⟨W.heap.size + 1, 0, none⟩) 1 1]).run Try.prog ((Lib.bytesWorld W 5 s).alloc (.cells #[bv x] 5)) = .ok v' w' ∧
      SlB w' v' (s.data.toList ++ [x]) ∧ Below W.heap.size W w' := by
  obtain ⟨i0, hi, hz0, hz1, hz2⟩ := info_parts info5
  have hsz := Lib.bytesWorld_size W 5 s
  generalize hW1 : (Lib.bytesWorld W 5 s).alloc (.cells #[bv x] 5) = W1
  have hb1 : Below W.heap.size W W1 := by
    subst hW1
    refine ⟨rfl, rfl, rfl, by simp [hsz]; omega, fun k hk => ?_⟩
    rw [Below.heap_alloc _ _ _ (by omega), Lib.bytesWorld_at_old W 5 s k hk]
  have hget : ∀ j (hj : j < s.size), s.data.toList[j]? = some s.data[j] := fun j hj => by
    rw [List.getElem?_eq_getElem (by simpa using hj)]
    rfl
  have hold : ∀ j v, (s.data.toList.map bv)[j]? = some v → W1.cell? ((⟨W.heap.size, 0, none⟩ : Addr).add j) = some v := fun j v hv => by
    have hj : j < s.size := by have := (List.getElem?_eq_some_iff.1 hv).1; simpa using this
    have ha : (⟨W.heap.size, 0, none⟩ : Addr).add j = ⟨W.heap.size, j, none⟩ := by unfold Addr.add; split <;> simp_all
    rw [ha]
    subst hW1
    rw [World.cell?_alloc_lt _ _ _ (by simp [hsz]), Lib.bytesWorld_cell W 5 s j hj]
    rw [List.getElem?_map, hget j hj] at hv
    rw [List.getD_eq_getElem?_getD, hget j hj]
    exact hv
  have hnew : ∀ j v, [bv x][j]? = some v → W1.cell? ((⟨W.heap.size + 1, 0, none⟩ : Addr).add j) = some v := fun j v hv => by
    match j, hv with
    | 0, hv =>
      subst hW1
      cases hv
      have : (Lib.bytesWorld W 5 s).heap.size = W.heap.size + 1 := hsz
      rw [← this]
      simp [go_sem, Addr.add]
    | j + 1, hv => simp at hv
  have hbsz : (Lib.bytesCells W 5 s).size = grownCap W s.size 0 5 := by
    have := grownCap_ge W s.size 0 5
    simp [Lib.bytesCells]
    have e : s.data.size = s.size := rfl
    omega
  have hblk : W1.heap[W.heap.size]? = some (.cells (Lib.bytesCells W 5 s) 5 ((Lib.bytesCells W 5 s).size, (Lib.bytesCells W 5 s).size + 1)) := by
    subst hW1
    rw [Below.heap_alloc _ _ _ (by omega)]
    exact Lib.bytesWorld_at_new W 5 s
  by_cases hroom : s.size + 1 ≤ grownCap W s.size 0 5
  · have hc : W1.cell? ⟨W.heap.size, s.size, none⟩ = some ((Lib.bytesCells W 5 s)[s.size]'(by omega)) := by
      rw [cell_of_row W1 W.heap.size s.size _ 5 _ hblk, Array.getElem?_eq_getElem]
    have hf : W1.frozen? ⟨W.heap.size, s.size, none⟩ = false := by
      simp [World.frozen?, hblk]
      omega
    have hfc := run_firstCells_some (P := Try.prog) W1 i0.size 1 ⟨W.heap.size + 1, 0, none⟩ 1 1 [bv x] (by simp [hz1]) hnew
    have hst : (storeCells (⟨W.heap.size, s.size, none⟩ : Addr) [bv x] 0).run Try.prog W1 = .ok () (W1.setCells W.heap.size (s.size + 0) [bv x]) :=
      run_storeCells_cells W.heap.size s.size [bv x] 0 W1 (fun j hj => by simp at hj; subst hj; simpa using by rw [hc]; rfl) (fun j hj => by simp at hj; subst hj; simpa using hf) (by simp [Value.oneCell'])
    have ha : (⟨W.heap.size, 0, none⟩ : Addr).add s.size = ⟨W.heap.size, s.size, none⟩ := by unfold Addr.add; split <;> simp_all
    refine ⟨.slice (some ⟨W.heap.size, 0, none⟩) (s.size + 1) (grownCap W s.size 0 5), W1.setCell ⟨W.heap.size, s.size, none⟩ (bv x), ?_, ?_, ?_⟩
    · rw [hz1] at hfc
      simp [Builtin.append_, run_underlying Try.underlying24, sizeOf, typeInfo, hi, Builtin.lenOf, hroom, hz1, hfc, ha]
      simp at hst
      simp [hst, World.setCells]
    · refine ⟨some ⟨W.heap.size, 0, none⟩, grownCap W s.size 0 5, by simp, by simpa using hroom, grownCap_le_maxLen _ _ _ _ (by simp only [maxLen]; omega), .inr ⟨_, _, rfl, fun j u hu => ?_⟩⟩
      have hl : s.data.toList.length = s.size := by simp
      rw [Nat.zero_add]
      rcases Nat.lt_or_ge j s.size with hj | hj
      · rw [World.cell?_setCell_other _ _ _ _ (by intro hh; injection hh; omega)]
        have := hold j u (by rw [List.map_append, List.getElem?_append_left (by simpa using hj)] at hu; exact hu)
        unfold Addr.add at this
        split at this
        · rename_i h0; subst h0; exact this
        · simpa using this
      · have hj' : j = s.size := by
          have := (List.getElem?_eq_some_iff.1 hu).1
          simp at this
          omega
        subst hj'
        rw [List.map_append, List.getElem?_append_right (by simp)] at hu
        simp at hu
        subst hu
        exact World.cell?_setCell_same _ _ _ hc
    · exact hb1.setCell (by simp) _
  · have hr := run_append_grow (P := Try.prog) W1 24 24 5 i0 _ Try.underlying24 hi hz0 ⟨W.heap.size, 0, none⟩ s.size (grownCap W s.size 0 5) (s.data.toList.map bv) (by simp [hz1]) hold ⟨W.heap.size + 1, 0, none⟩ 1 1 [bv x] (by simp [hz1]) hnew (by omega) (by omega) (growslice_fits (by omega) (by rw [hz2]; omega))
    refine ⟨_, _, hr, ?_, ?_⟩
    · refine ⟨some ⟨W1.heap.size, 0, none⟩, grownCap W1 (s.size + 1) (grownCap W s.size 0 5) 5, by simp, by simpa using grownCap_ge W1 (s.size + 1) (grownCap W s.size 0 5) 5, grownCap_le_maxLen _ _ _ _ (by simp only [maxLen]; omega), .inr ⟨_, _, rfl, fun j u hu => ?_⟩⟩
      rw [cell_of_row _ W1.heap.size (0 + j) _ 5 (0, 0) (heap_alloc_new W1.drew _)]
      have hj := (List.getElem?_eq_some_iff.1 hu).1
      rw [Nat.zero_add, Array.getElem?_append_left (by simpa using hj)]
      rw [List.map_append] at hu
      simpa using hu
    · exact (blw_drew hb1).alloc hb1.size _

theorem wpList_append_conv {ops : Array Oper} {rest : List Oper} {o : Oper} {a : Act} {Q : Exit → Act → World → Prop} (W : World) (s : ByteArray) (x : UInt8) (hs : s.size ≤ 2147483647) (hgd : o.guard = none) (d y : Operand)
    (ho : o.op = .call { callee := .builtin .append, args := #[d, y], argTypes := #[24, 24] }) (hty : o.type = 24) (hd : a.eval d = .slice (some ⟨W.heap.size, 0, none⟩) s.size (grownCap W s.size 0 5)) (hy : a.eval y = .slice (some ⟨W.heap.size + 1, 0, none⟩) 1 1)
    (h : ∀ v' w', SlB w' v' (s.data.toList ++ [x]) → Below W.heap.size W w' → wpList Try.prog ops Q rest (a.put o.dst v') w') : wpList Try.prog ops Q (o :: rest) a ((Lib.bytesWorld W 5 s).alloc (.cells #[bv x] 5)) :=
  wpList_plain hgd fun _ hK => by
    obtain ⟨v', w', hr, h2, h3⟩ := run_append_conv W s x hs
    unfold Oper.wp execOp
    simp only [ho, hty, resolve, invoke, builtin, Sem.run_bind, Sem.run_pure, Result.andThen_ok, List.map_toArray, List.map_cons, List.map_nil, hd, hy, hr]
    exact hK _ _ (h v' w' h2 h3)

theorem text_walk (s : ByteArray) (w : World) (hs0 : s.size ≤ 9223372036854775807) :
    Calls Try.prog 4 #[.string s] w fun e w' => e = .returned (.bool true) ∧ Below w.heap.size w w' := by
  by_cases hs : s.size ≤ 2147483647
  · go_enter Try.func4, Try.ntmps4
    go_wp2_with fail
    refine (plain_walk s w hs).mono ?_
    rintro e w' ⟨hp, rfl⟩
    rcases hp with ⟨rfl, hp⟩ | rfl
    · have Hp := Lib.hid hp
      clear hp
      have hcv := fun w => Lib.run_convert_string_bytes (P := Try.prog) w 9 24 5 s Try.underlying9 Try.underlying24 Try.underlying5
      have hbz := Lib.bytesWorld_size w 5 s
      go_wp2_with (at_builtin; go_must (refine wpList_append_conv w s 0 hs rfl (.tmp 14) (.tmp 15) rfl rfl rfl rfl ?_); intro v' w1 hsl hb)
      refine (text_any w1 v' _ hsl (by simpa using hs) (fun c hc => ?_)).mono ?_
      · obtain ⟨k, hk, rfl⟩ := List.getElem_of_mem hc
        exact Hp.out.1 k (by simpa using hk)
      rintro e w2 ⟨rfl, hb2⟩
      rw [strOf_toList]
      go_wp2_with fail
      refine (works_true w2).mono ?_
      rintro e w3 ⟨rfl, hb3⟩
      go_wp2_with fail
      go_ret
      exact ⟨rfl, hb.trans ((hb2.mono hb.size).trans (hb3.mono (Nat.le_trans hb.size hb2.size)))⟩
    · go_wp2_with fail
      refine (works_true w).mono ?_
      rintro e w1 ⟨rfl, hb⟩
      go_wp2_with fail
      go_ret
      exact ⟨rfl, hb⟩
  · go_enter Try.func4, Try.ntmps4
    go_wp2_with fail
    go_ret
    exact ⟨rfl, Below.refl _ _⟩
end Go.Proofs.Ytlbhadggfipckaa
