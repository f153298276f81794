/-
  Node.Find, FDT.NodeByName and impl.way, on nodes by pointers.
-/
import Derived.Test.YtlbhadggfipckaaGc
import Derived.BigQuiet
import Derived.LaidEqlPtr
set_option linter.unusedVariables false
set_option linter.unusedSimpArgs false
namespace Go.Proofs.Ytlbhadggfipckaa
open Go.RowKit

mutual
def LT.findA (s : ByteArray) : LT → Option Nat
  | .mk b n _ ks => if n = s then some b else findAL s ks
def findAL (s : ByteArray) : List LT → Option Nat
  | [] => none
  | k :: r => match k.findA s with
    | some l => some l
    | none => findAL s r
end

mutual
def LT.way (q : Nat) : LT → Option (List ByteArray)
  | .mk b n _ ks => if b = q then some [n] else (wayL q ks).map (n :: ·)
def wayL (q : Nat) : List LT → Option (List ByteArray)
  | [] => none
  | k :: r => match k.way q with
    | some l => some l
    | none => wayL q r
end

theorem findAL_snoc (s : ByteArray) : ∀ (a : List LT) (x : LT), findAL s a = none → findAL s (a ++ [x]) = x.findA s
  | [], x, _ => by
    simp only [List.nil_append, findAL]
    cases x.findA s <;> rfl
  | k :: a, x, h => by
    simp only [List.cons_append, findAL] at h ⊢
    cases hk : k.findA s with
    | some l => rw [hk] at h; cases h
    | none => rw [hk] at h; exact findAL_snoc s a x h
theorem findAL_some (s : ByteArray) : ∀ (a b : List LT) (l : Nat), findAL s a = some l → findAL s (a ++ b) = some l
  | [], b, l, h => by cases h
  | k :: a, b, l, h => by
    simp only [List.cons_append, findAL] at h ⊢
    cases hk : k.findA s with
    | some l' => rw [hk] at h; exact h
    | none => rw [hk] at h; exact findAL_some s a b l h
theorem wayL_snoc (s : Nat) : ∀ (a : List LT) (x : LT), wayL s a = none → wayL s (a ++ [x]) = x.way s
  | [], x, _ => by
    simp only [List.nil_append, wayL]
    cases x.way s <;> rfl
  | k :: a, x, h => by
    simp only [List.cons_append, wayL] at h ⊢
    cases hk : k.way s with
    | some l => rw [hk] at h; cases h
    | none => rw [hk] at h; exact wayL_snoc s a x h
theorem wayL_some (s : Nat) : ∀ (a b : List LT) (l : List ByteArray), wayL s a = some l → wayL s (a ++ b) = some l
  | [], b, l, h => by cases h
  | k :: a, b, l, h => by
    simp only [List.cons_append, wayL] at h ⊢
    cases hk : k.way s with
    | some l' => rw [hk] at h; exact h
    | none => rw [hk] at h; exact wayL_some s a b l h

mutual
theorem LT.way_len (q : Nat) : ∀ (n : LT) (l : List ByteArray), n.way q = some l → 1 ≤ l.length ∧ l.length ≤ n.erase.depth
  | .mk b n ps ks, l, h => by
    simp only [LT.way] at h
    simp only [LT.erase, Nd.depth]
    split at h
    · cases h
      simp
    · cases hf : wayL q ks with
      | none => rw [hf] at h; cases h
      | some l' =>
        rw [hf] at h
        cases h
        have := wayL_len q ks l' hf
        simp
        omega
theorem wayL_len (q : Nat) : ∀ (ks : List LT) (l : List ByteArray), wayL q ks = some l → l.length ≤ depthL (eraseL ks)
  | [], l, h => by cases h
  | k :: r, l, h => by
    simp only [wayL] at h
    simp only [eraseL, depthL]
    cases hk : k.way q with
    | some l' =>
      rw [hk] at h
      cases h
      have := LT.way_len q k l hk
      omega
    | none =>
      rw [hk] at h
      have := wayL_len q r l h
      omega
end

mutual
theorem LT.way_mem (q : Nat) : ∀ (n : LT), q ∉ n.flat → n.way q = none
  | .mk b n ps ks, h => by
    simp only [LT.flat, List.mem_cons, not_or] at h
    simp only [LT.way]
    rw [if_neg (fun e => h.1 e.symm), wayL_mem q ks h.2]
    rfl
theorem wayL_mem (q : Nat) : ∀ (ks : List LT), q ∉ flatL ks → wayL q ks = none
  | [], h => rfl
  | k :: r, h => by
    simp only [flatL, List.mem_append, not_or] at h
    simp only [wayL, LT.way_mem q k h.1, wayL_mem q r h.2]
end

mutual
theorem LT.findA_mem (s : ByteArray) : ∀ (n : LT) (q : Nat), n.findA s = some q → q ∈ n.flat
  | .mk b n ps ks, q, h => by
    simp only [LT.findA] at h
    simp only [LT.flat]
    split at h
    · cases h; simp
    · exact List.mem_cons_of_mem _ (findAL_mem s ks q h)
theorem findAL_mem (s : ByteArray) : ∀ (ks : List LT) (q : Nat), findAL s ks = some q → q ∈ flatL ks
  | [], q, h => by cases h
  | k :: r, q, h => by
    simp only [findAL] at h
    simp only [flatL]
    cases hk : k.findA s with
    | some l' =>
      rw [hk] at h
      cases h
      exact List.mem_append_left _ (LT.findA_mem s k q hk)
    | none =>
      rw [hk] at h
      exact List.mem_append_right _ (findAL_mem s r q h)
end

mutual
theorem LT.find_none (s : ByteArray) : ∀ (n : LT), n.findA s = none → n.erase.find s = none
  | .mk b n ps ks, h => by
    simp only [LT.findA] at h
    simp only [LT.erase, Nd.find]
    split at h
    · cases h
    · rename_i hne
      rw [if_neg hne, findL_none s ks h]
      rfl
theorem findL_none (s : ByteArray) : ∀ (ks : List LT), findAL s ks = none → findL s (eraseL ks) = none
  | [], h => rfl
  | k :: r, h => by
    simp only [findAL] at h
    simp only [eraseL, findL]
    cases hk : k.findA s with
    | some l' => rw [hk] at h; cases h
    | none =>
      rw [hk] at h
      rw [LT.find_none s k hk]
      exact findL_none s r h
end

mutual
/-- The way to the first node of a name is what spec.Find gives. -/
theorem LT.way_find (s : ByteArray) : ∀ (n : LT) (q : Nat), n.flat.Nodup → n.findA s = some q → n.way q = n.erase.find s ∧ (n.erase.find s).isSome = true
  | .mk b n ps ks, q, hnd, h => by
    simp only [LT.flat] at hnd
    obtain ⟨h1, h2⟩ := List.nodup_cons.1 hnd
    simp only [LT.findA] at h
    simp only [LT.erase, Nd.find, LT.way]
    split at h
    · rename_i he
      cases h
      rw [if_pos rfl, if_pos he]
      exact ⟨rfl, rfl⟩
    · rename_i hne
      have hm := findAL_mem s ks q h
      obtain ⟨w1, w2⟩ := wayL_find s ks q h2 h
      have hbq : ¬ b = q := fun e => h1 (e ▸ hm)
      rw [if_neg hne, if_neg hbq, w1]
      cases hf : findL s (eraseL ks) with
      | none => rw [hf] at w2; cases w2
      | some l => exact ⟨rfl, rfl⟩
theorem wayL_find (s : ByteArray) : ∀ (ks : List LT) (q : Nat), (flatL ks).Nodup → findAL s ks = some q → wayL q ks = findL s (eraseL ks) ∧ (findL s (eraseL ks)).isSome = true
  | [], q, hnd, h => by cases h
  | k :: r, q, hnd, h => by
    simp only [flatL] at hnd
    obtain ⟨h1, h2, h3⟩ := List.nodup_append.1 hnd
    simp only [findAL] at h
    simp only [eraseL, findL, wayL]
    cases hk : k.findA s with
    | some l' =>
      rw [hk] at h
      cases h
      obtain ⟨w1, w2⟩ := LT.way_find s k q h1 hk
      rw [w1]
      cases hf : k.erase.find s with
      | none => rw [hf] at w2; cases w2
      | some l => exact ⟨rfl, rfl⟩
    | none =>
      rw [hk] at h
      have hm := findAL_mem s r q h
      rw [LT.way_mem q k (fun hq => h3 q hq q hm rfl), LT.find_none s k hk]
      exact wayL_find s r q h2 h
end

def WayPost (w : World) (r : Option (List ByteArray)) (e : Ending) (w' : World) : Prop :=
  ∃ v, e = .returned v ∧ Below w.heap.size w w' ∧ StrR w' w.heap.size v (r.getD []) ∧ (r = none → v = .slice none 0 0)

theorem depthL_getE {ks : List LT} {k : Nat} (h : k < ks.length) : ks[k].erase.depth ≤ depthL (eraseL ks) := by
  have h1 : k < (eraseL ks).length := by rw [eraseL_eq]; simpa using h
  have h2 := depthL_get h1
  have h3 : (eraseL ks)[k] = ks[k].erase := by simp [eraseL_eq]
  rw [h3] at h2
  exact h2

theorem own_some {w : World} {base n c : Nat} {e : TypeId} {size : Nat} {A : Option Addr} {xs : List Value} (h : w.ownsRow base e size (.slice A n c) n xs) (hn : 1 ≤ n) : ∃ g, A = some ⟨g, 0, none⟩ := by
  rcases (own_form h).2.2 with h | h
  · omega
  · exact h

theorem info130 : (Try.prog.info? 130).map (fun i => (i.zero, i.size, i.bytes)) = some (some (.agg #[.string ⟨#[]⟩, .slice none 0 0, .slice none 0 0]), 3, 64) := by kernel_rfl

theorem ptr_same (w : World) (b : Nat) : (binOp .eql 87 (.pointer (some ⟨b, 0, none⟩)) (.pointer (some ⟨b, 0, none⟩))).run Try.prog w = .ok (.bool true) w := by
  obtain ⟨i, hi, hz0, hz1, hz2⟩ := info_parts info130
  exact run_eql_ptr_same w _ Try.underlying87 hi

theorem ptr_ne {w : World} {b q : Nat} {cs cs' : Array Value} (h1 : Cs w b cs) (h2 : Cs w q cs') (hne : ¬ b = q) : (binOp .eql 87 (.pointer (some ⟨b, 0, none⟩)) (.pointer (some ⟨q, 0, none⟩))).run Try.prog w = .ok (.bool false) w := by
  obtain ⟨i, hi, hz0, hz1, hz2⟩ := info_parts info130
  obtain ⟨t1, h1⟩ := h1
  obtain ⟨t2, h2⟩ := h2
  exact run_eql_ptr_other w Try.underlying87 hi (by omega) (fun e => hne (by injection e)) h1 h2

set_option maxHeartbeats 1000000 in
theorem way_walk (q : Nat) (lt : LT) : ∀ (w : World) (ok : Nat → Prop), (∀ k, ok k → k < w.heap.size) → PN w ok lt → lt.erase.depth ≤ 1000 → ∀ csq, Cs w q csq → Calls Try.prog 39 #[.pointer (some ⟨lt.b, 0, none⟩), .pointer (some ⟨q, 0, none⟩)] w (WayPost w (lt.way q)) := by
  have hin := fun (w : World) (a : Option Addr) (n c : Nat) => Lib.run_eql_slice_nil (P := Try.prog) w 51 9 a n c 0 0 Try.underlying51
  refine LT.ind (P := fun lt => ∀ (w : World) (ok : Nat → Prop), (∀ k, ok k → k < w.heap.size) → PN w ok lt → lt.erase.depth ≤ 1000 → ∀ csq, Cs w q csq → Calls Try.prog 39 #[.pointer (some ⟨lt.b, 0, none⟩), .pointer (some ⟨q, 0, none⟩)] w (WayPost w (lt.way q))) ?_ lt
  intro b name ps ks IH w ok hok hn hdp csq hcq
  obtain ⟨vp, A, c, hob, hns, hcs, hps, hl1, hl2, hl3, hks, hrow⟩ := hn.open_
  have hfd : (LT.mk b name ps ks).way q = if b = q then some [name] else (wayL q ks).map (name :: ·) := by simp only [LT.way]
  have hdk : depthL (eraseL ks) ≤ 999 := by simp only [LT.erase, Nd.depth] at hdp; omega
  have c0 := hcs.cell 0
  have c2 := hcs.cell 2
  simp at c0 c2
  have hbl0 := hok b hob
  have Hk := Lib.hid hks
  have Hr := Lib.hid hrow
  have Hcs := Lib.hid hcs
  have IH := Lib.hid IH
  clear hps hn hdp hks hrow hcs
  show Calls Try.prog 39 #[.pointer (some ⟨b, 0, none⟩), .pointer (some ⟨q, 0, none⟩)] w _
  by_cases hs : b = q
  · subst hs
    rw [if_pos rfl] at hfd
    rw [hfd]
    have heq := ptr_same w b
    clear hfd hcq
    go_enter Try.func39, Try.ntmps39
    go_wp2_with fail
    go_ret
    refine ⟨_, rfl, (Below.refl _ _).alloc (by omega) _, (by show World.ownsRow _ _ 9 1 _ 1 [Value.string name]; simpa using World.ownsRow_lit (base := w.heap.size) (e := 9) (size := 1) w #[.string name] 1 (by simp) (by decide) rfl), fun h => by cases h⟩
  · rw [if_neg hs] at hfd
    rw [hfd]
    have heq := ptr_ne Hcs.out hcq hs
    have Hcq := Lib.hid hcq
    clear hfd hcq
    go_enter Try.func39, Try.ntmps39
    go_wp2_with fail
    go_loopw [21] (fun i wr => ∃ k : Nat, k ≤ ks.length ∧ i = .int .i64 k ∧ Below w.heap.size w wr ∧ wayL q (ks.take k) = none) (fun i _ => ks.length - (intOf i).toNat)
    case atStart => exact ⟨0, by omega, by go_num, Below.refl _ _, rfl⟩
    case round =>
      obtain ⟨k, hk, rfl, hF, hno⟩ := hrel
      by_cases hlt : k < ks.length
      · have hne : ks ≠ [] := by rintro rfl; simp at hlt
        obtain ⟨g, o, rfl, hog, hD⟩ := Hr.out.resolve_left hne
        have d1 := hD k ks[k] (List.getElem?_eq_getElem hlt)
        have hgo := hok g hog
        have tr : ∀ x y, x < w.heap.size → wr.cell? ⟨x, y, none⟩ = w.cell? ⟨x, y, none⟩ := fun x y hx => (World.cell?_of_block (a := ⟨x, y, none⟩) (hF.block x hx))
        rw [← tr g _ hgo] at d1
        have c0' : wr.cell? ⟨b, 0, none⟩ = some (.string name) := (tr b 0 hbl0).trans c0
        have sz := hF.size
        have hgl : g < wr.heap.size := by omega
        have hbl : b < wr.heap.size := by omega
        have hki : (0 : Int) ≤ (k : Int) := by omega
        have hdg := depthL_getE hlt
        have hI := IH.out ks[k] (List.getElem_mem hlt) wr ok (fun x hx => by have := hok x hx; omega) ((Hk.out _ (List.getElem_mem hlt)).mono (Same.of_below hF hok) (fun _ h => h)) (by omega) csq (Hcq.out.below hF (Hcq.out.lt))
        have hst : wayL q (ks.take (k + 1)) = ks[k].way q := by rw [List.take_succ_eq_append_getElem hlt]; exact wayL_snoc q _ _ hno
        have hfl : ∀ l, ks[k].way q = some l → wayL q ks = some l := fun l hl => by
          rw [← List.take_append_drop (k + 1) ks]
          exact wayL_some q _ _ l (hst.trans hl)
        have hlen := LT.way_len q ks[k]
        have HI := Lib.hid hI
        have HF := Lib.hid hF
        have Hst := Lib.hid (And.intro hst (And.intro hfl hlen))
        clear hD hI hF tr hst hfl hlen hno c0 c2
        generalize hfr : ks[k].way q = fr at *
        cases fr with
        | none =>
          go_wp2_with (go_at_call 39; refine HI.out.mono ?_; rintro e w1 ⟨v, rfl, hb, -, hv⟩; obtain rfl := hv rfl)
          go_roundw
          case rel => exact ⟨k + 1, by omega, by go_num, HF.out.trans (hb.mono (by omega)), Hst.out.1⟩
          case measure => simp [intOf]; omega
        | some l =>
          have hl := Hst.out.2.2 l rfl
          have hl1 : l.length ≤ 999 := by omega
          go_wp2_with (first | (go_at_call 39; refine HI.out.mono ?_; rintro e w1 ⟨v, rfl, hb, hst, -⟩; obtain ⟨A5, c5, rfl⟩ := own_slice hst; obtain ⟨g5, rfl⟩ := own_some hst hl.1; have c0'' : w1.cell? ⟨b, 0, none⟩ = some (.string name) := (hb.cell hbl).trans c0'; have s1z := hb.size) | (at_builtin; go_must (refine wpList_append_el el51 rfl (.tmp 34) (.tmp 35) rfl w.heap.size (.slice (some ⟨w1.heap.size, 0, none⟩) 1 1) 1 [.string name] rfl (by simpa using World.ownsRow_lit (base := w.heap.size) (e := 9) (size := 1) w1 #[.string name] 1 (by omega) (by decide) rfl) (some ⟨g5, 0, none⟩) l.length c5 (l.map Value.string) rfl (by simp) (own_rd (World.ownsRow.alloc hst _)) (by intro u hu; obtain ⟨x, -, rfl⟩ := List.mem_map.1 hu; rfl) (by omega) (by omega) (by simp; omega) ?_); intro v' w2 hown hgrow hnil hat; obtain ⟨A6, c6, rfl⟩ := own_slice hown; clear hnil))
          go_ret
          refine ⟨_, rfl, ((HF.out.trans (hb.mono (by omega))).alloc (by simp at *; omega) _).grown hgrow (by simp; omega) (fun g hg => ?_), ?_, fun h => ?_⟩
          · simp [Value.ownBlock] at hg
            omega
          · rw [Hst.out.2.1 l rfl]
            show World.ownsRow _ _ _ _ _ (l.length + 1) _
            rw [Nat.add_comm l.length 1]
            exact hown
          · rw [Hst.out.2.1 l rfl] at h
            cases h
      · obtain rfl : k = ks.length := by omega
        rw [List.take_length] at hno
        clear c0 c2
        have HF := Lib.hid hF
        clear hF
        go_wp2_with fail
        go_ret
        rw [hno]
        exact ⟨_, rfl, HF.out, World.ownsRow_nil _ _ _ _, fun _ => rfl⟩
end Go.Proofs.Ytlbhadggfipckaa
