/-
  spec.Find.
  Node.Find, FDT.NodeByName and impl.way, on nodes by pointers.
  Node.Find, FDT.NodeByName, impl.Find.
-/
import Derived.Test.YtlbhadggfipckaaMa07
import Derived.Test.YtlbhadggfipckaaMa01
import Derived.BigQuiet
import Derived.LaidEqlPtr
set_option linter.unusedVariables false
set_option linter.unusedSimpArgs false
namespace Go.Proofs.Ytlbhadggfipckaa
open Go.RowKit

mutual
def Nd.find (s : ByteArray) : Nd → Option (List ByteArray)
  | .mk n _ ks => if n = s then some [n] else (findL s ks).map (n :: ·)
def findL (s : ByteArray) : List Nd → Option (List ByteArray)
  | [] => none
  | k :: r => match k.find s with
    | some l => some l
    | none => findL s r
end

theorem findL_snoc (s : ByteArray) : ∀ (a : List Nd) (x : Nd), findL s a = none → findL s (a ++ [x]) = x.find s
  | [], x, _ => by
    simp only [List.nil_append, findL]
    cases x.find s <;> rfl
  | k :: a, x, h => by
    simp only [List.cons_append, findL] at h ⊢
    cases hk : k.find s with
    | some l => rw [hk] at h; cases h
    | none => rw [hk] at h; exact findL_snoc s a x h

theorem findL_some (s : ByteArray) : ∀ (a b : List Nd) (l : List ByteArray), findL s a = some l → findL s (a ++ b) = some l
  | [], b, l, h => by cases h
  | k :: a, b, l, h => by
    simp only [List.cons_append, findL] at h ⊢
    cases hk : k.find s with
    | some l' => rw [hk] at h; exact h
    | none => rw [hk] at h; exact findL_some s a b l h

mutual
theorem Nd.find_len (s : ByteArray) : ∀ (n : Nd) (l : List ByteArray), n.find s = some l → 1 ≤ l.length ∧ l.length ≤ n.depth
  | .mk n ps ks, l, h => by
    simp only [Nd.find] at h
    simp only [Nd.depth]
    split at h
    · cases h
      simp
    · cases hf : findL s ks with
      | none => rw [hf] at h; cases h
      | some l' =>
        rw [hf] at h
        cases h
        have := findL_len s ks l' hf
        simp
        omega
theorem findL_len (s : ByteArray) : ∀ (ks : List Nd) (l : List ByteArray), findL s ks = some l → l.length ≤ depthL ks
  | [], l, h => by cases h
  | k :: r, l, h => by
    simp only [findL] at h
    simp only [depthL]
    cases hk : k.find s with
    | some l' =>
      rw [hk] at h
      cases h
      have := Nd.find_len s k l hk
      omega
    | none =>
      rw [hk] at h
      have := findL_len s r l h
      omega
end

/-- The slice of texts. -/
def StrR (w : World) (base : Nat) (v : Value) (l : List ByteArray) : Prop := w.ownsRow base 9 1 v l.length (l.map Value.string)

def FindPost (w : World) (r : Option (List ByteArray)) (e : Ending) (w' : World) : Prop :=
  ∃ v, e = .returned (.tuple #[v, .bool r.isSome]) ∧ Below w.heap.size w w' ∧ StrR w' w.heap.size v (r.getD [])

theorem depthL_get {ks : List Nd} {k : Nat} (h : k < ks.length) : ks[k].depth ≤ depthL ks := by
  have h1 := (cost_take ks k h).2.2
  omega

theorem find_walk (s : ByteArray) (n : Nd) : ∀ (w : World) (ok : Nat → Prop) (t : Value × Value × Value), (∀ k, ok k → k < w.heap.size) → NodeC w ok n t → n.depth ≤ 1000 → Calls Try.prog 18 #[.agg #[t.1, t.2.1, t.2.2], .string s] w (FindPost w (n.find s)) := by
  refine Nd.ind (P := fun n => ∀ (w : World) (ok : Nat → Prop) (t : Value × Value × Value), (∀ k, ok k → k < w.heap.size) → NodeC w ok n t → n.depth ≤ 1000 → Calls Try.prog 18 #[.agg #[t.1, t.2.1, t.2.2], .string s] w (FindPost w (n.find s))) ?_ n
  intro name ps ks IH w ok t hok hn hdp
  obtain ⟨vp, vk, rfl, hns, hps, hks⟩ := hn.open_
  obtain ⟨Ap, cp, ts, rfl, hp1, hp2, hp3, hp4, hp5⟩ := hps
  obtain ⟨Ak, ck, us, rfl, hk1, hk2, hk3, hk4, hk5⟩ := hks
  have hfd : (Nd.mk name ps ks).find s = if name = s then some [name] else (findL s ks).map (name :: ·) := by simp only [Nd.find]
  have hdk : depthL ks ≤ 999 := by simp only [Nd.depth] at hdp; omega
  have Hk4 := Lib.hid hk4
  have Hk5 := Lib.hid hk5
  have IH := Lib.hid IH
  clear hp4 hp5 hk4 hk5 hn hdp
  by_cases hs : name = s
  · subst hs
    rw [if_pos rfl] at hfd
    rw [hfd]
    clear hfd
    go_enter Try.func18, Try.ntmps18
    go_wp2_with fail
    refine bodyPost_ret (v := .tuple #[.slice (some ⟨w.heap.size + 1, 0, none⟩) 1 1, .bool true]) (by simp [results, Try.results18, go_sem]) rfl ?_
    exact ⟨_, rfl, ((Below.refl _ _).alloc (by omega) _).alloc (by simp) _, (by show World.ownsRow _ _ 9 1 _ 1 [Value.string name]; simpa using World.ownsRow_lit (base := w.heap.size) (e := 9) (size := 1) (w.alloc _) #[.string name] 1 (by simp) (by decide) rfl)⟩
  · have hs2 := str_ne hs
    rw [if_neg hs] at hfd
    rw [hfd]
    clear hfd
    go_enter Try.func18, Try.ntmps18
    go_wp2_with fail
    go_loopw [20] (fun i wr => ∃ k : Nat, k ≤ ks.length ∧ i = .int .i64 k ∧ Below w.heap.size w wr ∧ Cs wr w.heap.size #[.string name, .slice Ap ps.length cp, .slice Ak ks.length ck] ∧ findL s (ks.take k) = none) (fun i _ => ks.length - (intOf i).toNat)
    case atStart => exact ⟨0, by omega, by go_num, (Below.refl _ _).alloc (by omega) _, Cs.new' _ _ _ _ rfl, rfl⟩
    case round =>
      obtain ⟨k, hk, rfl, hF, q, hno⟩ := hrel
      have z := q.lt
      have c0 := q.cell 0
      simp at c0
      by_cases hlt : k < ks.length
      · have hne : ks ≠ [] := by rintro rfl; simp at hlt
        obtain ⟨b, o, rfl, hob, hD⟩ := Hk5.out.resolve_left hne
        have hk4 := Hk4.out
        have hkp : ks[k]? = some ks[k] := List.getElem?_eq_getElem hlt
        have hlt2 : k < us.length := by rw [← hk4.1]; exact hlt
        have hkt : us[k]? = some (us[k]'hlt2) := List.getElem?_eq_getElem hlt2
        have hN := hk4.2 k _ _ hkp hkt
        obtain ⟨d1, d2, d3⟩ := hD k _ hkt
        have hbo := hok b hob
        have tr : ∀ x, w.cell? ⟨b, x, none⟩ = wr.cell? ⟨b, x, none⟩ := fun x => (World.cell?_of_block (a := ⟨b, x, none⟩) (hF.block b hbo)).symm
        rw [tr] at d1 d2 d3
        generalize us[k]'hlt2 = tk at *
        obtain ⟨s1, A3, n3, c3, A4, n4, c4, rfl⟩ := hN.form
        simp only at d1 d2 d3
        have hbl : b < wr.heap.size := by omega
        have hki : (0 : Int) ≤ (k : Int) := by omega
        have hdg := depthL_get hlt
        have hI := IH.out ks[k] (List.getElem_mem hlt) (wr.alloc (.cells #[.string s1, .slice A3 n3 c3, .slice A4 n4 c4] 46)) ok _ (fun x hx => by have := hok x hx; simp; omega) (NodeC.mono (Same.of_below (hF.alloc (by omega) _) hok) (fun _ h => h) hN) (by omega)
        have hst : findL s (ks.take (k + 1)) = ks[k].find s := by rw [List.take_succ_eq_append_getElem hlt]; exact findL_snoc s _ _ hno
        have hfl : ∀ l, ks[k].find s = some l → findL s ks = some l := fun l hl => by
          rw [← List.take_append_drop (k + 1) ks]
          exact findL_some s _ _ l (hst.trans hl)
        have hlen := Nd.find_len s ks[k]
        have HI := Lib.hid hI
        have HF := Lib.hid hF
        have Hq := Lib.hid q
        have Hst := Lib.hid (And.intro hst (And.intro hfl hlen))
        clear hkt hkp hD hk4 hN hI hF q tr hst hfl hlen hno
        generalize hfr : ks[k].find s = fr at *
        cases fr with
        | none =>
          go_wp2_with (go_at_call 18; refine HI.out.mono ?_; rintro e w1 ⟨v, rfl, hb, hst⟩)
          go_roundw
          case rel => exact ⟨k + 1, by omega, by go_num, (HF.out.alloc (by omega) _).trans (hb.mono (by simp; omega)), (Hq.out.alloc _).below hb (by simp; omega), Hst.out.1⟩
          case measure => simp [intOf]; omega
        | some l =>
          have hl := Hst.out.2.2 l rfl
          have hl1 : l.length ≤ 999 := by omega
          go_wp2_with (first | (go_at_call 18; refine HI.out.mono ?_; rintro e w1 ⟨v, rfl, hb, hst⟩; obtain ⟨A5, c5, rfl⟩ := own_slice hst; have q1 := (Hq.out.alloc (.cells #[.string s1, .slice A3 n3 c3, .slice A4 n4 c4] 46)).below hb (by simp; omega); have c0' := q1.cell 0; simp at c0'; have s1z := hb.size; simp at s1z) | (at_builtin; go_must (refine wpList_append_el el51 rfl (.tmp 33) (.tmp 34) rfl w.heap.size (.slice (some ⟨w1.heap.size, 0, none⟩) 1 1) 1 [.string name] rfl (by simpa using World.ownsRow_lit (base := w.heap.size) (e := 9) (size := 1) w1 #[.string name] 1 (by omega) (by decide) rfl) A5 l.length c5 (l.map Value.string) rfl (by simp) (own_rd (World.ownsRow.alloc hst _)) (by intro u hu; obtain ⟨x, -, rfl⟩ := List.mem_map.1 hu; rfl) (by omega) (by omega) (by simp; omega) ?_); intro v' w2 hown hgrow hnil hat; obtain ⟨A6, c6, rfl⟩ := own_slice hown; clear hnil))
          refine bodyPost_ret (v := .tuple #[.slice A6 (1 + l.length) c6, .bool true]) (by simp [results, Try.results18, go_sem]) rfl ?_
          refine ⟨_, by rw [Hst.out.2.1 l rfl]; rfl, (((HF.out.alloc (by omega) _).trans (hb.mono (by simp; omega))).alloc (by simp at *; omega) _).grown hgrow (by simp; omega) (fun g hg => ?_), ?_⟩
          · simp [Value.ownBlock] at hg
            omega
          · rw [Hst.out.2.1 l rfl]
            show World.ownsRow _ _ _ _ _ (l.length + 1) _
            rw [Nat.add_comm l.length 1]
            exact hown
      · obtain rfl : k = ks.length := by omega
        rw [List.take_length] at hno
        clear q c0
        have HF := Lib.hid hF
        clear hF
        go_wp2_with fail
        refine bodyPost_ret (v := .tuple #[.slice none 0 0, .bool false]) (by simp [results, Try.results18, go_sem]) rfl ?_
        rw [hno]
        exact ⟨_, rfl, HF.out, World.ownsRow_nil _ _ _ _⟩
end Go.Proofs.Ytlbhadggfipckaa

set_option linter.unusedVariables false
set_option linter.unusedSimpArgs false
namespace Go.Proofs.Ytlbhadggfipckaa
open Go.RowKit

mutual
def LT.findA (s : ByteArray) : LT → Option Nat
  | .mk b n _ ks => if n = s then some b else findAL s ks
def findAL (s : ByteArray) : List LT → Option Nat
  | [] => none
  | k :: r => match k.findA s with
    | some l => some l
    | none => findAL s r
end

mutual
def LT.way (q : Nat) : LT → Option (List ByteArray)
  | .mk b n _ ks => if b = q then some [n] else (wayL q ks).map (n :: ·)
def wayL (q : Nat) : List LT → Option (List ByteArray)
  | [] => none
  | k :: r => match k.way q with
    | some l => some l
    | none => wayL q r
end

theorem findAL_snoc (s : ByteArray) : ∀ (a : List LT) (x : LT), findAL s a = none → findAL s (a ++ [x]) = x.findA s
  | [], x, _ => by
    simp only [List.nil_append, findAL]
    cases x.findA s <;> rfl
  | k :: a, x, h => by
    simp only [List.cons_append, findAL] at h ⊢
    cases hk : k.findA s with
    | some l => rw [hk] at h; cases h
    | none => rw [hk] at h; exact findAL_snoc s a x h
theorem findAL_some (s : ByteArray) : ∀ (a b : List LT) (l : Nat), findAL s a = some l → findAL s (a ++ b) = some l
  | [], b, l, h => by cases h
  | k :: a, b, l, h => by
    simp only [List.cons_append, findAL] at h ⊢
    cases hk : k.findA s with
    | some l' => rw [hk] at h; exact h
    | none => rw [hk] at h; exact findAL_some s a b l h
theorem wayL_snoc (s : Nat) : ∀ (a : List LT) (x : LT), wayL s a = none → wayL s (a ++ [x]) = x.way s
  | [], x, _ => by
    simp only [List.nil_append, wayL]
    cases x.way s <;> rfl
  | k :: a, x, h => by
    simp only [List.cons_append, wayL] at h ⊢
    cases hk : k.way s with
    | some l => rw [hk] at h; cases h
    | none => rw [hk] at h; exact wayL_snoc s a x h
theorem wayL_some (s : Nat) : ∀ (a b : List LT) (l : List ByteArray), wayL s a = some l → wayL s (a ++ b) = some l
  | [], b, l, h => by cases h
  | k :: a, b, l, h => by
    simp only [List.cons_append, wayL] at h ⊢
    cases hk : k.way s with
    | some l' => rw [hk] at h; exact h
    | none => rw [hk] at h; exact wayL_some s a b l h

mutual
theorem LT.way_len (q : Nat) : ∀ (n : LT) (l : List ByteArray), n.way q = some l → 1 ≤ l.length ∧ l.length ≤ n.erase.depth
  | .mk b n ps ks, l, h => by
    simp only [LT.way] at h
    simp only [LT.erase, Nd.depth]
    split at h
    · cases h
      simp
    · cases hf : wayL q ks with
      | none => rw [hf] at h; cases h
      | some l' =>
        rw [hf] at h
        cases h
        have := wayL_len q ks l' hf
        simp
        omega
theorem wayL_len (q : Nat) : ∀ (ks : List LT) (l : List ByteArray), wayL q ks = some l → l.length ≤ depthL (eraseL ks)
  | [], l, h => by cases h
  | k :: r, l, h => by
    simp only [wayL] at h
    simp only [eraseL, depthL]
    cases hk : k.way q with
    | some l' =>
      rw [hk] at h
      cases h
      have := LT.way_len q k l hk
      omega
    | none =>
      rw [hk] at h
      have := wayL_len q r l h
      omega
end

mutual
theorem LT.way_mem (q : Nat) : ∀ (n : LT), q ∉ n.flat → n.way q = none
  | .mk b n ps ks, h => by
    simp only [LT.flat, List.mem_cons, not_or] at h
    simp only [LT.way]
    rw [if_neg (fun e => h.1 e.symm), wayL_mem q ks h.2]
    rfl
theorem wayL_mem (q : Nat) : ∀ (ks : List LT), q ∉ flatL ks → wayL q ks = none
  | [], h => rfl
  | k :: r, h => by
    simp only [flatL, List.mem_append, not_or] at h
    simp only [wayL, LT.way_mem q k h.1, wayL_mem q r h.2]
end

mutual
theorem LT.findA_mem (s : ByteArray) : ∀ (n : LT) (q : Nat), n.findA s = some q → q ∈ n.flat
  | .mk b n ps ks, q, h => by
    simp only [LT.findA] at h
    simp only [LT.flat]
    split at h
    · cases h; simp
    · exact List.mem_cons_of_mem _ (findAL_mem s ks q h)
theorem findAL_mem (s : ByteArray) : ∀ (ks : List LT) (q : Nat), findAL s ks = some q → q ∈ flatL ks
  | [], q, h => by cases h
  | k :: r, q, h => by
    simp only [findAL] at h
    simp only [flatL]
    cases hk : k.findA s with
    | some l' =>
      rw [hk] at h
      cases h
      exact List.mem_append_left _ (LT.findA_mem s k q hk)
    | none =>
      rw [hk] at h
      exact List.mem_append_right _ (findAL_mem s r q h)
end

mutual
theorem LT.find_none (s : ByteArray) : ∀ (n : LT), n.findA s = none → n.erase.find s = none
  | .mk b n ps ks, h => by
    simp only [LT.findA] at h
    simp only [LT.erase, Nd.find]
    split at h
    · cases h
    · rename_i hne
      rw [if_neg hne, findL_none s ks h]
      rfl
theorem findL_none (s : ByteArray) : ∀ (ks : List LT), findAL s ks = none → findL s (eraseL ks) = none
  | [], h => rfl
  | k :: r, h => by
    simp only [findAL] at h
    simp only [eraseL, findL]
    cases hk : k.findA s with
    | some l' => rw [hk] at h; cases h
    | none =>
      rw [hk] at h
      rw [LT.find_none s k hk]
      exact findL_none s r h
end

mutual
/-- The way to the first node of a name is what spec.Find gives. -/
theorem LT.way_find (s : ByteArray) : ∀ (n : LT) (q : Nat), n.flat.Nodup → n.findA s = some q → n.way q = n.erase.find s ∧ (n.erase.find s).isSome = true
  | .mk b n ps ks, q, hnd, h => by
    simp only [LT.flat] at hnd
    obtain ⟨h1, h2⟩ := List.nodup_cons.1 hnd
    simp only [LT.findA] at h
    simp only [LT.erase, Nd.find, LT.way]
    split at h
    · rename_i he
      cases h
      rw [if_pos rfl, if_pos he]
      exact ⟨rfl, rfl⟩
    · rename_i hne
      have hm := findAL_mem s ks q h
      obtain ⟨w1, w2⟩ := wayL_find s ks q h2 h
      have hbq : ¬ b = q := fun e => h1 (e ▸ hm)
      rw [if_neg hne, if_neg hbq, w1]
      cases hf : findL s (eraseL ks) with
      | none => rw [hf] at w2; cases w2
      | some l => exact ⟨rfl, rfl⟩
theorem wayL_find (s : ByteArray) : ∀ (ks : List LT) (q : Nat), (flatL ks).Nodup → findAL s ks = some q → wayL q ks = findL s (eraseL ks) ∧ (findL s (eraseL ks)).isSome = true
  | [], q, hnd, h => by cases h
  | k :: r, q, hnd, h => by
    simp only [flatL] at hnd
    obtain ⟨h1, h2, h3⟩ := List.nodup_append.1 hnd
    simp only [findAL] at h
    simp only [eraseL, findL, wayL]
    cases hk : k.findA s with
    | some l' =>
      rw [hk] at h
      cases h
      obtain ⟨w1, w2⟩ := LT.way_find s k q h1 hk
      rw [w1]
      cases hf : k.erase.find s with
      | none => rw [hf] at w2; cases w2
      | some l => exact ⟨rfl, rfl⟩
    | none =>
      rw [hk] at h
      have hm := findAL_mem s r q h
      rw [LT.way_mem q k (fun hq => h3 q hq q hm rfl), LT.find_none s k hk]
      exact wayL_find s r q h2 h
end

def WayPost (w : World) (r : Option (List ByteArray)) (e : Ending) (w' : World) : Prop :=
  ∃ v, e = .returned v ∧ Below w.heap.size w w' ∧ StrR w' w.heap.size v (r.getD []) ∧ (r = none → v = .slice none 0 0)

theorem depthL_getE {ks : List LT} {k : Nat} (h : k < ks.length) : ks[k].erase.depth ≤ depthL (eraseL ks) := by
  have h1 : k < (eraseL ks).length := by rw [eraseL_eq]; simpa using h
  have h2 := depthL_get h1
  have h3 : (eraseL ks)[k] = ks[k].erase := by simp [eraseL_eq]
  rw [h3] at h2
  exact h2

theorem own_some {w : World} {base n c : Nat} {e : TypeId} {size : Nat} {A : Option Addr} {xs : List Value} (h : w.ownsRow base e size (.slice A n c) n xs) (hn : 1 ≤ n) : ∃ g, A = some ⟨g, 0, none⟩ := by
  rcases (own_form h).2.2 with h | h
  · omega
  · exact h

theorem info130 : (Try.prog.info? 130).map (fun i => (i.zero, i.size, i.bytes)) = some (some (.agg #[.string ⟨#[]⟩, .slice none 0 0, .slice none 0 0]), 3, 64) := by kernel_rfl

theorem ptr_same (w : World) (b : Nat) : (binOp .eql 87 (.pointer (some ⟨b, 0, none⟩)) (.pointer (some ⟨b, 0, none⟩))).run Try.prog w = .ok (.bool true) w := by
  obtain ⟨i, hi, hz0, hz1, hz2⟩ := info_parts info130
  exact run_eql_ptr_same w _ Try.underlying87 hi

theorem ptr_ne {w : World} {b q : Nat} {cs cs' : Array Value} (h1 : Cs w b cs) (h2 : Cs w q cs') (hne : ¬ b = q) : (binOp .eql 87 (.pointer (some ⟨b, 0, none⟩)) (.pointer (some ⟨q, 0, none⟩))).run Try.prog w = .ok (.bool false) w := by
  obtain ⟨i, hi, hz0, hz1, hz2⟩ := info_parts info130
  obtain ⟨t1, h1⟩ := h1
  obtain ⟨t2, h2⟩ := h2
  exact run_eql_ptr_other w Try.underlying87 hi (by omega) (fun e => hne (by injection e)) h1 h2

set_option maxHeartbeats 1000000 in
theorem way_walk (q : Nat) (lt : LT) : ∀ (w : World) (ok : Nat → Prop), (∀ k, ok k → k < w.heap.size) → PN w ok lt → lt.erase.depth ≤ 1000 → ∀ csq, Cs w q csq → Calls Try.prog 39 #[.pointer (some ⟨lt.b, 0, none⟩), .pointer (some ⟨q, 0, none⟩)] w (WayPost w (lt.way q)) := by
  have hin := fun (w : World) (a : Option Addr) (n c : Nat) => Lib.run_eql_slice_nil (P := Try.prog) w 51 9 a n c 0 0 Try.underlying51
  refine LT.ind (P := fun lt => ∀ (w : World) (ok : Nat → Prop), (∀ k, ok k → k < w.heap.size) → PN w ok lt → lt.erase.depth ≤ 1000 → ∀ csq, Cs w q csq → Calls Try.prog 39 #[.pointer (some ⟨lt.b, 0, none⟩), .pointer (some ⟨q, 0, none⟩)] w (WayPost w (lt.way q))) ?_ lt
  intro b name ps ks IH w ok hok hn hdp csq hcq
  obtain ⟨vp, A, c, hob, hns, hcs, hps, hl1, hl2, hl3, hks, hrow⟩ := hn.open_
  have hfd : (LT.mk b name ps ks).way q = if b = q then some [name] else (wayL q ks).map (name :: ·) := by simp only [LT.way]
  have hdk : depthL (eraseL ks) ≤ 999 := by simp only [LT.erase, Nd.depth] at hdp; omega
  have c0 := hcs.cell 0
  have c2 := hcs.cell 2
  simp at c0 c2
  have hbl0 := hok b hob
  have Hk := Lib.hid hks
  have Hr := Lib.hid hrow
  have Hcs := Lib.hid hcs
  have IH := Lib.hid IH
  clear hps hn hdp hks hrow hcs
  show Calls Try.prog 39 #[.pointer (some ⟨b, 0, none⟩), .pointer (some ⟨q, 0, none⟩)] w _
  by_cases hs : b = q
  · subst hs
    rw [if_pos rfl] at hfd
    rw [hfd]
    have heq := ptr_same w b
    clear hfd hcq
    go_enter Try.func39, Try.ntmps39
    go_wp2_with fail
    go_ret
    refine ⟨_, rfl, (Below.refl _ _).alloc (by omega) _, (by show World.ownsRow _ _ 9 1 _ 1 [Value.string name]; simpa using World.ownsRow_lit (base := w.heap.size) (e := 9) (size := 1) w #[.string name] 1 (by simp) (by decide) rfl), fun h => by cases h⟩
  · rw [if_neg hs] at hfd
    rw [hfd]
    have heq := ptr_ne Hcs.out hcq hs
    have Hcq := Lib.hid hcq
    clear hfd hcq
    go_enter Try.func39, Try.ntmps39
    go_wp2_with fail
    go_loopw [21] (fun i wr => ∃ k : Nat, k ≤ ks.length ∧ i = .int .i64 k ∧ Below w.heap.size w wr ∧ wayL q (ks.take k) = none) (fun i _ => ks.length - (intOf i).toNat)
    case atStart => exact ⟨0, by omega, by go_num, Below.refl _ _, rfl⟩
    case round =>
      obtain ⟨k, hk, rfl, hF, hno⟩ := hrel
      by_cases hlt : k < ks.length
      · have hne : ks ≠ [] := by rintro rfl; simp at hlt
        obtain ⟨g, o, rfl, hog, hD⟩ := Hr.out.resolve_left hne
        have d1 := hD k ks[k] (List.getElem?_eq_getElem hlt)
        have hgo := hok g hog
        have tr : ∀ x y, x < w.heap.size → wr.cell? ⟨x, y, none⟩ = w.cell? ⟨x, y, none⟩ := fun x y hx => (World.cell?_of_block (a := ⟨x, y, none⟩) (hF.block x hx))
        rw [← tr g _ hgo] at d1
        have c0' : wr.cell? ⟨b, 0, none⟩ = some (.string name) := (tr b 0 hbl0).trans c0
        have sz := hF.size
        have hgl : g < wr.heap.size := by omega
        have hbl : b < wr.heap.size := by omega
        have hki : (0 : Int) ≤ (k : Int) := by omega
        have hdg := depthL_getE hlt
        have hI := IH.out ks[k] (List.getElem_mem hlt) wr ok (fun x hx => by have := hok x hx; omega) ((Hk.out _ (List.getElem_mem hlt)).mono (Same.of_below hF hok) (fun _ h => h)) (by omega) csq (Hcq.out.below hF (Hcq.out.lt))
        have hst : wayL q (ks.take (k + 1)) = ks[k].way q := by rw [List.take_succ_eq_append_getElem hlt]; exact wayL_snoc q _ _ hno
        have hfl : ∀ l, ks[k].way q = some l → wayL q ks = some l := fun l hl => by
          rw [← List.take_append_drop (k + 1) ks]
          exact wayL_some q _ _ l (hst.trans hl)
        have hlen := LT.way_len q ks[k]
        have HI := Lib.hid hI
        have HF := Lib.hid hF
        have Hst := Lib.hid (And.intro hst (And.intro hfl hlen))
        clear hD hI hF tr hst hfl hlen hno c0 c2
        generalize hfr : ks[k].way q = fr at *
        cases fr with
        | none =>
          go_wp2_with (go_at_call 39; refine HI.out.mono ?_; rintro e w1 ⟨v, rfl, hb, -, hv⟩; obtain rfl := hv rfl)
          go_roundw
          case rel => exact ⟨k + 1, by omega, by go_num, HF.out.trans (hb.mono (by omega)), Hst.out.1⟩
          case measure => simp [intOf]; omega
        | some l =>
          have hl := Hst.out.2.2 l rfl
          have hl1 : l.length ≤ 999 := by omega
          go_wp2_with (first | (go_at_call 39; refine HI.out.mono ?_; rintro e w1 ⟨v, rfl, hb, hst, -⟩; obtain ⟨A5, c5, rfl⟩ := own_slice hst; obtain ⟨g5, rfl⟩ := own_some hst hl.1; have c0'' : w1.cell? ⟨b, 0, none⟩ = some (.string name) := (hb.cell hbl).trans c0'; have s1z := hb.size) | (at_builtin; go_must (refine wpList_append_el el51 rfl (.tmp 34) (.tmp 35) rfl w.heap.size (.slice (some ⟨w1.heap.size, 0, none⟩) 1 1) 1 [.string name] rfl (by simpa using World.ownsRow_lit (base := w.heap.size) (e := 9) (size := 1) w1 #[.string name] 1 (by omega) (by decide) rfl) (some ⟨g5, 0, none⟩) l.length c5 (l.map Value.string) rfl (by simp) (own_rd (World.ownsRow.alloc hst _)) (by intro u hu; obtain ⟨x, -, rfl⟩ := List.mem_map.1 hu; rfl) (by omega) (by omega) (by simp; omega) ?_); intro v' w2 hown hgrow hnil hat; obtain ⟨A6, c6, rfl⟩ := own_slice hown; clear hnil))
          go_ret
          refine ⟨_, rfl, ((HF.out.trans (hb.mono (by omega))).alloc (by simp at *; omega) _).grown hgrow (by simp; omega) (fun g hg => ?_), ?_, fun h => ?_⟩
          · simp [Value.ownBlock] at hg
            omega
          · rw [Hst.out.2.1 l rfl]
            show World.ownsRow _ _ _ _ _ (l.length + 1) _
            rw [Nat.add_comm l.length 1]
            exact hown
          · rw [Hst.out.2.1 l rfl] at h
            cases h
      · obtain rfl : k = ks.length := by omega
        rw [List.take_length] at hno
        clear c0 c2
        have HF := Lib.hid hF
        clear hF
        go_wp2_with fail
        go_ret
        rw [hno]
        exact ⟨_, rfl, HF.out, World.ownsRow_nil _ _ _ _, fun _ => rfl⟩
end Go.Proofs.Ytlbhadggfipckaa

set_option linter.unusedVariables false
set_option linter.unusedSimpArgs false
namespace Go.Proofs.Ytlbhadggfipckaa
open Go.RowKit

theorem byname_walk (w : World) (b x : Nat) (name s : ByteArray) (c0 : w.cell? ⟨b, 0, none⟩ = some (.string name)) (c1 : w.cell? ⟨x, 0, none⟩ = some (.string s)) :
    Calls Try.prog 60 #[.pointer (some ⟨b, 0, none⟩), .pointer (some ⟨x, 0, none⟩)] w fun e w' => e = .returned (.bool (decide (name = s))) ∧ Below w.heap.size w w' := by
  by_cases hs : name = s
  · subst hs
    go_enter Try.func60, Try.ntmps60
    go_wp2_with fail
    go_quiet (fail)
    go_wp2_with fail
    go_ret
    exact ⟨by simp, ⟨rfl, rfl, rfl, Nat.le_refl _, fun _ _ => rfl⟩⟩
  · have hs2 := str_ne hs
    have hd : decide (name = s) = false := decide_eq_false hs
    rw [hd]
    clear hd
    go_enter Try.func60, Try.ntmps60
    go_wp2_with fail
    go_quiet (fail)
    go_wp2_with fail
    go_ret
    exact ⟨rfl, ⟨rfl, rfl, rfl, Nat.le_refl _, fun _ _ => rfl⟩⟩

def ptrOf : Option Nat → Value
  | some b => .pointer (some ⟨b, 0, none⟩)
  | none => .pointer none

def NFindPost (w : World) (r : Option Nat) (e : Ending) (w' : World) : Prop := e = .returned (.tuple #[ptrOf r, .bool r.isSome]) ∧ Below w.heap.size w w'

theorem nfind_walk (s : ByteArray) (x : Nat) (lt : LT) : ∀ (w : World) (ok : Nat → Prop), (∀ k, ok k → k < w.heap.size) → PN w ok lt → x < w.heap.size → w.cell? ⟨x, 0, none⟩ = some (.string s) →
    Calls Try.prog 59 #[.pointer (some ⟨lt.b, 0, none⟩), .func (.func 60) #[] #[.pointer (some ⟨x, 0, none⟩)]] w (NFindPost w (lt.findA s)) := by
  refine LT.ind (P := fun lt => ∀ (w : World) (ok : Nat → Prop), (∀ k, ok k → k < w.heap.size) → PN w ok lt → x < w.heap.size → w.cell? ⟨x, 0, none⟩ = some (.string s) → Calls Try.prog 59 #[.pointer (some ⟨lt.b, 0, none⟩), .func (.func 60) #[] #[.pointer (some ⟨x, 0, none⟩)]] w (NFindPost w (lt.findA s))) ?_ lt
  intro b name ps ks IH w ok hok hn hxl hx
  obtain ⟨vp, A, c, hob, hns, hcs, hps, hl1, hl2, hl3, hks, hrow⟩ := hn.open_
  have hfd : (LT.mk b name ps ks).findA s = if name = s then some b else findAL s ks := by simp only [LT.findA]
  have c0 := hcs.cell 0
  have c2 := hcs.cell 2
  simp at c0 c2
  have hbl0 := hok b hob
  have Hk := Lib.hid hks
  have Hr := Lib.hid hrow
  have IH := Lib.hid IH
  have HB := byname_walk w b x name s c0 hx
  have HB := Lib.hid HB
  clear hps hn hks hrow hcs
  show Calls Try.prog 59 #[.pointer (some ⟨b, 0, none⟩), .func (.func 60) #[] #[.pointer (some ⟨x, 0, none⟩)]] w _
  by_cases hs : name = s
  · rw [if_pos hs] at hfd
    rw [hfd]
    have hd : decide (name = s) = true := decide_eq_true hs
    rw [hd] at HB
    clear hfd hs hd
    go_enter Try.func59, Try.ntmps59
    go_wp2_with (go_at_call 60; refine HB.out.mono ?_; rintro e w1 ⟨rfl, hb⟩)
    refine bodyPost_ret (v := .tuple #[.pointer (some ⟨b, 0, none⟩), .bool true]) (by simp [results, Try.results59, go_sem]) rfl ?_
    exact ⟨rfl, hb⟩
  · rw [if_neg hs] at hfd
    rw [hfd]
    have hd : decide (name = s) = false := decide_eq_false hs
    rw [hd] at HB
    clear hfd hs hd
    go_enter Try.func59, Try.ntmps59
    go_wp2_with (go_at_call 60; refine HB.out.mono ?_; rintro e w1 ⟨rfl, hb⟩; have c2' : w1.cell? ⟨b, 2, none⟩ = some (.slice A ks.length c) := (hb.cell hbl0).trans c2)
    go_loopw [22] (fun i wr => ∃ k : Nat, k ≤ ks.length ∧ i = .int .i64 k ∧ Below w.heap.size w wr ∧ findAL s (ks.take k) = none) (fun i _ => ks.length - (intOf i).toNat)
    case atStart => exact ⟨0, by omega, by go_num, hb, rfl⟩
    case round =>
      obtain ⟨k, hk, rfl, hF, hno⟩ := hrel
      clear hb c2'
      by_cases hlt : k < ks.length
      · have hne : ks ≠ [] := by rintro rfl; simp at hlt
        obtain ⟨g, o, rfl, hog, hD⟩ := Hr.out.resolve_left hne
        have d1 := hD k ks[k] (List.getElem?_eq_getElem hlt)
        have hgo := hok g hog
        have tr : ∀ x y, x < w.heap.size → wr.cell? ⟨x, y, none⟩ = w.cell? ⟨x, y, none⟩ := fun x y hx => (World.cell?_of_block (a := ⟨x, y, none⟩) (hF.block x hx))
        rw [← tr g _ hgo] at d1
        have sz := hF.size
        have hgl : g < wr.heap.size := by omega
        have hki : (0 : Int) ≤ (k : Int) := by omega
        have hI := IH.out ks[k] (List.getElem_mem hlt) wr ok (fun x hx => by have := hok x hx; omega) ((Hk.out _ (List.getElem_mem hlt)).mono (Same.of_below hF hok) (fun _ h => h)) (by omega) ((tr x 0 hxl).trans hx)
        have hst : findAL s (ks.take (k + 1)) = ks[k].findA s := by rw [List.take_succ_eq_append_getElem hlt]; exact findAL_snoc s _ _ hno
        have hfl : ∀ l, ks[k].findA s = some l → findAL s ks = some l := fun l hl => by
          rw [← List.take_append_drop (k + 1) ks]
          exact findAL_some s _ _ l (hst.trans hl)
        have HI := Lib.hid hI
        have HF := Lib.hid hF
        have Hst := Lib.hid (And.intro hst hfl)
        clear hD hI hF tr hst hfl hno c0 c2
        generalize hfr : ks[k].findA s = fr at *
        cases fr with
        | none =>
          go_wp2_with (go_at_call 59; refine HI.out.mono ?_; rintro e w1 ⟨rfl, hb⟩; simp only [ptrOf])
          go_roundw
          case rel => exact ⟨k + 1, by omega, by go_num, HF.out.trans (hb.mono (by omega)), Hst.out.1⟩
          case measure => simp [intOf]; omega
        | some l =>
          go_wp2_with (go_at_call 59; refine HI.out.mono ?_; rintro e w1 ⟨rfl, hb⟩; simp only [ptrOf])
          refine bodyPost_ret (v := .tuple #[.pointer (some ⟨l, 0, none⟩), .bool true]) (by simp [results, Try.results59, go_sem]) rfl ?_
          rw [Hst.out.2 l rfl]
          exact ⟨rfl, HF.out.trans (hb.mono (by omega))⟩
      · obtain rfl : k = ks.length := by omega
        rw [List.take_length] at hno
        clear c0 c2
        have HF := Lib.hid hF
        clear hF
        go_wp2_with fail
        refine bodyPost_ret (v := .tuple #[.pointer none, .bool false]) (by simp [results, Try.results59, go_sem]) rfl ?_
        rw [hno]
        exact ⟨rfl, HF.out⟩

theorem nodebyname_walk (s : ByteArray) (lt : LT) (w : World) (ok : Nat → Prop) (f : Nat) (hok : ∀ k, ok k → k < w.heap.size) (hn : PN w ok lt) (hf : w.cell? ⟨f, 11, none⟩ = some (.pointer (some ⟨lt.b, 0, none⟩))) :
    Calls Try.prog 38 #[.pointer (some ⟨f, 0, none⟩), .string s] w (NFindPost w (lt.findA s)) := by
  have hmf : ∀ (fn : Fn) (first cap : Array Value) (w : World), (Instr.makeFunc fn first cap).run Try.prog w = .ok (.func fn first cap) w := fun _ _ _ _ => rfl
  have hfl := World.block_lt_of_cell? w _ hf
  simp at hfl
  have hI := nfind_walk s w.heap.size lt (w.alloc (.cells #[.string s] 9)) ok (fun x hx => by have := hok x hx; simp; omega) (hn.mono (Same.of_below ((Below.refl _ _).alloc (Nat.le_refl _) _) hok) (fun _ h => h)) (by simp) (by simp [go_sem])
  have HI := Lib.hid hI
  clear hI hn
  go_enter Try.func38, Try.ntmps38
  go_wp2_with fail
  refine HI.out.mono ?_
  rintro e w1 ⟨rfl, hb⟩
  have Hb := Lib.hid hb
  clear hb hmf
  generalize lt.findA s = fr at *
  cases fr with
  | none =>
    simp only [ptrOf]
    go_wp2_with fail
    refine bodyPost_ret (v := .tuple #[.pointer none, .bool false]) (by simp [results, Try.results38, go_sem]) rfl ?_
    exact ⟨rfl, ((Below.refl _ _).alloc (Nat.le_refl _) _).trans (Hb.out.mono (by simp))⟩
  | some l =>
    simp only [ptrOf]
    go_wp2_with fail
    refine bodyPost_ret (v := .tuple #[.pointer (some ⟨l, 0, none⟩), .bool true]) (by simp [results, Try.results38, go_sem]) rfl ?_
    exact ⟨rfl, ((Below.refl _ _).alloc (Nat.le_refl _) _).trans (Hb.out.mono (by simp))⟩

/-- The block of a node that has been found. -/
theorem pn_mem {w : World} {ok : Nat → Prop} (lt : LT) : PN w ok lt → ∀ q, q ∈ lt.flat → ∃ cs, Cs w q cs := by
  refine LT.ind (P := fun lt => PN w ok lt → ∀ q, q ∈ lt.flat → ∃ cs, Cs w q cs) ?_ lt
  intro b name ps ks IH h q hq
  obtain ⟨vp, A, c, hob, hns, hcs, hps, hl1, hl2, hl3, hks, hrow⟩ := h.open_
  simp only [LT.flat, flatL_eq] at hq
  rcases List.mem_cons.1 hq with rfl | hq
  · exact ⟨_, hcs⟩
  · obtain ⟨k, hk, hq⟩ := List.mem_flatMap.1 hq
    exact IH k hk (hks k hk) q hq

theorem own_mono {w : World} {base base' n : Nat} {e : TypeId} {size : Nat} {v : Value} {xs : List Value} (h : w.ownsRow base e size v n xs) (hb : base' ≤ base) : w.ownsRow base' e size v n xs :=
  ⟨h.1, h.2.imp id fun ⟨g, cap, cur, hv, h1, rest⟩ => ⟨g, cap, cur, hv, by omega, rest⟩⟩

theorem rng_lt (w w1 : World) : ∀ x, Rng w w1 x → x < w1.heap.size := fun x hx => hx.2

def FindClos (w : World) (pv : Nat) (r : Option (List ByteArray)) (e : Ending) (w' : World) : Prop :=
  e = .returned (.bool r.isSome) ∧ Fr w.heap.size (· = pv) w w' ∧ ∃ v, Cs w' pv #[v] ∧ ∀ l, r = some l → StrR w' w.heap.size v l ∧ 1 ≤ l.length

set_option maxHeartbeats 1000000 in
theorem findclos_walk (s : ByteArray) (t : Tr) (cs : Array Value) (w : World) (ok : Nat → Prop) (p0 p1 pv : Nat) (y : Value) (hok : ∀ k, ok k → k < w.heap.size) (hpv : ¬ ok pv) (ht : TreeC w ok t cs) (h0 : Cs w p0 cs) (h1 : Cs w p1 #[.string s]) (h2 : Cs w pv #[y]) (n0 : p0 ≠ pv) (n1 : p1 ≠ pv) (hd : t.root.depth ≤ 1000) :
    Calls Try.prog 36 #[.pointer (some ⟨p0, 0, none⟩), .pointer (some ⟨p1, 0, none⟩), .pointer (some ⟨pv, 0, none⟩)] w (FindClos w pv (t.root.find s)) := by
  have hin := fun (w : World) (a : Option Addr) (n c : Nat) => Lib.run_eql_slice_nil (P := Try.prog) w 51 9 a n c 0 0 Try.underlying51
  obtain ⟨vr, ⟨k1, k2, k3⟩, rfl, hr, hn, hb⟩ := ht
  obtain ⟨s1, A3, n3, c3, A4, n4, c4, hk⟩ := id hn.form
  simp only [Prod.mk.injEq] at hk
  obtain ⟨rfl, rfl, rfl⟩ := hk
  have hG := given_walk t.root w ok _ hok hn
  have HG := Lib.hid hG
  have a4 := h0.cell 4
  have a5 := h0.cell 5
  have a6 := h0.cell 6
  have b0 := h1.cell 0
  have d0 := h2.cell 0
  have f0 := h2.frozen 0
  simp at a4 a5 a6 b0 d0
  have l0 := h0.lt
  have l1 := h1.lt
  have l2 := h2.lt
  have H1 := Lib.hid h1
  have H2 := Lib.hid h2
  clear hr hn hb hG h0 h1 h2
  go_enter Try.func36, Try.ntmps36
  go_wp2_with fail
  refine HG.out.mono ?_
  rintro e w1 ⟨lt, rfl, her, hpn, hb, hnd, hfl⟩
  have b0' : w1.cell? ⟨p1, 0, none⟩ = some (.string s) := (hb.cell l1).trans b0
  have s1z := hb.size
  have l1' : p1 < w1.heap.size := by omega
  have HB := Lib.hid hb
  have Hpn := Lib.hid hpn
  have Hnd := Lib.hid (And.intro her (And.intro hnd hfl))
  clear hb hpn her hnd hfl a4 a5 a6 b0
  go_wp2_with fail
  have hrl := rng_lt w w1
  have hB1 : Below w1.heap.size w1 (w1.alloc (.cells #[.int .u32 0, .int .u32 0, .int .u32 0, .int .u32 0, .int .u32 0, .int .u32 0, .int .u32 0, .int .u32 0, .int .u32 0, .int .u32 0, .slice none 0 0, .pointer (some ⟨lt.b, 0, none⟩)] 93)) := (Below.refl w1.heap.size w1).alloc (Nat.le_refl _) _
  refine (nodebyname_walk s lt (w1.alloc (.cells #[.int .u32 0, .int .u32 0, .int .u32 0, .int .u32 0, .int .u32 0, .int .u32 0, .int .u32 0, .int .u32 0, .int .u32 0, .int .u32 0, .slice none 0 0, .pointer (some ⟨lt.b, 0, none⟩)] 93)) (Rng w w1) w1.heap.size (fun x hx => Nat.lt_of_lt_of_le (hrl x hx) hB1.size) (PN.mono (Same.of_below hB1 hrl) (fun _ h => h) Hpn.out) (by simp [go_sem])).mono ?_
  rintro e w2 ⟨rfl, hb2⟩
  have e11 : w2.cell? ⟨w1.heap.size, 11, none⟩ = some (.pointer (some ⟨lt.b, 0, none⟩)) := (hb2.cell (by simp)).trans (by simp [go_sem])
  have s2z := hb2.size
  simp at s2z
  have HB3 := Lib.hid (hB1.trans (hb2.mono hB1.size))
  have HB2 := Lib.hid (HB.out.trans (HB3.out.mono s1z))
  clear hb2 hB1
  rcases hfa : lt.findA s with _ | q
  all_goals simp only [ptrOf]
  all_goals have Hfa := Lib.hid hfa
  all_goals clear hfa
  · go_wp2_with fail
    go_ret
    have hno : t.root.find s = none := by rw [← Hnd.out.1]; exact LT.find_none s lt Hfa.out
    rw [hno]
    exact ⟨rfl, Fr.of_below HB2.out, y, H2.out.below HB2.out l2, fun l h => by cases h⟩
  · obtain ⟨csq, hcq⟩ := pn_mem lt Hpn.out q (LT.findA_mem s lt q Hfa.out)
    have hql := (Hnd.out.2.2 q (LT.findA_mem s lt q Hfa.out)).2
    obtain ⟨hw1, hw2⟩ := LT.way_find s lt q Hnd.out.2.1 Hfa.out
    rw [Hnd.out.1] at hw1 hw2
    obtain ⟨l, hl⟩ := Option.isSome_iff_exists.1 hw2
    have hlen := (Nd.find_len s t.root l hl).1
    have WH := way_walk q lt w2 (Rng w w1) (fun x hx => by have := hrl x hx; omega) (PN.mono (Same.of_below HB3.out hrl) (fun _ h => h) Hpn.out) (by rw [Hnd.out.1]; exact hd) csq (hcq.below HB3.out hql)
    rw [hw1, hl] at WH
    have Hl := Lib.hid hl
    have WH := Lib.hid WH
    have H3 := Lib.hid (H2.out.below HB2.out l2)
    clear hw1 hw2 hl hcq d0 f0
    go_wp2_with fail
    refine WH.out.mono ?_
    rintro e w3 ⟨v, rfl, hb3, hst, -⟩
    obtain ⟨A5, c5, rfl⟩ := own_slice hst
    obtain ⟨g5, rfl⟩ := own_some hst hlen
    have h3 := H3.out.below hb3 (by omega)
    have d0 := h3.cell 0
    have f0 := h3.frozen 0
    simp at d0
    have l3 := h3.lt
    have hfin : FindClos w pv (t.root.find s) (.returned (.bool true)) (w3.setCell ⟨pv, 0, none⟩ (.slice (some ⟨g5, 0, none⟩) l.length c5)) := by
      rw [Hl.out]
      refine ⟨rfl, (Fr.of_below (HB2.out.trans (hb3.mono (by omega)))).setCell (X := (· = pv)) (p := ⟨pv, 0, none⟩) (.inr rfl) _, _, h3.set_ 0 _, fun l' h => ?_⟩
      cases h
      exact ⟨own_mono (ownsRow_setCell_below (a := ⟨pv, 0, none⟩) hst (by show pv < w2.heap.size; omega) _) (by omega), hlen⟩
    have HFIN := Lib.hid hfin
    clear h3 hfin hst hb3
    go_wp2_with fail
    go_ret
    exact HFIN.out
end Go.Proofs.Ytlbhadggfipckaa
