/-
  spec.Find.
-/
import Derived.Test.YtlbhadggfipckaaGb
import Derived.Test.YtlbhadggfipckaaXb
set_option linter.unusedVariables false
set_option linter.unusedSimpArgs false
namespace Go.Proofs.Ytlbhadggfipckaa
open Go.RowKit

mutual
def Nd.find (s : ByteArray) : Nd → Option (List ByteArray)
  | .mk n _ ks => if n = s then some [n] else (findL s ks).map (n :: ·)
def findL (s : ByteArray) : List Nd → Option (List ByteArray)
  | [] => none
  | k :: r => match k.find s with
    | some l => some l
    | none => findL s r
end

theorem findL_snoc (s : ByteArray) : ∀ (a : List Nd) (x : Nd), findL s a = none → findL s (a ++ [x]) = x.find s
  | [], x, _ => by
    simp only [List.nil_append, findL]
    cases x.find s <;> rfl
  | k :: a, x, h => by
    simp only [List.cons_append, findL] at h ⊢
    cases hk : k.find s with
    | some l => rw [hk] at h; cases h
    | none => rw [hk] at h; exact findL_snoc s a x h

theorem findL_some (s : ByteArray) : ∀ (a b : List Nd) (l : List ByteArray), findL s a = some l → findL s (a ++ b) = some l
  | [], b, l, h => by cases h
  | k :: a, b, l, h => by
    simp only [List.cons_append, findL] at h ⊢
    cases hk : k.find s with
    | some l' => rw [hk] at h; exact h
    | none => rw [hk] at h; exact findL_some s a b l h

mutual
theorem Nd.find_len (s : ByteArray) : ∀ (n : Nd) (l : List ByteArray), n.find s = some l → 1 ≤ l.length ∧ l.length ≤ n.depth
  | .mk n ps ks, l, h => by
    simp only [Nd.find] at h
    simp only [Nd.depth]
    split at h
    · cases h
      simp
    · cases hf : findL s ks with
      | none => rw [hf] at h; cases h
      | some l' =>
        rw [hf] at h
        cases h
        have := findL_len s ks l' hf
        simp
        omega
theorem findL_len (s : ByteArray) : ∀ (ks : List Nd) (l : List ByteArray), findL s ks = some l → l.length ≤ depthL ks
  | [], l, h => by cases h
  | k :: r, l, h => by
    simp only [findL] at h
    simp only [depthL]
    cases hk : k.find s with
    | some l' =>
      rw [hk] at h
      cases h
      have := Nd.find_len s k l hk
      omega
    | none =>
      rw [hk] at h
      have := findL_len s r l h
      omega
end

/-- The slice of texts. -/
def StrR (w : World) (base : Nat) (v : Value) (l : List ByteArray) : Prop := w.ownsRow base 9 1 v l.length (l.map Value.string)

def FindPost (w : World) (r : Option (List ByteArray)) (e : Ending) (w' : World) : Prop :=
  ∃ v, e = .returned (.tuple #[v, .bool r.isSome]) ∧ Below w.heap.size w w' ∧ StrR w' w.heap.size v (r.getD [])

theorem depthL_get {ks : List Nd} {k : Nat} (h : k < ks.length) : ks[k].depth ≤ depthL ks := by
  have h1 := (cost_take ks k h).2.2
  omega

theorem find_walk (s : ByteArray) (n : Nd) : ∀ (w : World) (ok : Nat → Prop) (t : Value × Value × Value), (∀ k, ok k → k < w.heap.size) → NodeC w ok n t → n.depth ≤ 1000 → Calls Try.prog 18 #[.agg #[t.1, t.2.1, t.2.2], .string s] w (FindPost w (n.find s)) := by
  refine Nd.ind (P := fun n => ∀ (w : World) (ok : Nat → Prop) (t : Value × Value × Value), (∀ k, ok k → k < w.heap.size) → NodeC w ok n t → n.depth ≤ 1000 → Calls Try.prog 18 #[.agg #[t.1, t.2.1, t.2.2], .string s] w (FindPost w (n.find s))) ?_ n
  intro name ps ks IH w ok t hok hn hdp
  obtain ⟨vp, vk, rfl, hns, hps, hks⟩ := hn.open_
  obtain ⟨Ap, cp, ts, rfl, hp1, hp2, hp3, hp4, hp5⟩ := hps
  obtain ⟨Ak, ck, us, rfl, hk1, hk2, hk3, hk4, hk5⟩ := hks
  have hfd : (Nd.mk name ps ks).find s = if name = s then some [name] else (findL s ks).map (name :: ·) := by simp only [Nd.find]
  have hdk : depthL ks ≤ 999 := by simp only [Nd.depth] at hdp; omega
  have Hk4 := Lib.hid hk4
  have Hk5 := Lib.hid hk5
  have IH := Lib.hid IH
  clear hp4 hp5 hk4 hk5 hn hdp
  by_cases hs : name = s
  · subst hs
    rw [if_pos rfl] at hfd
    rw [hfd]
    clear hfd
    go_enter Try.func18, Try.ntmps18
    go_wp2_with fail
    refine bodyPost_ret (v := .tuple #[.slice (some ⟨w.heap.size + 1, 0, none⟩) 1 1, .bool true]) (by simp [results, Try.results18, go_sem]) rfl ?_
    exact ⟨_, rfl, ((Below.refl _ _).alloc (by omega) _).alloc (by simp) _, (by show World.ownsRow _ _ 9 1 _ 1 [Value.string name]; simpa using World.ownsRow_lit (base := w.heap.size) (e := 9) (size := 1) (w.alloc _) #[.string name] 1 (by simp) (by decide) rfl)⟩
  · have hs2 := str_ne hs
    rw [if_neg hs] at hfd
    rw [hfd]
    clear hfd
    go_enter Try.func18, Try.ntmps18
    go_wp2_with fail
    go_loopw [20] (fun i wr => ∃ k : Nat, k ≤ ks.length ∧ i = .int .i64 k ∧ Below w.heap.size w wr ∧ Cs wr w.heap.size #[.string name, .slice Ap ps.length cp, .slice Ak ks.length ck] ∧ findL s (ks.take k) = none) (fun i _ => ks.length - (intOf i).toNat)
    case atStart => exact ⟨0, by omega, by go_num, (Below.refl _ _).alloc (by omega) _, Cs.new' _ _ _ _ rfl, rfl⟩
    case round =>
      obtain ⟨k, hk, rfl, hF, q, hno⟩ := hrel
      have z := q.lt
      have c0 := q.cell 0
      simp at c0
      by_cases hlt : k < ks.length
      · have hne : ks ≠ [] := by rintro rfl; simp at hlt
        obtain ⟨b, o, rfl, hob, hD⟩ := Hk5.out.resolve_left hne
        have hk4 := Hk4.out
        have hkp : ks[k]? = some ks[k] := List.getElem?_eq_getElem hlt
        have hlt2 : k < us.length := by rw [← hk4.1]; exact hlt
        have hkt : us[k]? = some (us[k]'hlt2) := List.getElem?_eq_getElem hlt2
        have hN := hk4.2 k _ _ hkp hkt
        obtain ⟨d1, d2, d3⟩ := hD k _ hkt
        have hbo := hok b hob
        have tr : ∀ x, w.cell? ⟨b, x, none⟩ = wr.cell? ⟨b, x, none⟩ := fun x => (World.cell?_of_block (a := ⟨b, x, none⟩) (hF.block b hbo)).symm
        rw [tr] at d1 d2 d3
        generalize us[k]'hlt2 = tk at *
        obtain ⟨s1, A3, n3, c3, A4, n4, c4, rfl⟩ := hN.form
        simp only at d1 d2 d3
        have hbl : b < wr.heap.size := by omega
        have hki : (0 : Int) ≤ (k : Int) := by omega
        have hdg := depthL_get hlt
        have hI := IH.out ks[k] (List.getElem_mem hlt) (wr.alloc (.cells #[.string s1, .slice A3 n3 c3, .slice A4 n4 c4] 46)) ok _ (fun x hx => by have := hok x hx; simp; omega) (NodeC.mono (Same.of_below (hF.alloc (by omega) _) hok) (fun _ h => h) hN) (by omega)
        have hst : findL s (ks.take (k + 1)) = ks[k].find s := by rw [List.take_succ_eq_append_getElem hlt]; exact findL_snoc s _ _ hno
        have hfl : ∀ l, ks[k].find s = some l → findL s ks = some l := fun l hl => by
          rw [← List.take_append_drop (k + 1) ks]
          exact findL_some s _ _ l (hst.trans hl)
        have hlen := Nd.find_len s ks[k]
        have HI := Lib.hid hI
        have HF := Lib.hid hF
        have Hq := Lib.hid q
        have Hst := Lib.hid (And.intro hst (And.intro hfl hlen))
        clear hkt hkp hD hk4 hN hI hF q tr hst hfl hlen hno
        generalize hfr : ks[k].find s = fr at *
        cases fr with
        | none =>
          go_wp2_with (go_at_call 18; refine HI.out.mono ?_; rintro e w1 ⟨v, rfl, hb, hst⟩)
          go_roundw
          case rel => exact ⟨k + 1, by omega, by go_num, (HF.out.alloc (by omega) _).trans (hb.mono (by simp; omega)), (Hq.out.alloc _).below hb (by simp; omega), Hst.out.1⟩
          case measure => simp [intOf]; omega
        | some l =>
          have hl := Hst.out.2.2 l rfl
          have hl1 : l.length ≤ 999 := by omega
          go_wp2_with (first | (go_at_call 18; refine HI.out.mono ?_; rintro e w1 ⟨v, rfl, hb, hst⟩; obtain ⟨A5, c5, rfl⟩ := own_slice hst; have q1 := (Hq.out.alloc (.cells #[.string s1, .slice A3 n3 c3, .slice A4 n4 c4] 46)).below hb (by simp; omega); have c0' := q1.cell 0; simp at c0'; have s1z := hb.size; simp at s1z) | (at_builtin; go_must (refine wpList_append_el el51 rfl (.tmp 33) (.tmp 34) rfl w.heap.size (.slice (some ⟨w1.heap.size, 0, none⟩) 1 1) 1 [.string name] rfl (by simpa using World.ownsRow_lit (base := w.heap.size) (e := 9) (size := 1) w1 #[.string name] 1 (by omega) (by decide) rfl) A5 l.length c5 (l.map Value.string) rfl (by simp) (own_rd (World.ownsRow.alloc hst _)) (by intro u hu; obtain ⟨x, -, rfl⟩ := List.mem_map.1 hu; rfl) (by omega) (by omega) (by simp; omega) ?_); intro v' w2 hown hgrow hnil hat; obtain ⟨A6, c6, rfl⟩ := own_slice hown; clear hnil))
          refine bodyPost_ret (v := .tuple #[.slice A6 (1 + l.length) c6, .bool true]) (by simp [results, Try.results18, go_sem]) rfl ?_
          refine ⟨_, by rw [Hst.out.2.1 l rfl]; rfl, (((HF.out.alloc (by omega) _).trans (hb.mono (by simp; omega))).alloc (by simp at *; omega) _).grown hgrow (by simp; omega) (fun g hg => ?_), ?_⟩
          · simp [Value.ownBlock] at hg
            omega
          · rw [Hst.out.2.1 l rfl]
            show World.ownsRow _ _ _ _ _ (l.length + 1) _
            rw [Nat.add_comm l.length 1]
            exact hown
      · obtain rfl : k = ks.length := by omega
        rw [List.take_length] at hno
        clear q c0
        have HF := Lib.hid hF
        clear hF
        go_wp2_with fail
        refine bodyPost_ret (v := .tuple #[.slice none 0 0, .bool false]) (by simp [results, Try.results18, go_sem]) rfl ?_
        rw [hno]
        exact ⟨_, rfl, HF.out, World.ownsRow_nil _ _ _ _⟩
end Go.Proofs.Ytlbhadggfipckaa
