/-
  impl.Find; a tree that fits is not cut.
-/
import Derived.Test.YtlbhadggfipckaaGe
set_option linter.unusedVariables false
set_option linter.unusedSimpArgs false
namespace Go.Proofs.Ytlbhadggfipckaa
open Go.RowKit

theorem ifind_walk (s : ByteArray) (t : Tr) (cs : Array Value) (w : World) (ok : Nat → Prop) (hok : ∀ k, ok k → k < w.heap.size) (ht : TreeC w ok t cs) (hd : t.root.depth ≤ 1000) :
    Calls Try.prog 19 #[.agg cs, .string s] w (FindPost w (t.root.find s)) := by
  have hmf : ∀ (fn : Fn) (first cap : Array Value) (w : World), (Instr.makeFunc fn first cap).run Try.prog w = .ok (.func fn first cap) w := fun _ _ _ _ => rfl
  obtain ⟨vr, ⟨k1, k2, k3⟩, rfl, hr, hn, hb⟩ := id ht
  obtain ⟨s1, A3, n3, c3, A4, n4, c4, hk⟩ := id hn.form
  simp only [Prod.mk.injEq] at hk
  obtain ⟨rfl, rfl, rfl⟩ := hk
  obtain ⟨A, c, rfl, -⟩ := id hr
  have HT := Lib.hid ht
  clear hn hb hr ht
  go_enter Try.func19, Try.ntmps19
  go_wp2_with fail
  generalize hW : (((w.alloc (.cells #[.int .i64 t.ver, .int .i64 t.lc, .int .i64 t.boot, .slice A t.rooms.length c, .string s1, .slice A3 n3 c3, .slice A4 n4 c4] 40)).alloc (.cells #[.string s] 9)).alloc (.cells #[.slice none 0 0] 51)) = W
  have hWs : W.heap.size = w.heap.size + 3 := by rw [← hW]; simp
  have hWb : Below w.heap.size w W := by rw [← hW]; exact (((Below.refl _ _).alloc (Nat.le_refl _) _).alloc (by simp) _).alloc (by simp; omega) _
  have hW0 : Cs W w.heap.size #[.int .i64 t.ver, .int .i64 t.lc, .int .i64 t.boot, .slice A t.rooms.length c, .string s1, .slice A3 n3 c3, .slice A4 n4 c4] := by rw [← hW]; exact ((Cs.new _ _ _).alloc _).alloc _
  have hW1 : Cs W (w.heap.size + 1) #[.string s] := by rw [← hW]; exact (Cs.new' _ _ _ _ (by simp)).alloc _
  have hW2 : Cs W (w.heap.size + 1 + 1) #[.slice none 0 0] := by rw [← hW]; exact Cs.new' _ _ _ _ (by simp)
  have hWt : Below w.heap.size w (W.alloc (.cells #[.bool false] 4)) := hWb.alloc (by omega) _
  clear hW
  refine (try_ok (R := fun b w1 => b = (t.root.find s).isSome ∧ Fr (W.heap.size + 1) (· = w.heap.size + 1 + 1) (W.alloc (.cells #[.bool false] 4)) w1 ∧ ∃ v, Cs w1 (w.heap.size + 1 + 1) #[v] ∧ ∀ l, t.root.find s = some l → StrR w1 (W.heap.size + 1) v l ∧ 1 ≤ l.length) (fun _ => by kernel_rfl) ?_).mono ?_
  · refine (findclos_walk s t _ (W.alloc (.cells #[.bool false] 4)) ok w.heap.size (w.heap.size + 1) (w.heap.size + 1 + 1) (.slice none 0 0) (fun x hx => by have := hok x hx; simp; omega) (fun hx => by have := hok _ hx; omega) (HT.out.mono (Same.of_below hWt hok) (fun _ h => h)) (hW0.alloc _) (hW1.alloc _) (hW2.alloc _) (by omega) (by omega) hd).mono ?_
    rintro e w1 ⟨rfl, hf, v, hv, hl⟩
    have hsz : (W.alloc (.cells #[.bool false] 4)).heap.size = W.heap.size + 1 := by simp
    rw [hsz] at hf hl
    exact ⟨_, rfl, (hf.cell (by omega) (by omega)).trans (by simp [go_sem]), ((Cs.new W 4 #[.bool false]).fr hf (by omega) (by omega)).frozen 0, rfl, hf, v, hv, hl⟩
  · rintro e w2 ⟨b, w1, rfl, ⟨rfl, hf, v, hv, hl⟩, rfl⟩
    have q := hv.far (p := ⟨W.heap.size, 0, none⟩) (by simp; omega) (.bool (t.root.find s).isSome)
    have hBw : Below w.heap.size w (w1.setCell ⟨W.heap.size, 0, none⟩ (.bool (t.root.find s).isSome)) := (hWt.trans (hf.below (by omega) (by omega))).setCell (by simp; omega) _
    have c0 := hv.cell 0
    have f0 := hv.frozen 0
    simp at c0
    rw [hWs] at q hBw hl ⊢
    have Hq := Lib.hid q
    have HB := Lib.hid hBw
    have Hl := Lib.hid hl
    clear hf hv hl q hBw hmf hW0 hW1 hW2
    generalize t.root.find s = fr at *
    cases fr with
    | none =>
      simp only [Option.isSome] at *
      go_wp2_with fail
      have c1 := (Hq.out.set_ 0 (.slice none 0 0)).cell 0
      simp at c1
      refine bodyPost_ret (v := .tuple #[.slice none 0 0, .bool false]) (by simp [results, Try.results19, go_sem, c1]) rfl ?_
      exact ⟨_, rfl, HB.out.setCell (by simp; omega) _, World.ownsRow_nil _ _ _ _⟩
    | some l =>
      obtain ⟨h1, h2⟩ := Hl.out l rfl
      obtain ⟨A5, c5, rfl⟩ := own_slice h1
      simp only [Option.isSome] at *
      have H1 := Lib.hid h1
      clear h1
      go_wp2_with fail
      have c1 := (Hq.out.set_ 0 (.slice A5 l.length c5)).cell 0
      simp at c1
      refine bodyPost_ret (v := .tuple #[.slice A5 l.length c5, .bool true]) (by simp [results, Try.results19, go_sem, c1]) rfl ?_
      exact ⟨_, rfl, HB.out.setCell (by simp; omega) _, own_mono (ownsRow_setCell_below (a := ⟨w.heap.size + 1 + 1, 0, none⟩) (own_keep H1.out fun g hg => Below.heap_setCell _ _ _ _ (by have := (H1.out.lt g hg).1; simp; omega)) (by show w.heap.size + 1 + 1 < w.heap.size + 3 + 1; omega) _) (by omega)⟩

theorem not_bad_of_name {n : ByteArray} (h : NameP n) : n ≠ ⟨#[0]⟩ := by
  rintro rfl
  have := (h.1 0 (by decide)).1
  exact absurd this (by decide)

mutual
theorem Nd.proper_not_bad : ∀ n : Nd, n.proper → ¬ n.bad
  | .mk n ps ks, h, hb => by
    simp only [Nd.proper] at h
    simp only [Nd.bad] at hb
    rcases hb with hb | hb
    · exact not_bad_of_name h.1 hb
    · exact properL_not_bad ks h.2.2 hb
theorem properL_not_bad : ∀ ks : List Nd, properL ks → ¬ badL ks
  | [], _, hb => hb
  | k :: r, h, hb => by
    simp only [properL] at h
    simp only [badL] at hb
    rcases hb with hb | hb
    · exact Nd.proper_not_bad k h.1 hb
    · exact properL_not_bad r h.2 hb
end

theorem proper_root_not_bad {n : Nd} (h : ProperR true n) : ¬ n.bad := by
  obtain ⟨name, ps, ks⟩ := n
  simp only [ProperR, if_true] at h
  intro hb
  simp only [Nd.bad] at hb
  rcases hb with hb | hb
  · rw [h.1] at hb
    exact absurd hb (by decide)
  · exact properL_not_bad ks h.2.2 hb

theorem fits_same {t x : Tr} {r' : Int} (hf : FitsP x) (h1 : x.ver = t.ver) (h2 : x.lc = t.lc) (h3 : x.boot = t.boot) (h4 : x.rooms = t.rooms) (hc : CutRel 12 10000 t.root x.root r') : x = t := by
  obtain ⟨v, l, b, rs, n⟩ := x
  obtain ⟨v', l', b', rs', n'⟩ := t
  simp only at h1 h2 h3 h4
  subst h1 h2 h3 h4
  rcases hc with ⟨h, -⟩ | ⟨h, -⟩
  · simp only at h
    rw [h]
  · exact absurd h (proper_root_not_bad hf.2.2.2.2.2.2.2.1)
end Go.Proofs.Ytlbhadggfipckaa
