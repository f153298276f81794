/-
  FDT.Write's first closure, walked.
-/
import Derived.Test.YtlbhadggfipckaaIc
import Derived.Deep.Cut
set_option linter.unusedVariables false
set_option linter.unusedSimpArgs false
namespace Go.Proofs.Ytlbhadggfipckaa
open Go.RowKit

/-- the loop -/
def SInv (w : World) (mv sv m lo : Nat) (S0 : List (ByteArray × Nat)) (strs0 : List UInt8) (ps : List Pr) (k : Nat) (wr : World) : Prop :=
  ∃ S strs, SB wr mv sv m lo S strs ∧ More S0 S strs0 strs ∧ (∀ p ∈ ps.take k, (offOf p.name S).isSome = true) ∧ strs.length ≤ strs0.length + 32 * k ∧ Fr lo (fun x => x = mv ∨ x = sv ∨ x = m) w wr

def W1Post (w : World) (mv sv m lo : Nat) (S0 : List (ByteArray × Nat)) (strs0 : List UInt8) (ps : List Pr) (e : Ending) (w' : World) : Prop :=
  e = .returned .nilIface ∧ SInv w mv sv m lo S0 strs0 ps ps.length w'

theorem sv_after {w3 w4 : World} {sv lo n c3 : Nat} {A3 : Option Addr} {x : Value} {xs : List Value} (q3 : Cs w3 sv #[x]) (hown3 : w3.ownsRow lo 5 1 (.slice A3 n c3) n xs) (h7 : some sv ≠ (Value.slice A3 n c3).ownBlock)
    (hg : ((w3.setCell ⟨sv, 0, none⟩ (.slice A3 n c3)).alloc (.cells #[.int .u8 0] 5)).grownBy w4 (Value.slice A3 n c3).ownBlock) :
    Cs w4 sv #[.slice A3 n c3] ∧ w4.cell? ⟨sv, 0, none⟩ = some (.slice A3 n c3) ∧ w4.frozen? ⟨sv, 0, none⟩ = false := by
  have q : Cs (w3.setCell ⟨sv, 0, none⟩ (.slice A3 n c3)) sv #[.slice A3 n c3] := q3.set_ 0 _
  have q4 := (q.alloc (.cells #[.int .u8 0] 5)).grown hg h7
  exact ⟨q4, (q4.cell 0).trans rfl, q4.frozen 0⟩

theorem w1_fin {w wB w3 w4 : World} {mv sv m lo k c1 c3 c4 : Nat} {A1 A3 A4 : Option Addr} {S0 S : List (ByteArray × Nat)} {strs0 strs : List UInt8} {ps : List Pr} {pk : Pr}
    (j1 : Cs wB mv #[.map (some m)]) (j4 : wB.ownsRow lo 5 1 (.slice A1 strs.length c1) strs.length (strs.map bv)) (jF : Fr lo (fun x => x = mv ∨ x = sv ∨ x = m) w wB) (jm : MapOff wB m ((pk.name, strs.length) :: S))
    (hgrow3 : wB.grownBy w3 (Value.slice A1 strs.length c1).ownBlock) (hown3 : w3.ownsRow lo 5 1 (.slice A3 (strs.length + pk.name.size) c3) (strs.length + pk.name.size) (strs.map bv ++ (bytesOf pk.name).map bv))
    (q4 : Cs w4 sv #[.slice A3 (strs.length + pk.name.size) c3]) (hown4 : w4.ownsRow lo 5 1 (.slice A4 (strs.length + pk.name.size + 1) c4) (strs.length + pk.name.size + 1) (strs.map bv ++ (bytesOf pk.name).map bv ++ [.int .u8 0]))
    (hgrow4 : ((w3.setCell ⟨sv, 0, none⟩ (.slice A3 (strs.length + pk.name.size) c3)).alloc (.cells #[.int .u8 0] 5)).grownBy w4 (Value.slice A3 (strs.length + pk.name.size) c3).ownBlock)
    (h5 : ∀ s off, offOf s S = some off → Has strs off s) (hR : NR (.slice A1 strs.length c1) mv sv m) (h6 : mv < wB.heap.size) (h7 : sv < wB.heap.size) (h8 : m < wB.heap.size) (hat3 : (Value.slice A3 (strs.length + pk.name.size) c3).ownBlock = (Value.slice A1 strs.length c1).ownBlock ∨ (Value.slice A3 (strs.length + pk.name.size) c3).ownBlock = some wB.heap.size)
    (hat4 : (Value.slice A4 (strs.length + pk.name.size + 1) c4).ownBlock = (Value.slice A3 (strs.length + pk.name.size) c3).ownBlock ∨ (Value.slice A4 (strs.length + pk.name.size + 1) c4).ownBlock = some ((w3.setCell ⟨sv, 0, none⟩ (.slice A3 (strs.length + pk.name.size) c3)).alloc (.cells #[.int .u8 0] 5)).heap.size) (h9 : mv ≠ sv) (h10 : mv ≠ m) (h11 : sv ≠ m) (h12 : lo ≤ wB.heap.size) (h13 : S.length ≤ strs.length)
    (hmore : More S0 S strs0 strs) (hall : ∀ p ∈ ps.take k, (offOf p.name S).isSome = true) (hmem : ∀ q ∈ ps.take (k + 1), q ∈ ps.take k ∨ q = pk) (hoff : offOf pk.name S = none) (hsz : pk.name.size ≤ 31) (hsl : strs.length ≤ strs0.length + 32 * k) :
    SInv w mv sv m lo S0 strs0 ps (k + 1) (w4.setCell ⟨sv, 0, none⟩ (.slice A4 (strs.length + pk.name.size + 1) c4)) := by
  have hlen : (strs ++ bytesOf pk.name ++ [0]).length = strs.length + pk.name.size + 1 := by simp [bytesOf]; omega
  have hmap : (strs ++ bytesOf pk.name ++ [0]).map bv = strs.map bv ++ (bytesOf pk.name).map bv ++ [.int .u8 0] := by simp [bv]
  have s3 := hgrow3.size
  have s4 := hgrow4.size
  simp [World.setCell] at s4
  have hR3 := hR.step hat3 h6 h7 h8
  have hR4 := hR3.step hat4 (by simp [World.setCell]; omega) (by simp [World.setCell]; omega) (by simp [World.setCell]; omega)
  have key : ∀ b, b < wB.heap.size → b = mv ∨ b = m → b ≠ sv → (w4.setCell ⟨sv, 0, none⟩ (.slice A4 (strs.length + pk.name.size + 1) c4)).heap[b]? = wB.heap[b]? := fun b hb hbm hs => by
    have n1 : some b ≠ (Value.slice A1 strs.length c1).ownBlock := fun e => by have := hR b e.symm; omega
    have n3 : some b ≠ (Value.slice A3 (strs.length + pk.name.size) c3).ownBlock := fun e => by have := hR3 b e.symm; omega
    rw [Below.heap_setCell _ _ _ _ hs, hgrow4.block b (by simp [World.setCell]; omega) n3, Below.heap_alloc _ _ _ (by simp [World.setCell]; omega), Below.heap_setCell _ _ _ _ hs, hgrow3.block b hb n1]
  have hnew := More.new (strs := strs) hoff (off := strs.length) (bytesOf pk.name ++ [0])
  rw [← List.append_assoc] at hnew
  refine ⟨(pk.name, strs.length) :: S, strs ++ bytesOf pk.name ++ [0], ⟨j1.keep (key mv h6 (.inl rfl) h9), jm.keep (key m h8 (.inr rfl) (Ne.symm h11)), ⟨A4, c4, ?_, ?_, by rw [hlen]; exact hR4⟩, fun s off hs => ?_, h9, h10, h11, by simp [World.setCell]; omega, by simp; omega⟩, hmore.trans hnew, fun q hq => ?_, by rw [hlen]; omega, ?_⟩
  · rw [hlen]
    exact q4.set_ 0 _
  · rw [hlen, hmap]
    exact own_keep hown4 fun g hg => Below.heap_setCell _ _ _ _ (hR4 g hg).2.1
  · simp only [offOf] at hs
    split at hs
    · rename_i e
      cases hs
      rw [← e]
      exact Has.new strs pk.name
    · rw [List.append_assoc]
      exact (h5 s off hs).append _
  · simp only [offOf]
    split
    · rfl
    · rename_i e
      rcases hmem q hq with h | h
      · exact hall q h
      · exact absurd (by rw [h]) e
  · exact (((jF.grown hgrow3 h12 fun x hx => .inl (j4.lt x hx).1).setCell (.inr (.inr (.inl rfl))) _).alloc (by simp [World.setCell]; omega) _).grown hgrow4 (by simp [World.setCell]; omega) (fun x hx => .inl (hown3.lt x hx).1) |>.setCell (.inr (.inr (.inl rfl))) _

set_option maxHeartbeats 2000000 in
theorem w1_walk (w : World) (ok : Nat → Prop) (mv sv m lo : Nat) (S0 : List (ByteArray × Nat)) (strs0 : List UInt8) (lt : LT) (hok : ∀ k, ok k → k < lo ∧ k ≠ mv ∧ k ≠ sv ∧ k ≠ m) (hn : PN w ok lt) (hsb : SB w mv sv m lo S0 strs0) (b : Nat) (name : ByteArray) (ps : List Pr) (ks : List LT)
    (hlt : lt = .mk b name ps ks) (hnm : ∀ p ∈ ps, p.name.size ≤ 31) (hlen : strs0.length + 32 * ps.length ≤ 100000) :
    Calls Try.prog 68 #[.pointer (some ⟨b, 0, none⟩), .pointer (some ⟨mv, 0, none⟩), .pointer (some ⟨sv, 0, none⟩)] w (W1Post w mv sv m lo S0 strs0 ps) := by
  subst hlt
  obtain ⟨vp, A, c, hob, hns, hcs, hps, hl1, hl2, hl3, hks, hrow⟩ := hn.open_
  obtain ⟨Ap, cp, ts, rfl, hp1, hp2, hp3, hp4, hp5⟩ := hps
  have c1 := hcs.cell 1
  simp at c1
  have Hp4 := Lib.hid hp4
  have Hp5 := Lib.hid hp5
  have Hsb := Lib.hid hsb
  have Hnm := Lib.hid hnm
  clear hn hks hrow hcs hp4 hp5 hsb hnm
  go_enter Try.func68, Try.ntmps68
  go_wp2_with fail
  go_loopw [14] (fun i wr => ∃ k : Nat, k ≤ ps.length ∧ i = .int .i64 k ∧ SInv w mv sv m lo S0 strs0 ps k wr) (fun i _ => ps.length - (intOf i).toNat)
  case atStart =>
    exact ⟨0, by omega, by go_num, S0, strs0, Hsb.out, More.refl _ _, by simp, by omega, Fr.refl _ _ _⟩
  case round =>
    obtain ⟨k, hk, rfl, S, strs, ⟨h1, h2, ⟨A1, c1', h3, h4, hR⟩, h5, h9, h10, h11, h12, h13⟩, hmore, hall, hsl, hF⟩ := hrel
    clear c1
    by_cases hlt : k < ps.length
    · have hne : ps ≠ [] := by rintro rfl; simp at hlt
      obtain ⟨g, o, rfl, hog, hD⟩ := Hp5.out.resolve_left hne
      have hp4 := Hp4.out
      have hkp : ps[k]? = some ps[k] := List.getElem?_eq_getElem hlt
      have hlt2 : k < ts.length := by rw [← hp4.1]; exact hlt
      have hkt : ts[k]? = some (ts[k]'hlt2) := List.getElem?_eq_getElem hlt2
      obtain ⟨e1, pn, Av, cv, e3, -⟩ := hp4.2 k _ _ hkp hkt
      obtain ⟨d1, d2⟩ := hD k _ hkt
      obtain ⟨o1, o2, o3, o4⟩ := hok g hog
      rw [← hF.cell o1 (by simp; omega), e1] at d1
      rw [← hF.cell o1 (by simp; omega), e3] at d2
      have hsz := Hnm.out ps[k] (List.getElem_mem hlt)
      have hmem : ∀ q ∈ ps.take (k + 1), q ∈ ps.take k ∨ q = ps[k] := fun q hq => by
        rw [List.take_succ_eq_append_getElem hlt] at hq
        rcases List.mem_append.1 hq with h | h
        · exact .inl h
        · exact .inr (List.mem_singleton.1 h)
      generalize ps[k] = pk at *
      have m0 := h1.cell 0
      have s0 := h3.cell 0
      have sf := h3.frozen 0
      simp at m0 s0
      have z1 := h1.lt
      have z3 := h3.lt
      have zm := h2.lt
      have hgl : g < wr.heap.size := by omega
      have hki : (0 : Int) ≤ (k : Int) := by omega
      have hmo : MapOff (wr.alloc (.cells #[.string pk.name, .slice Av pk.val.length cv] 70)) m S := h2.keep (Below.heap_alloc _ _ _ zm)
      have hlk := hmo.look (s := pk.name) (by simp only [maxLen]; omega) true
      simp only [if_true] at hlk
      clear e1 e3 hkt hkp hD hp4
      cases hoff : offOf pk.name S with
      | some off =>
        rw [hoff] at hlk
        simp only [Option.getD_some, Option.isSome_some] at hlk
        have hfin : SInv w mv sv m lo S0 strs0 ps (k + 1) (wr.alloc (.cells #[.string pk.name, .slice Av pk.val.length cv] 70)) :=
          ⟨S, strs, ⟨h1.alloc _, hmo, ⟨A1, c1', h3.alloc _, h4.alloc _, hR⟩, h5, h9, h10, h11, by simp; omega, h13⟩, hmore, fun q hq => by
            rcases hmem q hq with h | h
            · exact hall q h
            · rw [h, hoff]; rfl, by omega, hF.alloc h12 _⟩
        have HFIN := Lib.hid hfin
        clear h1 h2 h3 h4 h5 hmore hall hF hmem hmo hfin hoff
        go_wp2_with fail
        go_roundw
        case rel => exact ⟨k + 1, hlt, by go_num, HFIN.out⟩
        case measure => simp [intOf]; omega
      | none =>
        rw [hoff] at hlk
        simp only [Option.getD_none, Option.isSome_none] at hlk
        obtain ⟨w2, hup, hmo2, hg2⟩ := hmo.put (s := pk.name) (by simp only [maxLen]; omega) (off := strs.length) (by omega) (by omega)
        have hs2 := hg2.size
        simp at hs2
        have k1 := (h1.alloc (.cells #[.string pk.name, .slice Av pk.val.length cv] 70)).grown hg2 (by simp; omega)
        have k3 := (h3.alloc (.cells #[.string pk.name, .slice Av pk.val.length cv] 70)).grown hg2 (by simp; omega)
        have k4 : w2.ownsRow lo 5 1 (.slice A1 strs.length c1') strs.length (strs.map bv) := own_keep (h4.alloc (.cells #[.string pk.name, .slice Av pk.val.length cv] 70)) fun g hg => hg2.block g (by have := h4.lt g hg; simp; omega) (by have := hR g hg; simp; omega)
        have kp := (Cs.new wr 70 #[.string pk.name, .slice Av pk.val.length cv]).grown hg2 (by simp; omega)
        have kF : Fr lo (fun x => x = mv ∨ x = sv ∨ x = m) w w2 := (hF.alloc h12 _).grown hg2 (by simp; omega) fun x hx => .inr (.inr (.inr (Option.some.inj hx).symm))
        have hcv := fun w => Lib.run_convert_string_bytes (P := Try.prog) w 9 24 5 pk.name Try.underlying9 Try.underlying24 Try.underlying5
        have hbz := Lib.bytesWorld_size w2 5 pk.name
        have hbb := conv_below w2 pk.name
        have j1 := k1.below hbb k1.lt
        have j3 := k3.below hbb k3.lt
        have j4 := own_keep (w' := Lib.bytesWorld w2 5 pk.name) k4 fun g hg => hbb.block g (k4.lt g hg).2
        have jp := kp.below hbb kp.lt
        have jF := kF.trans (Fr.of_below (B := w2.heap.size) (X := fun x => x = mv ∨ x = sv ∨ x = m) hbb |>.mono (by omega) fun _ _ h => h)
        have jm := hmo2.keep (hbb.block m hmo2.lt)
        have kc0 := k1.cell 0
        have kd0 := k3.cell 0
        have kp0 := kp.cell 0
        have jd0 := j3.cell 0
        simp at kc0 kd0 kp0 jd0
        have hsl31 : pk.name.size ≤ 31 := hsz
        have hblen : (bytesOf pk.name).length = pk.name.size := by simp [bytesOf]
        have Hj := Lib.hid (And.intro j1 (And.intro j3 (And.intro j4 (And.intro jF jm))))
        have Hmore := Lib.hid (And.intro hmore (And.intro hall (And.intro hmem (And.intro hoff h5))))
        have HR := Lib.hid hR
        clear h1 h2 h3 h4 h5 hR hmore hall hF hmem hmo hoff k1 k3 k4 kp kF hbb j1 j3 j4 jp jF jm hmo2 hg2
        go_upto_region 8 with (at_builtin; have HjX := Hj; refine wpList_append_el el24 rfl (.tmp 33) (.tmp 36) rfl lo (.slice A1 strs.length c1') strs.length (strs.map bv) rfl Hj.out.2.2.1 (some ⟨w2.heap.size, 0, none⟩) pk.name.size (grownCap w2 pk.name.size 0 5) ((bytesOf pk.name).map bv) rfl (by simp [hblen]) (conv_rd w2 pk.name) (bv_one _) (by omega) (by omega) (by omega) ?_; intro v' w3 hown3 hgrow3 hnil3 hat3; obtain ⟨A3, c3, rfl⟩ := own_slice hown3; clear hnil3; have q3 := Hj.out.2.1.grown hgrow3 (fun e => (HR.out _ e.symm).2.1 rfl); have HR3 := Lib.hid (HR.out.step hat3 (by omega) (by omega) (by omega)); have qd := q3.cell 0; have qf := q3.frozen 0; simp at qd; have Hk := Hj; clear Hj HjX)
        go_wp2_with (at_builtin; go_must (refine wpList_append_el el24 rfl (.tmp 38) (.tmp 39) rfl lo (.slice A3 (strs.length + pk.name.size) c3) (strs.length + pk.name.size) (strs.map bv ++ (bytesOf pk.name).map bv) rfl (World.ownsRow.alloc (own_keep hown3 fun g hg => Below.heap_setCell _ _ _ _ (HR3.out g hg).2.1) _) (some ⟨w3.heap.size, 0, none⟩) 1 1 [.int .u8 0] rfl (by simp) ((Cs.new' _ _ _ _ (by simp [World.setCell])).rd rfl) (by simp [Value.oneCell']) (by omega) (by omega) (by have := hgrow3.size; simp [World.setCell]; omega) ?_); intro v' w4 hown4 hgrow4 hnil4 hat4; obtain ⟨A4, c4, rfl⟩ := own_slice hown4; clear hnil4; obtain ⟨q4, qd4, qf4⟩ := sv_after q3 hown3 (fun e => (HR3.out _ e.symm).2.1 rfl) hgrow4)
        have HFIN := Lib.hid (w1_fin Hk.out.1 Hk.out.2.2.1 Hk.out.2.2.2.1 Hk.out.2.2.2.2 hgrow3 hown3 q4 hown4 hgrow4 Hmore.out.2.2.2.2 HR.out (by omega) (by omega) (by omega) hat3 hat4 h9 h10 h11 (by omega) h13 Hmore.out.1 Hmore.out.2.1 Hmore.out.2.2.1 Hmore.out.2.2.2.1 hsl31 hsl)
        exact ⟨⟨k + 1, hlt, by go_num, HFIN.out⟩, by simp [intOf]; omega⟩
    · obtain rfl : k = ps.length := by omega
      have HFIN := Lib.hid (show SInv w mv sv m lo S0 strs0 ps ps.length wr from ⟨S, strs, ⟨h1, h2, ⟨A1, c1', h3, h4, hR⟩, h5, h9, h10, h11, h12, h13⟩, hmore, hall, hsl, hF⟩)
      clear h1 h2 h3 h4 h5 hmore hall hF
      go_wp2_with fail
      go_ret
      exact ⟨rfl, HFIN.out⟩
end Go.Proofs.Ytlbhadggfipckaa
