/-
  reader.node.
-/
import Derived.Test.YtlbhadggfipckaaMa15
set_option linter.unusedVariables false
set_option linter.unusedSimpArgs false
namespace Go.Proofs.Ytlbhadggfipckaa
open Go.RowKit

theorem rn_fin {w W wr w1 : World} {r b o c q ck cvp : Nat} {st : List UInt8} {A2 : Option Addr} {c2 at0 fin : Nat} {ss : List UInt8} {name : ByteArray} {ps : List Pr} {ks : List Nd} {Avp A3 : Option Addr} {tsk : List (Value × Value × Value)} (hrs0 : RS w r b o c st A2 c2 ss at0) (hbl : b < w.heap.size) (hns : name.size ≤ 140737488351232) (hksl : ks.length * 64 ≤ 140737488351232)
    (hfW : Fr w.heap.size (· = r) w W) (hwq : w.heap.size < q) (hWs : W.heap.size = q + 1) (hF : Fr (q + 1) (fun k => k = r ∨ k = q) W wr) (hown : wr.ownsRow (q + 1) 46 3 (.slice A3 ks.length ck) ks.length (tsk.flatMap tri)) (hpr : PropsC wr (OkN b (q + 1) wr (Value.slice A3 ks.length ck).ownBlock) (.slice Avp ps.length cvp) ps)
    (hE : Each (NodeC wr (OkN b (q + 1) wr (Value.slice A3 ks.length ck).ownBlock)) ks tsk) (hrs1 : RS w1 r b o c st A2 c2 ss fin) (hfr1 : Fr wr.heap.size (· = r) wr w1) (x y z : Value) :
    ∃ t : Value × Value × Value, (Ending.returned (.agg #[.string name, .slice Avp ps.length cvp, .slice A3 ks.length ck])) = .returned (.agg #[t.1, t.2.1, t.2.2]) ∧ NodeC (((w1.setCell ⟨w.heap.size, 0, none⟩ x).setCell ⟨w.heap.size, 1, none⟩ y).setCell ⟨w.heap.size, 2, none⟩ z) (OkB b w (((w1.setCell ⟨w.heap.size, 0, none⟩ x).setCell ⟨w.heap.size, 1, none⟩ y).setCell ⟨w.heap.size, 2, none⟩ z)) (.mk name ps ks) t ∧
      RS (((w1.setCell ⟨w.heap.size, 0, none⟩ x).setCell ⟨w.heap.size, 1, none⟩ y).setCell ⟨w.heap.size, 2, none⟩ z) r b o c st A2 c2 ss fin ∧ Fr w.heap.size (· = r) w (((w1.setCell ⟨w.heap.size, 0, none⟩ x).setCell ⟨w.heap.size, 1, none⟩ y).setCell ⟨w.heap.size, 2, none⟩ z) := by
  have hrl := hrs0.1.lt
  have hbr : b ≠ r := hrs0.2.2.2.2.2.2.2.1
  have hsz := hF.size
  have hs1 := hfr1.size
  have hfin : Fr w.heap.size (· = r) w (((w1.setCell ⟨w.heap.size, 0, none⟩ x).setCell ⟨w.heap.size, 1, none⟩ y).setCell ⟨w.heap.size, 2, none⟩ z) :=
    (((hfW.trans (hF.mono (by omega) (fun k hk h => h.resolve_right (by omega)))).trans (hfr1.mono (by omega) (fun _ _ h => h))).setCell (.inl (Nat.le_refl _)) _ |>.setCell (.inl (Nat.le_refl _)) _).setCell (.inl (Nat.le_refl _)) _
  refine ⟨(.string name, .slice Avp ps.length cvp, .slice A3 ks.length ck), rfl, ?_, ?_, hfin⟩
  · have hn : NodeC wr (fun k => k = b ∨ (q + 1 ≤ k ∧ k < wr.heap.size)) (.mk name ps ks) (.string name, .slice Avp ps.length cvp, .slice A3 ks.length ck) :=
      NodeC.shut hns (hpr.mono (Same.refl _ _) (fun k hk => hk.imp id fun h => ⟨h.1, h.2.1⟩)) (kids_of_own hown hE rfl hksl (fun k hk => hk.imp id fun h => ⟨h.1, h.2.1⟩) (fun g hg => .inr ⟨(hown.lt g hg).1, (hown.lt g hg).2⟩))
    refine hn.mono (fun k hk => ?_) (fun k hk => ?_)
    · have hk1 : k ≠ w.heap.size ∧ k < wr.heap.size ∧ k ≠ r := by rcases hk with rfl | hk <;> omega
      rw [Below.heap_setCell _ _ _ _ (by simpa using hk1.1), Below.heap_setCell _ _ _ _ (by simpa using hk1.1), Below.heap_setCell _ _ _ _ (by simpa using hk1.1)]
      exact hfr1.block k hk1.2.1 hk1.2.2
    · rcases hk with rfl | hk
      · exact .inl rfl
      · exact .inr ⟨by omega, by simp [World.setCell]; omega⟩
  · exact hrs0.step hfin (((hrs1.1.far (p := ⟨w.heap.size, 0, none⟩) (by simp; omega) _).far (p := ⟨w.heap.size, 1, none⟩) (by simp; omega) _).far (p := ⟨w.heap.size, 2, none⟩) (by simp; omega) _)

def RNPost (w : World) (r b o c : Nat) (st : List UInt8) (A2 : Option Addr) (c2 : Nat) (ss : List UInt8) (n : Nd) (fin : Nat) (e : Ending) (w' : World) : Prop :=
  ∃ t : Value × Value × Value, e = .returned (.agg #[t.1, t.2.1, t.2.2]) ∧ NodeC w' (OkB b w w') n t ∧ RS w' r b o c st A2 c2 ss fin ∧ Fr w.heap.size (· = r) w w'

/-- The loop's state while there are properties. -/
def PhP (W : World) (q b : Nat) (name : ByteArray) (ps1 : List Pr) (wr : World) : Prop :=
  ∃ A1 cp tsp, Cs wr q #[.string name, .slice A1 ps1.length cp, .slice none 0 0] ∧ wr.ownsRow (q + 1) 125 2 (.slice A1 ps1.length cp) ps1.length (tsp.flatMap duo) ∧ Each (PrC wr (OkN b (q + 1) wr (Value.slice A1 ps1.length cp).ownBlock)) ps1 tsp

/-- The loop's state behind the properties. -/
def PhK (W : World) (q b : Nat) (name : ByteArray) (ps : List Pr) (ks1 : List Nd) (wr : World) : Prop :=
  ∃ vp A3 ck tsk, Cs wr q #[.string name, vp, .slice A3 ks1.length ck] ∧ wr.ownsRow (q + 1) 46 3 (.slice A3 ks1.length ck) ks1.length (tsk.flatMap tri) ∧ PropsC wr (OkN b (q + 1) wr (Value.slice A3 ks1.length ck).ownBlock) vp ps ∧ Each (NodeC wr (OkN b (q + 1) wr (Value.slice A3 ks1.length ck).ownBlock)) ks1 tsk

def RInv (W : World) (q r b o c : Nat) (st : List UInt8) (A2 : Option Addr) (c2 : Nat) (ss post : List UInt8) (name : ByteArray) (ps : List Pr) (ks : List Nd) (wr : World) : Prop :=
  Fr (q + 1) (fun k => k = r ∨ k = q) W wr ∧
    ((∃ ps1 ps2 b2 bk pre, ps = ps1 ++ ps2 ∧ EncP ss 0 ps2 b2 ∧ EncL ss 0 ks bk ∧ st = pre ++ (b2 ++ bk ++ tok 0 2 ++ post) ∧ RS wr r b o c st A2 c2 ss pre.length ∧ PhP W q b name ps1 wr) ∨
      ∃ ks1 ks2 b2 pre, ks = ks1 ++ ks2 ∧ EncL ss 0 ks2 b2 ∧ st = pre ++ (b2 ++ tok 0 2 ++ post) ∧ RS wr r b o c st A2 c2 ss pre.length ∧ PhK W q b name ps ks1 wr)

theorem phP_K {W : World} {q b : Nat} {name : ByteArray} {ps : List Pr} {wr : World} (hl : ps.length * 40 ≤ 140737488351232) (h : PhP W q b name ps wr) : PhK W q b name ps [] wr := by
  obtain ⟨A1, cp, tsp, h1, h2, h3⟩ := h
  refine ⟨.slice A1 ps.length cp, none, 0, [], h1, World.ownsRow_nil _ _ _ _, ?_, Each.nil⟩
  exact props_of_own h2 h3 rfl hl (fun k hk => hk.imp id fun h => ⟨h.1, h.2.1, by simp [Value.ownBlock]⟩) (fun g hg => .inr ⟨(h2.lt g hg).1, (h2.lt g hg).2, by simp [Value.ownBlock]⟩)

/-- Once there is no property left, the loop is behind them. -/
theorem RInv.cases {W : World} {q r b o c : Nat} {st : List UInt8} {A2 : Option Addr} {c2 : Nat} {ss post : List UInt8} {name : ByteArray} {ps : List Pr} {ks : List Nd} {wr : World} (hl : ps.length * 40 ≤ 140737488351232) (h : RInv W q r b o c st A2 c2 ss post name ps ks wr) :
    Fr (q + 1) (fun k => k = r ∨ k = q) W wr ∧
    ((∃ ps1 p ps2 off b2 bk pre, ps = ps1 ++ p :: ps2 ∧ Has ss off p.name ∧ EncP ss 0 ps2 b2 ∧ EncL ss 0 ks bk ∧ st = pre ++ (be4 3 ++ (be4 p.val.length ++ (be4 off ++ (p.val ++ (pad 4 p.val.length ++ (b2 ++ bk ++ tok 0 2 ++ post)))))) ∧ RS wr r b o c st A2 c2 ss pre.length ∧ PhP W q b name ps1 wr) ∨
      (∃ ks1 k ks2 enc b2 pre, ks = ks1 ++ k :: ks2 ∧ EncN ss 0 k enc ∧ EncL ss 0 ks2 b2 ∧ st = pre ++ (enc ++ (b2 ++ tok 0 2 ++ post)) ∧ RS wr r b o c st A2 c2 ss pre.length ∧ PhK W q b name ps ks1 wr) ∨
      ∃ pre, st = pre ++ (be4 2 ++ post) ∧ RS wr r b o c st A2 c2 ss pre.length ∧ PhK W q b name ps ks wr) := by
  obtain ⟨hf, h⟩ := h
  refine ⟨hf, ?_⟩
  have hK : ∀ ks1 ks2 b2 pre, ks = ks1 ++ ks2 → EncL ss 0 ks2 b2 → st = pre ++ (b2 ++ tok 0 2 ++ post) → RS wr r b o c st A2 c2 ss pre.length → PhK W q b name ps ks1 wr →
      (∃ ks1 k ks2 enc b2 pre, ks = ks1 ++ k :: ks2 ∧ EncN ss 0 k enc ∧ EncL ss 0 ks2 b2 ∧ st = pre ++ (enc ++ (b2 ++ tok 0 2 ++ post)) ∧ RS wr r b o c st A2 c2 ss pre.length ∧ PhK W q b name ps ks1 wr) ∨
      ∃ pre, st = pre ++ (be4 2 ++ post) ∧ RS wr r b o c st A2 c2 ss pre.length ∧ PhK W q b name ps ks wr := by
    intro ks1 ks2 b2 pre h1 h2 h3 h4 h5
    cases h2 with
    | nil => exact .inr ⟨pre, by rw [h3]; simp [tok], h4, by rw [h1, List.append_nil]; exact h5⟩
    | cons he hr => exact .inl ⟨ks1, _, _, _, _, pre, h1, he, hr, by rw [h3]; simp [List.append_assoc], h4, h5⟩
  rcases h with ⟨ps1, ps2, b2, bk, pre, h1, h2, h3, h4, h5, h6⟩ | ⟨ks1, ks2, b2, pre, h1, h2, h3, h4, h5⟩
  · cases h2 with
    | nil => exact .inr (hK [] ks bk pre rfl h3 (by rw [h4]; simp) h5 (phP_K hl (by rw [h1, List.append_nil]; exact h6)))
    | cons he hr => exact .inl ⟨ps1, _, _, _, _, bk, pre, h1, he, hr, h3, by rw [h4]; simp [tok, pad4, List.append_assoc], h5, h6⟩
  · exact .inr (hK ks1 ks2 b2 pre h1 h2 h3 h4 h5)

/-- The place that a reader's cell tells. -/
def atOf : Option Value → Nat
  | some (.int _ n) => n.toNat
  | _ => 0

theorem num1 : numOf (be4 1) = 1 := by decide
theorem num2 : numOf (be4 2) = 2 := by decide
theorem num3 : numOf (be4 3) = 3 := by decide

theorem EncN.head {ss : List UInt8} {n : Nd} {enc : List UInt8} (h : EncN ss 0 n enc) : ∃ tl, enc = be4 1 ++ tl := by
  cases h with
  | mk hp hk => exact ⟨_, by simp only [tok, List.replicate, List.flatten_nil, List.nil_append, List.append_assoc]; rfl⟩

theorem rk_fin {w W wr w3 w2 : World} {r b o c q ck n5 c5 n6 c6 c' : Nat} {st : List UInt8} {A2 : Option Addr} {c2 at0 : Nat} {ss post enc b2 pre : List UInt8} {name s1 : ByteArray} {ps : List Pr} {ks ks1 ks2 : List Nd} {kk : Nd} {vp : Value} {A3 A5 A6 A' : Option Addr} {tsk : List (Value × Value × Value)} (hrs0 : RS w r b o c st A2 c2 ss at0) (hbl : b < w.heap.size)
    (hfW : Fr w.heap.size (· = r) w W) (hwq : w.heap.size < q) (hWs : W.heap.size = q + 1) (hF : Fr (q + 1) (fun k => k = r ∨ k = q) W wr) (hks : ks = ks1 ++ kk :: ks2) (hr2 : EncL ss 0 ks2 b2) (hst : st = pre ++ (enc ++ (b2 ++ tok 0 2 ++ post)))
    (hq1 : Cs wr q #[.string name, vp, .slice A3 ks1.length ck]) (hown : wr.ownsRow (q + 1) 46 3 (.slice A3 ks1.length ck) ks1.length (tsk.flatMap tri)) (hpr : PropsC wr (OkN b (q + 1) wr (Value.slice A3 ks1.length ck).ownBlock) vp ps)
    (hE : Each (NodeC wr (OkN b (q + 1) wr (Value.slice A3 ks1.length ck).ownBlock)) ks1 tsk) (hf3 : Fr wr.heap.size (· = r) wr w3) (hn3 : NodeC w3 (OkB b wr w3) kk (.string s1, .slice A5 n5 c5, .slice A6 n6 c6)) (hrs3 : RS w3 r b o c st A2 c2 ss (pre ++ enc).length)
    (hown1 : w2.ownsRow (q + 1) 46 3 (.slice A' (ks1.length + 1) c') (ks1.length + 1) (tsk.flatMap tri ++ [.string s1, .slice A5 n5 c5, .slice A6 n6 c6])) (hgrow : (w3.alloc (.cells #[.string s1, .slice A5 n5 c5, .slice A6 n6 c6] 46)).grownBy w2 (Value.slice A3 ks1.length ck).ownBlock)
    (hat : (Value.slice A' (ks1.length + 1) c').ownBlock = (Value.slice A3 ks1.length ck).ownBlock ∨ (Value.slice A' (ks1.length + 1) c').ownBlock = some (w3.alloc (.cells #[.string s1, .slice A5 n5 c5, .slice A6 n6 c6] 46)).heap.size) :
    RInv W q r b o c st A2 c2 ss post name ps ks (w2.setCell ⟨q, 2, none⟩ (.slice A' (ks1.length + 1) c')) ∧ atOf ((w2.setCell ⟨q, 2, none⟩ (.slice A' (ks1.length + 1) c')).cell? ⟨r, 2, none⟩) = (pre ++ enc).length := by
  have hrl := hrs0.1.lt
  have hbr : b ≠ r := hrs0.2.2.2.2.2.2.2.1
  have hsz := hF.size
  have hs3 := hf3.size
  have hql := hq1.lt
  obtain ⟨a1, a2, a3, a4, a5⟩ := rn_frame (b := b) (j := 2) (u := .slice A' (ks1.length + 1) c') hown rfl (show r < q by omega) (by omega) hbr (by omega) hf3 hgrow hat
  have hF5 := hF.trans a5
  have hrow : ∀ k, k < q + 1 → some k ≠ (Value.slice A3 ks1.length ck).ownBlock := fun k hk => own_ne hown hk
  have hcr : Cs (w2.setCell ⟨q, 2, none⟩ (.slice A' (ks1.length + 1) c')) r _ := ((hrs3.1.alloc _).grown hgrow (hrow r (by omega))).far (p := ⟨q, 2, none⟩) (by simp; omega) _
  have hfw : Fr w.heap.size (· = r) w (w2.setCell ⟨q, 2, none⟩ (.slice A' (ks1.length + 1) c')) := hfW.trans (hF5.mono (by omega) (fun k hk h => h.resolve_right (by omega)))
  have hrs5 := hrs0.step hfw hcr
  have hq5 : Cs (w2.setCell ⟨q, 2, none⟩ (.slice A' (ks1.length + 1) c')) q #[.string name, vp, .slice A' (ks1.length + 1) c'] := by
    have h := (((hq1.fr hf3 hql (by omega)).alloc (.cells #[.string s1, .slice A5 n5 c5, .slice A6 n6 c6] 46)).grown hgrow (hrow q (by omega))).set_ 2 (.slice A' (ks1.length + 1) c')
    simpa using h
  have hl1 : (ks1 ++ [kk]).length = ks1.length + 1 := by simp
  refine ⟨⟨hF5, .inr ⟨ks1 ++ [kk], ks2, b2, pre ++ enc, by rw [hks]; simp, hr2, by rw [hst]; simp [List.append_assoc], hrs5, vp, A', c', tsk ++ [(.string s1, .slice A5 n5 c5, .slice A6 n6 c6)], ?_, ?_, ?_, ?_⟩⟩, ?_⟩
  · rw [hl1]; exact hq5
  · rw [hl1, List.flatMap_append]
    exact ownsRow_setCell_below (a := ⟨q, 2, none⟩) hown1 (by simp) _
  · rw [hl1]; exact hpr.mono a1 a2
  · rw [hl1]
    exact (hE.imp fun _ _ h => NodeC.mono a1 a2 h).snoc (NodeC.mono a3 a4 hn3)
  · rw [(hrs5.1.cell 2).trans rfl]
    show (((pre ++ enc).length : Nat) : Int).toNat = _
    omega

theorem rp_fin {w W wr w6 w2 : World} {r b o c q cp e4 c' at3 : Nat} {st : List UInt8} {A2 : Option Addr} {c2 at0 : Nat} {ss post b2 bk pre5 : List UInt8} {name : ByteArray} {ps ps1 ps2 : List Pr} {p : Pr} {ks : List Nd} {A1 A' B4 : Option Addr} {tsp : List (Value × Value)} (hrs0 : RS w r b o c st A2 c2 ss at0) (hbl : b < w.heap.size)
    (hfW : Fr w.heap.size (· = r) w W) (hwq : w.heap.size < q) (hWs : W.heap.size = q + 1) (hF : Fr (q + 1) (fun k => k = r ∨ k = q) W wr) (hps : ps = ps1 ++ p :: ps2) (hr2 : EncP ss 0 ps2 b2) (hk2 : EncL ss 0 ks bk) (hst : st = pre5 ++ (b2 ++ bk ++ tok 0 2 ++ post))
    (hq1 : Cs wr q #[.string name, .slice A1 ps1.length cp, .slice none 0 0]) (hown : wr.ownsRow (q + 1) 125 2 (.slice A1 ps1.length cp) ps1.length (tsp.flatMap duo)) (hE : Each (PrC wr (OkN b (q + 1) wr (Value.slice A1 ps1.length cp).ownBlock)) ps1 tsp)
    (hf6 : Fr wr.heap.size (· = r) wr w6) (hns : p.name.size ≤ 140737488351232) (hvl : p.val.length ≤ 140737488351232) (hB : B4 = some ⟨b, o + at3, none⟩ ∨ p.val.length = 0 ∧ B4 = some ⟨b, o, none⟩) (hsub : (st.drop at3).take p.val.length = p.val) (hB1 : p.val.length ≤ e4) (hB2 : e4 ≤ c) (hrs6 : RS w6 r b o c st A2 c2 ss pre5.length)
    (hown1 : w2.ownsRow (q + 1) 125 2 (.slice A' (ps1.length + 1) c') (ps1.length + 1) (tsp.flatMap duo ++ [.string p.name, .slice B4 p.val.length e4])) (hgrow : (w6.alloc (.cells #[.string p.name, .slice B4 p.val.length e4] 125)).grownBy w2 (Value.slice A1 ps1.length cp).ownBlock)
    (hat : (Value.slice A' (ps1.length + 1) c').ownBlock = (Value.slice A1 ps1.length cp).ownBlock ∨ (Value.slice A' (ps1.length + 1) c').ownBlock = some (w6.alloc (.cells #[.string p.name, .slice B4 p.val.length e4] 125)).heap.size) :
    RInv W q r b o c st A2 c2 ss post name ps ks (w2.setCell ⟨q, 1, none⟩ (.slice A' (ps1.length + 1) c')) ∧ atOf ((w2.setCell ⟨q, 1, none⟩ (.slice A' (ps1.length + 1) c')).cell? ⟨r, 2, none⟩) = pre5.length := by
  have hrl := hrs0.1.lt
  have hbr : b ≠ r := hrs0.2.2.2.2.2.2.2.1
  have hsz := hF.size
  have hs3 := hf6.size
  have hql := hq1.lt
  obtain ⟨a1, a2, a3, a4, a5⟩ := rn_frame (b := b) (j := 1) (u := .slice A' (ps1.length + 1) c') hown rfl (show r < q by omega) (by omega) hbr (by omega) hf6 hgrow hat
  have hF5 := hF.trans a5
  have hrow : ∀ k, k < q + 1 → some k ≠ (Value.slice A1 ps1.length cp).ownBlock := fun k hk => own_ne hown hk
  have hcr : Cs (w2.setCell ⟨q, 1, none⟩ (.slice A' (ps1.length + 1) c')) r _ := ((hrs6.1.alloc _).grown hgrow (hrow r (by omega))).far (p := ⟨q, 1, none⟩) (by simp; omega) _
  have hfw : Fr w.heap.size (· = r) w (w2.setCell ⟨q, 1, none⟩ (.slice A' (ps1.length + 1) c')) := hfW.trans (hF5.mono (by omega) (fun k hk h => h.resolve_right (by omega)))
  have hrs5 := hrs0.step hfw hcr
  have hq5 : Cs (w2.setCell ⟨q, 1, none⟩ (.slice A' (ps1.length + 1) c')) q #[.string name, .slice A' (ps1.length + 1) c', .slice none 0 0] := by
    have h := (((hq1.fr hf6 hql (by omega)).alloc (.cells #[.string p.name, .slice B4 p.val.length e4] 125)).grown hgrow (hrow q (by omega))).set_ 1 (.slice A' (ps1.length + 1) c')
    simpa using h
  have hl1 : (ps1 ++ [p]).length = ps1.length + 1 := by simp
  have hpc : PrC w6 (OkB b wr w6) p (.string p.name, .slice B4 p.val.length e4) := by
    refine ⟨rfl, hns, B4, e4, rfl, hvl, hB1, Nat.le_trans hB2 hrs0.2.2.2.2.1, ?_⟩
    rcases hB with rfl | ⟨h0, rfl⟩
    · refine .inr ⟨b, o + at3, rfl, .inl rfl, ?_⟩
      have h := rd_sub hrs6.2.1 at3 p.val.length
      rw [hsub] at h
      rcases h with h | ⟨b', o', e, h⟩
      · intro j u hu; rw [h] at hu; simp at hu
      · cases e; exact h
    · exact .inl (by rw [List.length_eq_zero_iff.1 h0]; rfl)
  refine ⟨⟨hF5, .inl ⟨ps1 ++ [p], ps2, b2, bk, pre5, by rw [hps]; simp, hr2, hk2, hst, hrs5, A', c', tsp ++ [(.string p.name, .slice B4 p.val.length e4)], ?_, ?_, ?_⟩⟩, ?_⟩
  · rw [hl1]; exact hq5
  · rw [hl1, List.flatMap_append]
    exact ownsRow_setCell_below (a := ⟨q, 1, none⟩) hown1 (by simp) _
  · rw [hl1]
    exact (hE.imp fun _ _ h => h.mono a1 a2).snoc (hpc.mono a3 a4)
  · rw [(hrs5.1.cell 2).trans rfl]
    show ((pre5.length : Nat) : Int).toNat = _
    omega

set_option maxRecDepth 20000 in
set_option maxHeartbeats 4000000 in
theorem rnode_walk (n : Nd) : ∀ (w : World) (r b o c : Nat) (st : List UInt8) (A2 : Option Addr) (c2 : Nat) (ss : List UInt8) (enc pre0 post : List UInt8) (d : Nat), EncN ss 0 n enc → st = pre0 ++ (enc ++ post) → RS w r b o c st A2 c2 ss (pre0.length + 4) → b < w.heap.size → n.zf → n.depth ≤ d → d ≤ 100 → ∀ fin, fin + post.length = st.length →
    Calls Try.prog 45 #[.pointer (some ⟨r, 0, none⟩), .int .i64 d] w (RNPost w r b o c st A2 c2 ss n fin) := by
  refine Nd.ind (P := fun n => ∀ (w : World) (r b o c : Nat) (st : List UInt8) (A2 : Option Addr) (c2 : Nat) (ss : List UInt8) (enc pre0 post : List UInt8) (d : Nat), EncN ss 0 n enc → st = pre0 ++ (enc ++ post) → RS w r b o c st A2 c2 ss (pre0.length + 4) → b < w.heap.size → n.zf → n.depth ≤ d → d ≤ 100 → ∀ fin, fin + post.length = st.length →
    Calls Try.prog 45 #[.pointer (some ⟨r, 0, none⟩), .int .i64 d] w (RNPost w r b o c st A2 c2 ss n fin)) ?_ n
  intro name ps ks IH w r b o c st A2 c2 ss enc pre0 post d henc hst hrs hbl hzf hd hd2 fin hfin
  cases henc with
  | @mk _ _ _ bp bk hp hk =>
  simp only [Nd.zf] at hzf
  simp only [Nd.depth] at hd
  obtain ⟨h1, h2, h3, h4, h5, h6, h7, h8, h9, h10, h11⟩ := id hrs
  have hstl := h10
  have e1 : pad4 (bytesOf name ++ [0]) = bytesOf name ++ 0 :: pad 4 (name.size + 1) := by simp [pad4, bytesOf]
  have hst2 : st = (pre0 ++ be4 1) ++ bytesOf name ++ 0 :: (pad 4 (name.size + 1) ++ bp ++ bk ++ tok 0 2 ++ post) := by rw [hst, e1]; simp [tok, List.append_assoc]
  have hhas : Has st (pre0.length + 4) name := ⟨pre0 ++ be4 1, _, hst2, by simp [be4]⟩
  have hpl : (pad4 (bytesOf name ++ [0])).length = al4 (name.size + 1) := by rw [pad4_len]; simp [bytesOf]
  have hst3 : st = (pre0 ++ be4 1) ++ (pad4 (bytesOf name ++ [0]) ++ (bp ++ bk ++ tok 0 2 ++ post)) := by rw [hst]; simp [tok, List.append_assoc]
  have hlen3 := len_at hst3
  rw [hpl] at hlen3
  have hal := al4_le (name.size + 1)
  have hpre4 : (pre0 ++ be4 1).length = pre0.length + 4 := by simp [be4]
  rw [hpre4] at hlen3
  have hTX := text_walk2 (w.alloc (.cells #[.string ⟨#[]⟩, .slice none 0 0, .slice none 0 0] 46)).drew (some ⟨b, o, none⟩) c st (.inr ⟨b, o, rfl, fun j u hu => (World.cell?_alloc_lt w _ _ (World.block_lt_of_cell? w _ (h2 j u hu))).trans (h2 j u hu)⟩) h4 h5 (by omega) (pre0.length + 4) name hhas hzf.1
  have HTX := Lib.hid hTX
  have hrs1 : RS (w.alloc (.cells #[.string ⟨#[]⟩, .slice none 0 0, .slice none 0 0] 46)).drew r b o c st A2 c2 ss (pre0.length + 4) := hrs.keep ((((Below.refl _ _).alloc (Nat.le_refl _) _).drew))
  have HTK := Lib.hid (take_walk _ r b o c st A2 c2 ss (pre0.length + 4) (al4 (name.size + 1)) hrs1 hlen3)
  rw [show ((al4 (name.size + 1) : Nat) : Int) = ((name.size : Int) + 4) / 4 * 4 by unfold al4; omega] at HTK
  have c0 : (w.alloc (.cells #[.string ⟨#[]⟩, .slice none 0 0, .slice none 0 0] 46)).cell? ⟨r, 0, none⟩ = some (.slice (some ⟨b, o, none⟩) st.length c) := (hrs1.1.cell 0).trans rfl
  have c2' : (w.alloc (.cells #[.string ⟨#[]⟩, .slice none 0 0, .slice none 0 0] 46)).cell? ⟨r, 2, none⟩ = some (.int .i64 (pre0.length + 4 : Nat)) := (hrs1.1.cell 2).trans rfl
  have hrl := h1.lt
  have hd0 : ((d : Int) == 0) = false := by simp; omega
  have Hst := Lib.hid (And.intro hst (And.intro hst3 hfin))
  have Hhd := Lib.hid (And.intro hp (And.intro hk hzf))
  have hns : name.size ≤ 10000000 := by omega
  have hpsl : ps.length * 40 ≤ 140737488351232 := by
    have := hp.len
    have h12 : ∀ l : List Pr, 12 * l.length ≤ szP l := fun l => by
      induction l with
      | nil => simp [szP]
      | cons p l ih => simp only [szP, List.length_cons]; omega
    have := h12 ps
    rw [hst3] at h10
    simp only [List.length_append] at h10
    omega
  have hksl : ks.length * 64 ≤ 140737488351232 := by
    have := hk.len_ge
    rw [hst3] at h10
    simp only [List.length_append] at h10
    omega
  have IH := Lib.hid IH
  have Hrs0 := Lib.hid hrs
  clear h1 h2 h3 h9 hrs hhas hst hst2 hst3 hp hk hzf hTX hrs1 e1 hfin
  go_enter Try.func45, Try.ntmps45
  go_wp2_with fail
  refine wp_region_seq (fun w' => w'.cell? ⟨r, 0, none⟩ = some (.slice (some ⟨b, o, none⟩) st.length c) ∧ w'.cell? ⟨r, 2, none⟩ = some (.int .i64 (pre0.length + 4 : Nat))) 13
    [(0, true), (1, true), (2, true), (3, true), (4, true), (5, true), (6, true), (7, true), (8, false), (9, true), (10, true), (11, true), (12, true), (13, false)] (by kernel_rfl) (by kernel_rfl) ⟨c0, c2'⟩ ?_
  simp only [opsIn, List.map_cons, List.map_nil, List.getElem?_toArray, List.getElem?_cons_zero, List.getElem?_cons_succ, Option.getD_some, Nat.reduceBEq]
  iterate 8
    refine' Seq.quiet (by rfl) ?_ ?_
    rotate_left
    · rintro w' ⟨hS1, hS2⟩
      go_simp
      try with_reducible rfl
    try simp only [Act.put, List.setIfInBounds_toArray, List.set_cons_zero, List.set_cons_succ]
  refine Seq.eff ?_ ?_
  · rfl
  intro K hK
  go_simp
  refine HTX.out.mono ?_
  rintro e w9 ⟨rfl, rfl⟩
  refine hK.out _ _ (.inr ⟨c0, c2'⟩) ?_
  clear hK K
  try simp only [Act.put, List.setIfInBounds_toArray, List.set_cons_zero, List.set_cons_succ]
  iterate 4
    refine' Seq.quiet (by rfl) ?_ ?_
    rotate_left
    · rintro w' ⟨hS1, hS2⟩
      go_simp
      try with_reducible rfl
    try simp only [Act.put, List.setIfInBounds_toArray, List.set_cons_zero, List.set_cons_succ]
  refine Seq.last ?_ ?_
  · rfl
  intro K hK
  go_simp
  refine hK.out _ _ ?_
  clear hK K
  go_wp2_with fail
  refine HTK.out.mono ?_
  rintro e w2 ⟨⟨A', c', rfl, -⟩, hrs2, hfr2⟩
  have hw2 := hfr2.size
  simp at hw2
  have hrb2 : Cs w2 w.heap.size #[.string ⟨#[]⟩, .slice none 0 0, .slice none 0 0] := (Cs.new w 46 _).drew.fr hfr2 (by simp) (by omega)
  have hf2 : Fr w.heap.size (· = r) w w2 := (((Fr.refl w.heap.size (· = r) w).alloc (Nat.le_refl _) _).drew).trans (hfr2.mono (by simp) (fun _ _ h => h))
  have Hrs2 := Lib.hid hrs2
  have Hf2 := Lib.hid hf2
  have Hrb2 := Lib.hid hrb2
  clear hrs2 hfr2 hf2 hrb2 c0 c2' HTX HTK
  go_wp2_with fail
  generalize hV : w2.alloc (.cells #[.string name, .slice none 0 0, .slice none 0 0] 46) = W
  have hWs : W.heap.size = w2.heap.size + 1 := by rw [← hV]; simp
  have hWb : Below w2.heap.size w2 W := by rw [← hV]; exact (Below.refl _ _).alloc (Nat.le_refl _) _
  have hWq : Cs W w2.heap.size #[.string name, .slice none 0 0, .slice none 0 0] := by rw [← hV]; exact Cs.new _ _ _
  clear hV
  obtain ⟨q, hq⟩ : ∃ q, w2.heap.size = q := ⟨_, rfl⟩
  rw [hq] at hWs hWq ⊢
  have HfW := Lib.hid (Hf2.out.trans (Fr.of_below (hWb.mono (by omega))))
  have HrbW := Lib.hid (Hrb2.out.below hWb (by omega))
  have hstart : RInv W q r b o c st A2 c2 ss post name ps ks W := by
    refine ⟨Fr.refl _ _ _, .inl ⟨[], ps, bp, bk, pre0 ++ be4 1 ++ pad4 (bytesOf name ++ [0]), rfl, Hhd.out.1, Hhd.out.2.1, ?_, ?_, none, 0, [], hWq, World.ownsRow_nil _ _ _ _, Each.nil⟩⟩
    · rw [Hst.out.2.1]; simp [List.append_assoc]
    · have := Hrs2.out.keep hWb
      rw [List.length_append, hpre4, hpl]
      exact this
  have Hstart := Lib.hid hstart
  clear hstart hWb hWq Hf2 Hrb2 Hrs2
  go_loopw [44] (fun x wr => RInv W q r b o c st A2 c2 ss post name ps ks wr) (fun _ wr => st.length - atOf (wr.cell? ⟨r, 2, none⟩))
  case atStart => exact Hstart.out
  case round =>
    have hinv := hrel
    clear hrel
    obtain ⟨hF, hP | hK | hE⟩ := hinv.cases hpsl
    · obtain ⟨ps1, p, ps2, off, b2, bk2, pre, hps, hhas, hr2, hk2, hst, hrs, A1, cp, tsp, hq1, hown, hE⟩ := hP
      have hst0 := hst
      have hpz : zfree p.name := Hhd.out.2.2.2.1 p (by rw [hps]; simp)
      have hvl : p.val.length ≤ 10000000 := by rw [hst] at hstl; simp only [List.length_append] at hstl; omega
      have hofl := hhas.lt
      have hpl1 : ps1.length + 1 ≤ ps.length := by rw [hps]; simp
      have c3 : wr.cell? ⟨r, 3, none⟩ = some (.bool false) := (hrs.1.cell 3).trans rfl
      have d2 : wr.cell? ⟨r, 2, none⟩ = some (.int .i64 (pre.length : Nat)) := (hrs.1.cell 2).trans rfl
      have HT := Lib.hid (token_walk wr r b o c st A2 c2 ss pre.length (be4 3) hrs (len_at hst) (sub_at hst) (by rw [num3]; omega))
      rw [num3] at HT
      have hsz := hF.size
      have hql := hq1.lt
      have q2 : wr.cell? ⟨q, 2, none⟩ = some (.slice none 0 0) := (hq1.cell 2).trans rfl
      have q1 : wr.cell? ⟨q, 1, none⟩ = some (.slice A1 ps1.length cp) := (hq1.cell 1).trans rfl
      have st1 : st = (pre ++ be4 3) ++ (be4 p.val.length ++ (be4 off ++ (p.val ++ (pad 4 p.val.length ++ (b2 ++ bk2 ++ tok 0 2 ++ post))))) := by rw [hst]; simp [List.append_assoc]
      have st2 : st = (pre ++ be4 3 ++ be4 p.val.length) ++ (be4 off ++ (p.val ++ (pad 4 p.val.length ++ (b2 ++ bk2 ++ tok 0 2 ++ post)))) := by rw [hst]; simp [List.append_assoc]
      have st3 : st = (pre ++ be4 3 ++ be4 p.val.length ++ be4 off) ++ (p.val ++ (pad 4 p.val.length ++ (b2 ++ bk2 ++ tok 0 2 ++ post))) := by rw [hst]; simp [List.append_assoc]
      have st4 : st = (pre ++ be4 3 ++ be4 p.val.length ++ be4 off ++ p.val) ++ (pad 4 p.val.length ++ (b2 ++ bk2 ++ tok 0 2 ++ post)) := by rw [hst]; simp [List.append_assoc]
      have st5 : st = (pre ++ be4 3 ++ be4 p.val.length ++ be4 off ++ p.val ++ pad 4 p.val.length) ++ (b2 ++ bk2 ++ tok 0 2 ++ post) := by rw [hst]; simp [List.append_assoc]
      have HST := Lib.hid (And.intro st1 (And.intro st2 (And.intro st3 (And.intro st4 st5))))
      have hssl : ss.length ≤ 10000000 := hrs.2.2.2.2.2.2.2.2.2.2
      have HP := Lib.hid (And.intro hF (And.intro hps (And.intro hr2 (And.intro hk2 (And.intro hq1 (And.intro hown hE))))))
      have Hhas := Lib.hid (And.intro hhas hpz)
      clear hF hown hE hrs hst hst0 hq1 Hstart hps hr2 hk2 st1 st2 st3 st4 st5 hhas hpz
      go_wp2_with fail
      refine HT.out.mono ?_
      rintro e w1 ⟨rfl, hrs1, hfr1⟩
      rw [show pre.length + 4 = (pre ++ be4 3).length by simp [be4]] at hrs1
      have HT1 := Lib.hid (take_walk w1 r b o c st A2 c2 ss (pre ++ be4 3).length 4 hrs1 (len_at HST.out.1))
      have Hf := Lib.hid hfr1
      clear hrs1 hfr1 c3
      go_wp2_with fail
      refine HT1.out.mono ?_
      rintro e w2 ⟨⟨B2, e2, rfl, hB2, -, -⟩, hrs2, hfr2⟩
      have hrd2 := take_rd (n := 4) hrs2 (A' := B2) (by rcases hB2 with h | h; exact .inl ⟨by rw [h]; congr 1, by omega⟩; exact .inr h)
      rw [Nat.add_sub_cancel, show (st.drop (pre ++ be4 3).length).take 4 = be4 p.val.length from sub_at HST.out.1] at hrd2
      have HN2 := Lib.hid (number_walk w2 B2 e2 (be4 p.val.length) hrd2 (by simp [be4]))
      rw [numOf_be4 p.val.length (by omega), show (be4 (p.val.length : Int)).length = 4 from rfl] at HN2
      rw [show (pre ++ be4 3).length + 4 = (pre ++ be4 3 ++ be4 p.val.length).length by simp [be4]] at hrs2
      have HT2 := Lib.hid (take_walk w2 r b o c st A2 c2 ss (pre ++ be4 3 ++ be4 p.val.length).length 4 hrs2 (len_at HST.out.2.1))
      have hs1 := Hf.out.size
      have Hf := Lib.hid (Hf.out.trans (hfr2.mono hs1 (fun _ _ h => h)))
      clear hrs2 hfr2 hB2 hrd2
      go_wp2_with fail
      refine HN2.out.mono ?_
      rintro e w9 ⟨rfl, rfl⟩
      go_wp2_with fail
      refine HT2.out.mono ?_
      rintro e w3 ⟨⟨B3, e3, rfl, hB3, -, -⟩, hrs3, hfr3⟩
      have hrd3 := take_rd (n := 4) hrs3 (A' := B3) (by rcases hB3 with h | h; exact .inl ⟨by rw [h]; congr 1, by omega⟩; exact .inr h)
      rw [Nat.add_sub_cancel, show (st.drop (pre ++ be4 3 ++ be4 p.val.length).length).take 4 = be4 off from sub_at HST.out.2.1] at hrd3
      have HN3 := Lib.hid (number_walk w3 B3 e3 (be4 off) hrd3 (by simp [be4]))
      rw [numOf_be4 off (by omega), show (be4 (off : Int)).length = 4 from rfl] at HN3
      rw [show (pre ++ be4 3 ++ be4 p.val.length).length + 4 = (pre ++ be4 3 ++ be4 p.val.length ++ be4 off).length by simp [be4]] at hrs3
      have HT3 := Lib.hid (take_walk w3 r b o c st A2 c2 ss (pre ++ be4 3 ++ be4 p.val.length ++ be4 off).length p.val.length hrs3 (len_at HST.out.2.2.1))
      have HTX := Lib.hid (text_walk2 w3 A2 c2 ss hrs3.2.2.1 h6 h7 (by omega) off p.name Hhas.out.1 Hhas.out.2)
      have c1 : w3.cell? ⟨r, 1, none⟩ = some (.slice A2 ss.length c2) := (hrs3.1.cell 1).trans rfl
      have hs1 := Hf.out.size
      have Hf := Lib.hid (Hf.out.trans (hfr3.mono hs1 (fun _ _ h => h)))
      clear hrs3 hfr3 hB3 hrd3
      go_wp2_with fail
      refine HN3.out.mono ?_
      rintro e w9 ⟨rfl, rfl⟩
      go_wp2_with fail
      refine HTX.out.mono ?_
      rintro e w9 ⟨rfl, rfl⟩
      go_wp2_with fail
      refine HT3.out.mono ?_
      rintro e w4 ⟨⟨B4, e4, rfl, hB4, hB41, hB42⟩, hrs4, hfr4⟩
      rw [show (pre ++ be4 3 ++ be4 p.val.length ++ be4 off).length + p.val.length = (pre ++ be4 3 ++ be4 p.val.length ++ be4 off ++ p.val).length by simp only [List.length_append]] at hrs4
      have hpadl : (pad 4 p.val.length).length = (4 - p.val.length % 4) % 4 := by
        unfold pad
        split
        · simp; omega
        · rw [zeros_len]; omega
      have hl4 := len_at HST.out.2.2.2.1
      rw [hpadl] at hl4
      have HT4 := Lib.hid (take_walk w4 r b o c st A2 c2 ss (pre ++ be4 3 ++ be4 p.val.length ++ be4 off ++ p.val).length ((4 - p.val.length % 4) % 4) hrs4 hl4)
      have hs1 := Hf.out.size
      have Hf := Lib.hid (Hf.out.trans (hfr4.mono hs1 (fun _ _ h => h)))
      clear hrs4 hfr4 c1 hl4
      rw [show (((4 - p.val.length % 4) % 4 : Nat) : Int) = -((p.val.length : Int) % 4) % 4 by omega] at HT4
      go_wp2_with fail
      refine HT4.out.mono ?_
      rintro e w5 ⟨⟨B5, e5, rfl, -⟩, hrs5, hfr5⟩
      rw [show (pre ++ be4 3 ++ be4 p.val.length ++ be4 off ++ p.val).length + (4 - p.val.length % 4) % 4 = (pre ++ be4 3 ++ be4 p.val.length ++ be4 off ++ p.val ++ pad 4 p.val.length).length by rw [List.length_append (bs := pad 4 p.val.length), hpadl]] at hrs5
      have hs1 := Hf.out.size
      have Hf := Lib.hid (Hf.out.trans (hfr5.mono hs1 (fun _ _ h => h)))
      have c3 : w5.cell? ⟨r, 3, none⟩ = some (.bool false) := (hrs5.1.cell 3).trans rfl
      have z3 := hrs5.1.frozen 3
      have q2 : w5.cell? ⟨q, 2, none⟩ = some (.slice none 0 0) := (Hf.out.cell hql (by omega)).trans q2
      have q1 : w5.cell? ⟨q, 1, none⟩ = some (.slice A1 ps1.length cp) := (Hf.out.cell hql (by omega)).trans q1
      have hs5 := Hf.out.size
      have hrq : r < q := by omega
      have hql5 : q < w5.heap.size := by omega
      have hq5 : Cs w5 q #[.string name, .slice A1 ps1.length cp, .slice none 0 0] := HP.out.2.2.2.2.1.fr Hf.out hql (by omega)
      have hown5 : w5.ownsRow (q + 1) 125 2 (.slice A1 ps1.length cp) ps1.length (tsp.flatMap duo) := own_keep HP.out.2.2.2.2.2.1 fun g hg => Hf.out.block g (HP.out.2.2.2.2.2.1.lt g hg).2 (by have := (HP.out.2.2.2.2.2.1.lt g hg).1; omega)
      have hrs6 := hrs5.step (w' := w5.setCell ⟨r, 3, none⟩ (.bool false)) ((Fr.refl w5.heap.size (· = r) w5).setCell (p := ⟨r, 3, none⟩) (.inr rfl) _) (by
        have h := hrs5.1.set_ 3 (.bool false)
        simp only [List.setIfInBounds_toArray, List.set_cons_zero, List.set_cons_succ] at h
        exact h)
      have Hq5 := Lib.hid hq5
      have Hown5 := Lib.hid hown5
      have Hrs6 := Lib.hid hrs6
      have HB := Lib.hid (And.intro hB4 (And.intro hB41 hB42))
      clear hrs5 hfr5 hq5 hown5 hrs6 hB4 hB41 hB42
      go_wp2_with (at_builtin; go_must (refine wpList_append_el el43 rfl (.tmp 112) (.tmp 116) rfl (q + 1) (.slice A1 ps1.length cp) ps1.length (tsp.flatMap duo) rfl (World.ownsRow.alloc (ownsRow_setCell_below (a := ⟨r, 3, none⟩) Hown5.out (by simp; omega) _) _) (some ⟨w5.heap.size, 0, none⟩) 1 1 [.string p.name, .slice B4 p.val.length e4] rfl (by simp) ((Cs.new' _ _ _ _ (by simp [World.setCell])).rd rfl) (by simp [Value.oneCell']) (by omega) (by omega) (by simp [World.setCell]; omega) ?_); intro v' w7 hown1 hgrow hnil hat; obtain ⟨A7, c7, rfl⟩ := own_slice hown1; clear hnil; have hq7 := (((Hq5.out.far (p := ⟨r, 3, none⟩) (by simp; omega) _).alloc _).grown hgrow (own_ne Hown5.out (by omega))); have q7 := hq7.cell 1; have f7 := hq7.frozen 1; simp at q7)
      obtain ⟨kF, kps, kr2, kk2, kq1, kown, kE⟩ := HP.out
      have HFIN := Lib.hid (rp_fin (at3 := (pre ++ be4 3 ++ be4 p.val.length ++ be4 off).length) Hrs0.out hbl HfW.out (by omega) (by omega) kF kps kr2 kk2 HST.out.2.2.2.2 kq1 kown kE (Hf.out.setCell (p := ⟨r, 3, none⟩) (.inr rfl) _) (by omega) (by omega) HB.out.1 (sub_at HST.out.2.2.1) HB.out.2.1 HB.out.2.2 Hrs6.out hown1 hgrow hat)
      have Hlen := Lib.hid (len_at HST.out.2.2.2.2)
      clear kF kps kr2 kk2 kq1 kown kE hown1 hgrow hat hq7
      have hm1 : atOf (wr.cell? ⟨r, 2, none⟩) = pre.length := by rw [d2]; simp [atOf]
      have hm2 := HFIN.out.2
      have hm3 := Hlen.out
      have hm4 : pre.length < (pre ++ be4 3 ++ be4 p.val.length ++ be4 off ++ p.val ++ pad 4 p.val.length).length := by simp only [List.length_append]; simp [be4]; omega
      go_roundw
      case rel => exact HFIN.out.1
      case measure => rw [hm1, hm2]; omega
    · obtain ⟨ks1, kk, ks2, enc2, b2, pre, hks, he, hr2, hst, hrs, vp, A3, ck, tsk, hq1, hown, hpr, hE⟩ := hK
      obtain ⟨Avp, cvp, tsp, rfl, -⟩ := id hpr
      obtain ⟨tl, htl⟩ := he.head
      have hst4 : st = pre ++ (be4 1 ++ (tl ++ (b2 ++ tok 0 2 ++ post))) := by rw [hst, htl]; simp [List.append_assoc]
      have c3 : wr.cell? ⟨r, 3, none⟩ = some (.bool false) := (hrs.1.cell 3).trans rfl
      have d2 : wr.cell? ⟨r, 2, none⟩ = some (.int .i64 (pre.length : Nat)) := (hrs.1.cell 2).trans rfl
      have HT := Lib.hid (token_walk wr r b o c st A2 c2 ss pre.length (be4 1) hrs (len_at hst4) (sub_at hst4) (by rw [num1]; omega))
      rw [num1] at HT
      have hsz := hF.size
      have q2 : wr.cell? ⟨q, 2, none⟩ = some (.slice A3 ks1.length ck) := (hq1.cell 2).trans rfl
      have hql := hq1.lt
      have hkd : kk.depth ≤ d - 1 := by
        rw [hks, depthL_append] at hd
        simp only [depthL] at hd
        omega
      have hkz : kk.zf := zfL_mem Hhd.out.2.2.2.2 kk (by rw [hks]; simp)
      have hlen := len_at hst
      have hfin2 : (pre ++ enc2).length + (b2 ++ tok 0 2 ++ post).length = st.length := by rw [hst]; simp; omega
      have hdw : IntKind.i64.wrap ((d : Int) - 1) = (d : Int) - 1 := by simp only [IntKind.wrap, IntKind.bits, IntKind.signed]; simp; omega
      have hk1 : ks1.length + 1 ≤ ks.length := by rw [hks]; simp
      have HI := Lib.hid (fun (w1 : World) (hrs1 : RS w1 r b o c st A2 c2 ss (pre.length + 4)) (hb1 : b < w1.heap.size) => IH.out kk (by rw [hks]; simp) w1 r b o c st A2 c2 ss enc2 pre (b2 ++ tok 0 2 ++ post) (d - 1) he hst hrs1 hb1 hkz hkd (by omega) _ hfin2)
      rw [show ((d - 1 : Nat) : Int) = (d : Int) - 1 by omega] at HI
      have HK := Lib.hid (And.intro hF (And.intro hks (And.intro hr2 (And.intro hst (And.intro hq1 (And.intro hown (And.intro hpr hE)))))))
      have hrbr := HrbW.out.fr hF (by omega) (by omega)
      have hpos : 0 < enc2.length := by rw [htl]; simp [be4]
      have Hpos := Lib.hid (And.intro hpos hlen)
      clear hF hown hpr hE hrbr hrs hst hst4 hq1 Hstart hks he hr2 htl hkd hkz hfin2 hlen hpos
      go_wp2_with fail
      refine HT.out.mono ?_
      rintro e w1 ⟨rfl, hrs1, hfr1⟩
      have q2' : w1.cell? ⟨q, 2, none⟩ = some (.slice A3 ks1.length ck) := (hfr1.cell hql (by omega)).trans q2
      have hs1 := hfr1.size
      have HI := Lib.hid (HI.out w1.drew (hrs1.keep (Below.refl _ _).drew) (by show b < w1.heap.size; omega))
      have Hfr1 := Lib.hid hfr1
      clear hrs1 hfr1 c3
      go_wp2_with fail
      refine wp_region_seq (fun w' => w'.cell? ⟨q, 2, none⟩ = some (.slice A3 ks1.length ck)) 9
        [(0, true), (1, true), (2, true), (3, true), (4, true), (5, false), (6, false), (7, false), (8, true), (9, false)] (by kernel_rfl) (by kernel_rfl) q2' ?_
      simp only [opsIn, List.map_cons, List.map_nil, List.getElem?_toArray, List.getElem?_cons_zero, List.getElem?_cons_succ, Option.getD_some, Nat.reduceBEq]
      iterate 5
        refine' Seq.quiet (by rfl) ?_ ?_
        rotate_left
        · rintro w' hS1
          go_simp
          try with_reducible rfl
        try simp only [Act.put, List.setIfInBounds_toArray, List.set_cons_zero, List.set_cons_succ]
      refine Seq.eff ?_ ?_
      · rfl
      intro K hK
      go_simp
      refine HI.out.mono ?_
      rintro e w3 ⟨t3, rfl, hn3, hrs3, hfr3⟩
      obtain ⟨s1, A5, n5, c5, A6, n6, c6, rfl⟩ := id hn3.form
      have hql1 : q < w1.heap.size := by omega
      have q3 : w3.cell? ⟨q, 2, none⟩ = some (.slice A3 ks1.length ck) := (hfr3.cell hql1 (by omega)).trans q2'
      have hf3 : Fr wr.heap.size (· = r) wr w3 := Hfr1.out.drew.trans (hfr3.mono (by simp; omega) (fun _ _ h => h))
      have hs3 := hf3.size
      have hown3 : w3.ownsRow (q + 1) 46 3 (.slice A3 ks1.length ck) ks1.length (tsk.flatMap tri) := own_keep HK.out.2.2.2.2.2.1 fun g hg => hf3.block g (HK.out.2.2.2.2.2.1.lt g hg).2 (by have := (HK.out.2.2.2.2.2.1.lt g hg).1; omega)
      have hql3 : q < w3.heap.size := by omega
      refine hK.out _ _ (.inr (q3)) ?_
      clear hK K
      try simp only [Act.put, List.setIfInBounds_toArray, List.set_cons_zero, List.set_cons_succ]
      refine Seq.eff ?_ ?_
      · rfl
      intro K hK
      go_simp
      refine hK.out _ _ (.inr ((World.cell?_alloc_lt _ _ _ hql3).trans q3)) ?_
      clear hK K
      try simp only [Act.put, List.setIfInBounds_toArray, List.set_cons_zero, List.set_cons_succ]
      refine Seq.eff ?_ ?_
      · rfl
      intro K hK
      refine wp_append_el el44 (.tmp 57) (.tmp 62) rfl (q + 1) (.slice A3 ks1.length ck) ks1.length (tsk.flatMap tri) rfl (hown3.alloc _) (some ⟨w3.heap.size, 0, none⟩) 1 1 [.string s1, .slice A5 n5 c5, .slice A6 n6 c6] rfl (by simp) ((Cs.new _ _ _).rd rfl) (by simp [Value.oneCell']) (by omega) (by omega) (by simp; omega) ?_
      intro v' w2 hown1 hgrow hnil hat
      obtain ⟨A', c', rfl⟩ := own_slice hown1
      clear hnil
      have hN2 : some q ≠ (Value.slice A3 ks1.length ck).ownBlock := own_ne hown3 (by omega)
      have q4 : w2.cell? ⟨q, 2, none⟩ = some (.slice A3 ks1.length ck) := (World.cell?_of_block (a := ⟨q, 2, none⟩) (hgrow.block q (by simp; omega) hN2)).trans ((World.cell?_alloc_lt _ _ _ hql3).trans q3)
      have fz : w2.frozen? ⟨q, 2, none⟩ = false := (((HK.out.2.2.2.2.1.fr hf3 hql (by omega)).alloc _).grown hgrow hN2).frozen 2
      refine hK.out _ _ (.inr (q4)) ?_
      clear hK K
      try simp only [Act.put, List.setIfInBounds_toArray, List.set_cons_zero, List.set_cons_succ]
      refine' Seq.quiet (by rfl) ?_ ?_
      rotate_left
      · rintro w' hS1
        go_simp
        try with_reducible rfl
      try simp only [Act.put, List.setIfInBounds_toArray, List.set_cons_zero, List.set_cons_succ]
      refine Seq.last ?_ ?_
      · rfl
      intro K hK
      go_simp
      refine hK.out _ _ ?_
      clear hK K
      obtain ⟨kF, kks, kr2, kst, kq1, kown, kpr, kE⟩ := HK.out
      have HFIN := Lib.hid (rk_fin Hrs0.out hbl HfW.out (by omega) (by omega) kF kks kr2 kst kq1 kown kpr kE hf3 (hn3.mono (Same.refl _ _) (fun k hk => hk.imp id fun h => ⟨by have := h.1; simp at this; omega, h.2⟩)) hrs3 hown1 hgrow hat)
      clear kF kks kr2 kst kq1 kown kpr kE hf3 hn3 hrs3 hown1 hgrow hat hfr3 hown3
      go_wp2_with fail
      have hm1 : atOf (wr.cell? ⟨r, 2, none⟩) = pre.length := by rw [d2]; simp [atOf]
      have hm2 := HFIN.out.2
      have hm3 := Hpos.out
      rw [List.length_append] at hm2
      go_roundw
      case rel => exact HFIN.out.1
      case measure => rw [hm1, hm2]; omega
    · obtain ⟨pre, hst, hrs, vp, A3, ck, tsk, hq1, hown, hpr, hE⟩ := hE
      obtain ⟨Avp, cvp, tsp, rfl, -⟩ := id hpr
      have c3 : wr.cell? ⟨r, 3, none⟩ = some (.bool false) := (hrs.1.cell 3).trans rfl
      have hl4 := len_at hst
      have HT := Lib.hid (token_walk wr r b o c st A2 c2 ss pre.length (be4 2) hrs hl4 (sub_at hst) (by rw [num2]; omega))
      rw [num2] at HT
      have hsz := hF.size
      have q0 : wr.cell? ⟨q, 0, none⟩ = some (.string name) := (hq1.cell 0).trans rfl
      have q1 : wr.cell? ⟨q, 1, none⟩ = some (.slice Avp ps.length cvp) := (hq1.cell 1).trans rfl
      have q2 : wr.cell? ⟨q, 2, none⟩ = some (.slice A3 ks.length ck) := (hq1.cell 2).trans rfl
      have hql := hq1.lt
      have hrbr := HrbW.out.fr hF (by omega) (by omega)
      have HF := Lib.hid hF
      have Hown := Lib.hid hown
      have Hpr := Lib.hid hpr
      have HE := Lib.hid hE
      have Hrb := Lib.hid hrbr
      have Hfin := Lib.hid (show pre.length + 4 = fin by
        have := Hst.out.2.2
        have h5 := congrArg List.length hst
        simp [be4] at h5
        omega)
      clear hF hown hpr hE hrbr hrs hst hq1 Hstart
      go_wp2_with fail
      refine HT.out.mono ?_
      rintro e w1 ⟨rfl, hrs1, hfr1⟩
      rw [Hfin.out] at hrs1
      have q0 : w1.cell? ⟨q, 0, none⟩ = some (.string name) := (hfr1.cell hql (by omega)).trans q0
      have q1 : w1.cell? ⟨q, 1, none⟩ = some (.slice Avp ps.length cvp) := (hfr1.cell hql (by omega)).trans q1
      have q2 : w1.cell? ⟨q, 2, none⟩ = some (.slice A3 ks.length ck) := (hfr1.cell hql (by omega)).trans q2
      have rb := Hrb.out.fr hfr1 (by omega) (by omega)
      have rb0 : w1.cell? ⟨w.heap.size, 0, none⟩ = some (.string ⟨#[]⟩) := (rb.cell 0).trans rfl
      have rb1 : w1.cell? ⟨w.heap.size, 1, none⟩ = some (.slice none 0 0) := (rb.cell 1).trans rfl
      have rb2 : w1.cell? ⟨w.heap.size, 2, none⟩ = some (.slice none 0 0) := (rb.cell 2).trans rfl
      have z0 := rb.frozen 0
      have z1 := rb.frozen 1
      have z2 := rb.frozen 2
      have Hrs1 := Lib.hid hrs1
      have Hfr1 := Lib.hid hfr1
      have Hrb1 := Lib.hid rb
      clear hrs1 hfr1 rb c3
      go_wp2_with fail
      refine bodyPost_ret (res46 (b := w.heap.size) (x := .string name) (y := .slice Avp ps.length cvp) (z := .slice A3 ks.length ck) rfl rfl (((Hrb1.out.set_ 0 _).set_ 1 _).set_ 2 _)) rfl ?_
      exact rn_fin Hrs0.out hbl (by omega) hksl HfW.out (by omega) (by omega) HF.out Hown.out Hpr.out HE.out Hrs1.out Hfr1.out _ _ _
end Go.Proofs.Ytlbhadggfipckaa
