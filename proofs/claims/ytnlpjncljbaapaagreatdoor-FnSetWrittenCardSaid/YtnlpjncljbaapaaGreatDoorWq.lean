/- laws.textRule, walked. -/
import Derived.Test.YtnlpjncljbaapaaGreatDoorWt
import Derived.Test.YtnlpjncljbaapaaGreatDoorAg
namespace Go.Proofs.YtnlpjncljbaapaaGreatDoor
open Go.RowKit

theorem clone80_any (p : Option Addr) (n c : Nat) (l : List Int) (w : World) (hr : RowO w p n l) (hn : n ≤ 2147483647) :
    Calls Tryz.prog 80 #[.slice p n c] w fun e w' => ∃ v', e = .returned v' ∧ w'.ownsRow w.heap.size 3 1 v' n (intVs l) ∧ Below w.heap.size w w' := by
  obtain ⟨hnl, hc⟩ := hr
  cases p with
  | none =>
    have hl : l = [] := by
      cases l with
      | nil => rfl
      | cons a r => obtain ⟨g, o, e, _⟩ := hc 0 a rfl; cases e
    subst hl
    have hn0 : n = 0 := by simpa using hnl
    subst hn0
    exact (Tryz.slices_Clone_int_nil 0 c w).mono fun e w' ⟨h1, h2⟩ => ⟨_, h1, by rw [h2]; exact own_nil _ _ _ _, by rw [h2]; exact .refl _ _⟩
  | some a =>
    by_cases hn0 : n = 0
    · subst hn0
      have hl : l = [] := by rw [← List.length_eq_zero_iff]; omega
      subst hl
      exact (Tryz.slices_Clone_int_zero a c w).mono fun e w' ⟨v, h1, h2, _, h3⟩ => ⟨v, h1, h2, h3⟩
    · have h0 : 0 < l.length := by omega
      obtain ⟨g, o, e, hg, _⟩ := hc 0 _ (List.getElem?_eq_getElem h0)
      injection e with e
      subst e
      refine (Tryz.slices_Clone_int g o n c l w (by omega) (by omega) (fun j hj => ?_)).mono fun e w' ⟨v, h1, h2, _, h3⟩ => ⟨v, h1, ?_, h3⟩
      · obtain ⟨g', o', e, _, hc'⟩ := hc j _ (List.getElem?_eq_getElem hj)
        injection e with e
        injection e with e1 e2 e3
        subst e1; subst e2
        rw [hc']
        simp [List.getD, hj]
      · rw [hnl, List.take_length] at h2
        rw [hnl]
        exact h2
/-- The rows of a rule as values. -/
def slV (u8 u9 u10 u11 u12 u14 u15 u16 u17 : Value) : Nat → Value
  | 9 => u8
  | 10 => u9
  | 11 => u10
  | 12 => u11
  | 13 => u12
  | 15 => u14
  | 16 => u15
  | 17 => u16
  | 18 => u17
  | _ => .slice none 0 0
/-- A rule's options as they are, with no part left out. -/
def rawOf (fr : Nat) (un ct iv : Int) (l : Nat → List Int) (dl : List (Int × Int)) (wk : Int) : Opt := { freq := fr, interval := iv, wk := wk, count := ct, till := un, days := dl, l := optL l }
/-- The rows of numbers of options. -/
def IntRows (w : World) (o : Opt) (sl : Nat → Value) : Prop := ∀ k, 9 ≤ k → k < 19 → k ≠ 14 → RowI w (slP (sl k)) (o.l k).length (o.l k)
theorem OptRows.ints {w : World} {o : Opt} {sl : Nat → Value} (h : OptRows w o sl) : IntRows w o sl := h.1
theorem IntRows.chX {w w' : World} {o : Opt} {sl : Nat → Value} {X : Nat → Prop} (hr : IntRows w o sl) (hch : Ch X w w') (hX : ∀ i, X i → SlOff sl i) : IntRows w' o sl := fun k a b c => ⟨(hr k a b c).1, fun i x hx => by
    obtain ⟨g, e, hg, hc⟩ := (hr k a b c).2 i x hx
    exact ⟨g, e, Nat.lt_of_lt_of_le hg hch.size, (hch.cell hg (fun h => hX g h k a b _ e rfl)).trans hc⟩⟩
theorem IntRows.below {w w' : World} {o : Opt} {sl : Nat → Value} (h : IntRows w o sl) (hb : Below w.heap.size w w') : IntRows w' o sl := fun k a b c => (h k a b c).below hb
theorem rowI_of_own {w : World} {base n : Nat} {e : TypeId} {q : Option Addr} {c : Nat} {l : List Int} (h : w.ownsRow base e 1 (.slice q n c) n (intVs l)) : RowI w q n l := by
  have hR := rowO_of_own h
  refine ⟨hR.1, fun i x hx => ?_⟩
  obtain ⟨g, o, e, h1, h2⟩ := hR.2 i x hx
  rcases h.2 with ⟨h4, -⟩ | ⟨g', cap, cur, h4, -⟩
  · cases h4; cases e
  · cases h4; cases e; simp only [Nat.zero_add] at h2; exact ⟨g, rfl, h1, h2⟩
theorem own_rowP {w : World} {base n : Nat} {e : TypeId} {v : Value} {l : List Int} (h : w.ownsRow base e 1 v n (intVs l)) : RowI w (slP v) l.length l ∧ ∀ g, slP v = some ⟨g, 0, none⟩ → base ≤ g := by
  have hn : n = l.length := by have := h.1; simp [intVs] at this; omega
  obtain ⟨q, c, rfl, hq⟩ := own_slice h
  rw [← hn]
  refine ⟨rowI_of_own h, fun g hg => ?_⟩
  exact own_base h g (by show (match (Value.slice q n c) with | .slice (some a) _ _ => some a.block | _ => none) = some g; rw [show q = some ⟨g, 0, none⟩ from hg])
theorem slV_rows {W : World} {B : Nat} {u8 u9 u10 u11 u12 u14 u15 u16 u17 : Value} {n : Nat → Nat} {fr : Nat} {un ct iv : Int} {l : Nat → List Int} {dl : List (Int × Int)} {wk : Int}
    (h8 : W.ownsRow B 3 1 u8 (n 8) (intVs (l 8))) (h9 : W.ownsRow B 3 1 u9 (n 9) (intVs (l 9))) (h10 : W.ownsRow B 3 1 u10 (n 10) (intVs (l 10))) (h11 : W.ownsRow B 3 1 u11 (n 11) (intVs (l 11))) (h12 : W.ownsRow B 3 1 u12 (n 12) (intVs (l 12))) (h14 : W.ownsRow B 3 1 u14 (n 14) (intVs (l 14))) (h15 : W.ownsRow B 3 1 u15 (n 15) (intVs (l 15))) (h16 : W.ownsRow B 3 1 u16 (n 16) (intVs (l 16))) (h17 : W.ownsRow B 3 1 u17 (n 17) (intVs (l 17))) :
    IntRows W (rawOf fr un ct iv l dl wk) (slV u8 u9 u10 u11 u12 u14 u15 u16 u17) ∧ ∀ X, X < B → SlOff (slV u8 u9 u10 u11 u12 u14 u15 u16 u17) X := by
  refine ⟨fun k a b c => ?_, fun X hX k a b g hg => ?_⟩
  · have h9 : k = 9 ∨ k = 10 ∨ k = 11 ∨ k = 12 ∨ k = 13 ∨ k = 15 ∨ k = 16 ∨ k = 17 ∨ k = 18 := by omega
    rcases h9 with h | h | h | h | h | h | h | h | h <;> subst h
    · exact (own_rowP h8).1
    · exact (own_rowP h9).1
    · exact (own_rowP h10).1
    · exact (own_rowP h11).1
    · exact (own_rowP h12).1
    · exact (own_rowP h14).1
    · exact (own_rowP h15).1
    · exact (own_rowP h16).1
    · exact (own_rowP h17).1
  · have h9 : k = 9 ∨ k = 10 ∨ k = 11 ∨ k = 12 ∨ k = 13 ∨ k = 15 ∨ k = 16 ∨ k = 17 ∨ k = 18 ∨ k = 14 := by omega
    rcases h9 with h | h | h | h | h | h | h | h | h | h <;> subst h
    · have := (own_rowP h8).2 g hg; omega
    · have := (own_rowP h9).2 g hg; omega
    · have := (own_rowP h10).2 g hg; omega
    · have := (own_rowP h11).2 g hg; omega
    · have := (own_rowP h12).2 g hg; omega
    · have := (own_rowP h14).2 g hg; omega
    · have := (own_rowP h15).2 g hg; omega
    · have := (own_rowP h16).2 g hg; omega
    · have := (own_rowP h17).2 g hg; omega
    · cases hg
theorem own_stored {W : World} {base n N : Nat} {v : Value} {xs vs : List Value} {f : Nat → Value} (h : W.ownsRow base 3 1 v n xs) (hz : W.rowIs N 36 18 f) : (W.setCells N 0 vs).ownsRow base 3 1 v n xs := by
  refine own_ne h (setCells_grown vs 0 _ (World.grownBy.refl _ _)) fun e => ?_
  obtain ⟨c, hc, -⟩ := hz
  rcases h.2 with ⟨rfl, -⟩ | ⟨g, cap, cur, rfl, hb, hh, -⟩
  · cases e
  · cases e
    rw [hc] at hh
    injection hh with hh
    injection hh with _ h2 _
    cases h2
theorem own_off {W : World} {base n N : Nat} {v : Value} {xs : List Value} {f : Nat → Value} (h : W.ownsRow base 3 1 v n xs) (hz : W.rowIs N 36 18 f) (g : Nat) (hg : slP v = some ⟨g, 0, none⟩) : g ≠ N := by
  rintro rfl
  obtain ⟨c, hc, -⟩ := hz
  rcases h.2 with ⟨rfl, -⟩ | ⟨g', cap, cur, rfl, hb, hh, -⟩
  · cases hg
  · cases hg
    rw [hc] at hh
    injection hh with hh
    injection hh with _ h2 _
    cases h2
theorem slV_off {W : World} {B N : Nat} {u8 u9 u10 u11 u12 u14 u15 u16 u17 : Value} {n : Nat → Nat} {l : Nat → List Int} {f : Nat → Value}
    (h8 : W.ownsRow B 3 1 u8 (n 8) (intVs (l 8))) (h9 : W.ownsRow B 3 1 u9 (n 9) (intVs (l 9))) (h10 : W.ownsRow B 3 1 u10 (n 10) (intVs (l 10))) (h11 : W.ownsRow B 3 1 u11 (n 11) (intVs (l 11))) (h12 : W.ownsRow B 3 1 u12 (n 12) (intVs (l 12))) (h14 : W.ownsRow B 3 1 u14 (n 14) (intVs (l 14))) (h15 : W.ownsRow B 3 1 u15 (n 15) (intVs (l 15))) (h16 : W.ownsRow B 3 1 u16 (n 16) (intVs (l 16))) (h17 : W.ownsRow B 3 1 u17 (n 17) (intVs (l 17))) (hz : W.rowIs N 36 18 f) : SlOff (slV u8 u9 u10 u11 u12 u14 u15 u16 u17) N := by
  intro k a b g hg
  have h9 : k = 9 ∨ k = 10 ∨ k = 11 ∨ k = 12 ∨ k = 13 ∨ k = 15 ∨ k = 16 ∨ k = 17 ∨ k = 18 ∨ k = 14 := by omega
  rcases h9 with h | h | h | h | h | h | h | h | h | h <;> subst h
  · exact own_off h8 hz g hg
  · exact own_off h9 hz g hg
  · exact own_off h10 hz g hg
  · exact own_off h11 hz g hg
  · exact own_off h12 hz g hg
  · exact own_off h14 hz g hg
  · exact own_off h15 hz g hg
  · exact own_off h16 hz g hg
  · exact own_off h17 hz g hg
  · cases hg
theorem keep36 {B base n N : Nat} {w1 W : World} {v : Value} {xs vs : List Value} {f : Nat → Value} (_ : Below B w1 (W.setCells N 0 vs)) (hz : W.rowIs N 36 18 f) (h : W.ownsRow base 3 1 v n xs) : (W.setCells N 0 vs).ownsRow base 3 1 v n xs := own_stored h hz
/-- The rule that textRule gives: its rows are its own. -/
def GivesRaw (o : Opt) (t : Int) (w : World) (e : Ending) (w' : World) : Prop :=
  ∃ sl v B, e = .returned (.agg (rowA 18 (ruleF o t sl v))) ∧ IntRows w' o sl ∧ (∀ X, X < w.heap.size → SlOff sl X) ∧ w.heap.size ≤ B ∧ w'.ownsRow B 69 2 v o.days.length (dayVs o.days) ∧ Below w.heap.size w w'
set_option maxRecDepth 100000 in
set_option maxHeartbeats 40000000 in
theorem textRule_any (fr : Nat) (t iv wk ct : Int) (hu : Bool) (un : Int) (p : Nat → Option Addr) (n c : Nat → Nat) (l : Nat → List Int) (dl : List (Int × Int)) (w : World) (hro : ∀ k, 8 ≤ k → k < 18 → k ≠ 13 → RowO w (p k) (n k) (l k)) (hrd : RowDO w (p 13) (n 13) dl) (ht : t ≠ 0) (hun : hu = !(decide (un = 0))) (hn : ∀ k, 8 ≤ k → k < 18 → k ≠ 13 → n k ≤ 1000) (hdl : n 13 ≤ 1000) :
    Calls Tryz.prog 43 #[.agg (sRuleC fr true t iv wk ct hu un p n c)] w fun e w' => GivesRaw (rawOf fr un ct iv l dl wk) t w e w' := by
  have hHS := sRuleF_row fr true t iv wk ct hu un p n c
  have HF := Lib.hid (show ∀ k, k < 18 → ((w.alloc (.cells (sRuleC fr true t iv wk ct hu un p n c) 25)).alloc (.cells zRule 36)).cell? ⟨w.heap.size, k, none⟩ = some (sRuleF fr true t iv wk ct hu un p n c k) from fun k hk => ((sRule_at fr true t iv wk ct hu un p n c w).alloc _).cell hk)
  have HR0 := Lib.hid (show ((w.alloc (.cells (sRuleC fr true t iv wk ct hu un p n c) 25)).alloc (.cells zRule 36)).rowIs (w.heap.size + 1) 36 18 zRuleF from by have := zRule_at (w.alloc (.cells (sRuleC fr true t iv wk ct hu un p n c) 25)); simpa using this)
  have HB0 := Lib.hid ((below_a1 (w := w) (o := .cells (sRuleC fr true t iv wk ct hu un p n c) 25)).alloc (by simp) (.cells zRule 36))
  have HRO0 := Lib.hid (fun k a b c => (hro k a b c).below HB0.out)
  have HDD := Lib.hid (hrd.below HB0.out)
  have HZ := Lib.hid (show ((w.alloc (.cells (sRuleC fr true t iv wk ct hu un p n c) 25)).alloc (.cells zRule 36)).heap.size = w.heap.size + 2 by simp)
  have HT := Lib.hid (And.intro ht hun)
  have HN := Lib.hid hn
  obtain ⟨d6, hud⟩ := u36
  clear hro hrd ht hun hn hHS
  go_enter Tryz.func43, Tryz.ntmps43
  generalize hA : sRuleC fr true t iv wk ct hu un p n c = A at *
  unfold zRule at *
  go_upto_region 1 with fail
  generalize hw1 : (w.alloc (.cells A 25)).alloc (.cells #[_, _, _, _, _, _, _, _, _, _, _, _, _, _, _, _, _, _] 36) = w1 at *
  clear hw1 hA
  generalize hG : w.heap.size = G at *
  have hG1 : G < w1.heap.size := by have := HZ.out; omega
  have HX := Lib.hid fun (k : Nat) (hk : k < 18) (W : World) (hW : Below w1.heap.size w1 W) => (hW.cell (p := ⟨G, k, none⟩) hG1).trans (HF.out k hk)
  have HCL := Lib.hid fun (k : Nat) (a : 8 ≤ k) (b : k < 18) (h : k ≠ 13) (W : World) (hW : Below w1.heap.size w1 W) => (clone80_any (p k) (n k) (c k) (l k) W ((HRO0.out k a b h).below hW) (Nat.le_trans (HN.out k a b h) (by decide))).mono (fun e w' (h1 : ∃ v', e = .returned v' ∧ w'.ownsRow W.heap.size 3 1 v' (n k) (intVs (l k)) ∧ Below W.heap.size W w') => show ∃ q c, e = .returned (.slice q (n k) c) ∧ w'.ownsRow w1.heap.size 3 1 (.slice q (n k) c) (n k) (intVs (l k)) ∧ Below W.heap.size W w' from by
    obtain ⟨v', rfl, h2, h3⟩ := h1
    obtain ⟨q, c, rfl, -⟩ := own_slice h2
    exact ⟨q, c, rfl, Joins.ownsRow_le h2 hW.size, h3⟩)
  have HK := Lib.hid (show ∀ W : World, Below w1.heap.size w1 W → (fun w' : World => Below w1.heap.size w1 w' ∧ w'.cell? ⟨G, 0, none⟩ = some (.int .u8 fr) ∧ w'.cell? ⟨G, 1, none⟩ = some (.bool true) ∧ w'.cell? ⟨G, 2, none⟩ = some (.int .i64 t) ∧ w'.cell? ⟨G, 3, none⟩ = some (.int .i64 iv) ∧ w'.cell? ⟨G, 4, none⟩ = some (.int .i64 wk) ∧ w'.cell? ⟨G, 5, none⟩ = some (.int .i64 ct) ∧ w'.cell? ⟨G, 6, none⟩ = some (.bool hu) ∧ w'.cell? ⟨G, 7, none⟩ = some (.int .i64 un) ∧ w'.cell? ⟨G, 8, none⟩ = some (.slice (p 8) (n 8) (c 8)) ∧ w'.cell? ⟨G, 9, none⟩ = some (.slice (p 9) (n 9) (c 9)) ∧ w'.cell? ⟨G, 10, none⟩ = some (.slice (p 10) (n 10) (c 10)) ∧ w'.cell? ⟨G, 11, none⟩ = some (.slice (p 11) (n 11) (c 11)) ∧ w'.cell? ⟨G, 12, none⟩ = some (.slice (p 12) (n 12) (c 12)) ∧ w'.cell? ⟨G, 14, none⟩ = some (.slice (p 14) (n 14) (c 14)) ∧ w'.cell? ⟨G, 15, none⟩ = some (.slice (p 15) (n 15) (c 15)) ∧ w'.cell? ⟨G, 16, none⟩ = some (.slice (p 16) (n 16) (c 16)) ∧ w'.cell? ⟨G, 17, none⟩ = some (.slice (p 17) (n 17) (c 17))) W from fun W hW => ⟨hW, HX.out 0 (by omega) W hW, HX.out 1 (by omega) W hW, HX.out 2 (by omega) W hW, HX.out 3 (by omega) W hW, HX.out 4 (by omega) W hW, HX.out 5 (by omega) W hW, HX.out 6 (by omega) W hW, HX.out 7 (by omega) W hW, HX.out 8 (by omega) W hW, HX.out 9 (by omega) W hW, HX.out 10 (by omega) W hW, HX.out 11 (by omega) W hW, HX.out 12 (by omega) W hW, HX.out 14 (by omega) W hW, HX.out 15 (by omega) W hW, HX.out 16 (by omega) W hW, HX.out 17 (by omega) W hW⟩)
  go_cut [3] from 6 to 63 (fun v3 wc => ∃ N sl, v3 = .pointer (some ⟨N, 0, none⟩) ∧ w1.heap.size ≤ N ∧ wc.rowIs N 36 18 (ruleF (rawOf fr un ct iv l dl wk) t sl (.slice none 0 0)) ∧ IntRows wc (rawOf fr un ct iv l dl wk) sl ∧ SlOff sl N ∧ (∀ X, X < w1.heap.size → SlOff sl X) ∧ Below w1.heap.size w1 wc)
  case rest =>
      obtain ⟨N, sl, rfl, hN, hRN, hIR, hOF, hOX, hBN⟩ := hcut
      have HRN := Lib.hid hRN
      have HBN := Lib.hid hBN
      have HIR := Lib.hid hIR
      have HOF := Lib.hid hOF
      have HOX := Lib.hid hOX
      have x13 : wc.cell? ⟨G, 13, none⟩ = some (.slice (p 13) (n 13) (c 13)) := HX.out 13 (by omega) wc hBN
      have hNz : N < wc.heap.size := hRN.lt
      have hNG : N ≠ G := by omega
      obtain ⟨m, hm⟩ : ∃ m, m = n 13 := ⟨_, rfl⟩
      rw [← hm] at x13 hdl HDD
      have hml : m = dl.length := HDD.out.1
      have HM := Lib.hid hml
      clear hRN hBN hIR hOF hOX hm hml
      obtain ⟨i0, hi, hzz⟩ := Option.map_eq_some_iff.1 info69
      simp only [Prod.mk.injEq] at hzz
      obtain ⟨hz0, hz1, hz2⟩ := hzz
      have HI := Lib.hid (And.intro hi (And.intro hz0 (And.intro hz1 hz2)))
      clear hi hz0 hz1 hz2
      go_wp2_with fail
      go_loopw [5, 53] (fun _ u wr => ∃ (k : Nat) (v : Value), k ≤ m ∧ u = .int .i64 k ∧ Hid (wr.rowIs N 36 18 (ruleF (rawOf fr un ct iv l dl wk) t sl v)) ∧ Hid (wr.ownsRow wc.heap.size 69 2 v k (dayVs (dl.take k))) ∧ Hid (Ch (fun i => i = N) wc wr)) (fun _ u _ => m - (intOf u).toNat)
      case atStart => exact ⟨0, _, Nat.zero_le _, rfl, HRN, Lib.hid (own_nil _ _ _ _), Lib.hid (.refl _ _)⟩
      case round =>
        obtain ⟨k, v, hk, rfl, HR2, HO2, HC2⟩ := hrel
        have hNr : N < wr.heap.size := HR2.out.lt
        have hwr := HC2.out.size
        by_cases hkm : k < m
        · have hkl : k < dl.length := by have := HM.out; omega
          obtain ⟨d, hd⟩ : ∃ d, dl[k]? = some d := ⟨_, List.getElem?_eq_getElem hkl⟩
          obtain ⟨g, o, hpg, hgl, hc0, hc1⟩ := HDD.out.2 k d.1 d.2 hd
          have hgN : g ≠ N := by omega
          have hgw : g < wc.heap.size := Nat.lt_of_lt_of_le hgl HBN.out.size
          have d0 : wr.cell? ⟨g, o + k * 2, none⟩ = some (.int .i64 d.1) := (HC2.out.cell hgw hgN).trans ((HBN.out.cell (p := ⟨g, o + k * 2, none⟩) hgl).trans hc0)
          have d1 : wr.cell? ⟨g, o + k * 2 + 1, none⟩ = some (.int .i64 d.2) := (HC2.out.cell hgw hgN).trans ((HBN.out.cell (p := ⟨g, o + k * 2 + 1, none⟩) hgl).trans hc1)
          have hgr : g < wr.heap.size := Nat.lt_of_lt_of_le hgw hwr
          have HTK := Lib.hid (show dl.take (k + 1) = dl.take k ++ [d] by rw [List.take_add_one, hd]; rfl)
          have hkmi : ((k : Nat) : Int) < ((m : Nat) : Int) := by omega
          have hki : (0 : Int) ≤ ((k : Nat) : Int) := by omega
          obtain ⟨da, db⟩ := d
          have HRa := Lib.hid (HR2.out.alloc (.cells #[.int .i64 da, .int .i64 db] 98))
          have HOa := Lib.hid (HO2.out.alloc (.cells #[.int .i64 da, .int .i64 db] 98))
          have HCa := Lib.hid (HC2.out.trans (Ch.alloc (X := fun i => i = N) (w := wr) (.cells #[.int .i64 da, .int .i64 db] 98)))
          have y0 : (wr.alloc (.cells #[.int .i64 da, .int .i64 db] 98)).cell? ⟨wr.heap.size, 0, none⟩ = some (.int .i64 da) := by simp
          have y1 : (wr.alloc (.cells #[.int .i64 da, .int .i64 db] 98)).cell? ⟨wr.heap.size, 1, none⟩ = some (.int .i64 db) := by simp
          have x14 : (wr.alloc (.cells #[.int .i64 da, .int .i64 db] 98)).cell? ⟨N, 13, none⟩ = some v := HRa.out.cell (i := 13) (by omega)
          have hza : (wr.alloc (.cells #[.int .i64 da, .int .i64 db] 98)).heap.size = wr.heap.size + 1 := by simp
          rw [hpg]
          have HGN := Lib.hid hgN
          clear hc0 hc1 hpg hkl hd hgN
          go_upto_region 5 with fail
          generalize wr.alloc (.cells #[.int .i64 da, .int .i64 db] 98) = w4 at *
          have hN4 : N < w4.heap.size := by omega
          have hw4 : wc.heap.size ≤ w4.heap.size := by omega
          have hX4 : wr.heap.size < w4.heap.size := by omega
          generalize wr.heap.size = X at *
          clear d0 d1 hza HR2 HO2 HC2
          go_wp2_with (at_builtin; refine app_own wc.heap.size rfl _ _ 34 69 (.agg #[.int .i64 0, .int .i64 0]) 2 16 rfl Tryz.underlying34 info69 rfl (by decide) (by decide) _ k (dayVs (dl.take k)) [.int .i64 da, .int .i64 db] (by rfl) (by rfl) rfl (by simp [Value.oneCell']) HOa.out hw4 (by omega) ?_)
          intro g7 cap7 w8 hown7 hg5 hg6 hcap5 hgrow7 hat5
          have HR8 := Lib.hid (row_grown HRa.out hgrow7 (fun e => by have := own_base HOa.out _ e; omega))
          have e3 : w8.cell? ⟨N, 13, none⟩ = some v := HR8.out.cell (i := 13) (by decide)
          have q3 := HR8.out.frozen 13
          have HC8 := Lib.hid (HCa.out.grow hgrow7 (own_base HOa.out))
          have HO8 := Lib.hid hown7
          clear hown7 hgrow7 hat5
          all_goals
            go_wp2_with fail
            go_roundw
            case rel =>
              refine ⟨k + 1, .slice (some ⟨g7, 0, none⟩) (k + 1) cap7, by omega, by go_num, Lib.hid ?_, Lib.hid ?_, Lib.hid (HC8.out.trans (.set rfl))⟩
              · refine (HR8.out.set 13 _).congr fun j hj => ?_
                have h18 : j = 0 ∨ j = 1 ∨ j = 2 ∨ j = 3 ∨ j = 4 ∨ j = 5 ∨ j = 6 ∨ j = 7 ∨ j = 8 ∨ j = 9 ∨ j = 10 ∨ j = 11 ∨ j = 12 ∨ j = 13 ∨ j = 14 ∨ j = 15 ∨ j = 16 ∨ j = 17 := by omega
                rcases h18 with h | h | h | h | h | h | h | h | h | h | h | h | h | h | h | h | h | h <;> subst h <;> rfl
              · rw [HTK.out]
                have := own_set (C := N) (k := 13) (u := .slice (some ⟨g7, 0, none⟩) (k + 1) cap7) HO8.out hNz
                simpa [dayVs] using this
            case measure => simp [intOf]; omega
        · obtain rfl : k = m := by omega
          obtain ⟨q5, c5, rfl, _⟩ := own_slice HO2.out
          have HB2 := Lib.hid (HC2.out.below HBN.out (fun i hi => hi ▸ hN) HBN.out.size)
          have HRt := Lib.hid (below_row HR0.out HB2.out HR0.out.lt)
          have HU := Lib.hid hud
          go_wp2_with (first | ((with_reducible refine gd_load 36 ?_); refine wpl_load_row0 rfl 36 _ rfl N 36 18 18 _ rfl HR2.out (by omega) d6 HU.out.1 HU.out.2 info36s ?_) | ((with_reducible refine gd_store 36 ?_); refine wpl_store_row rfl 36 _ _ rfl (G + 1) 0 36 18 _ (rowA 18 (ruleF (rawOf fr un ct iv l dl wk) t sl (.slice q5 k c5))) rfl rfl HRt.out (by simp [rowA_size]) (by rw [info36s, rowA_size]) (rowA_all fun i hi => ruleF_one _ _ _ _ rfl i) ?_; intro w8 hR8 hg8))
          refine bodyPost_ret (results_row rfl _ (G + 1) 36 18 _ (by rfl) hR8 d6 HU.out.1 HU.out.2 info36s) rfl ?_
          rw [updR_all]
          have htk : dl.take k = dl := by rw [HM.out, List.take_length]
          have hz := HZ.out
          have hzb := HBN.out.size
          have h8 := own_grown HO2.out hg8 (by omega)
          have hm := HM.out
          rw [htk, hm] at h8
          have hI8 := (HIR.out.chX HC2.out (fun i hi => hi ▸ HOF.out)).chX (X := fun i => i = G + 1) (Ch.of_grown hg8 (fun g e => by injection e with e; exact e.symm)) (fun i hi => hi ▸ HOX.out (G + 1) (by omega))
          refine ⟨sl, .slice q5 k c5, wc.heap.size, rfl, hI8, fun X hX => HOX.out X (by rw [hG] at hX; omega), by rw [hG]; omega, ?_, by rw [hG]; exact (HB0.out.trans (HB2.out.mono (by have := HB0.out.size; omega))).grown hg8 (by have := HB2.out.size; omega) (fun j hj => by cases hj; omega)⟩
          show w8.ownsRow wc.heap.size 69 2 _ dl.length (dayVs dl)
          rw [← hm] at h8 ⊢
          exact h8
  case first =>
  try simp only [List.append_eq, List.cons_append, List.nil_append]
  refine wp_region_noPanic ?_
  refine wp_region_held_drew (S := (fun w' : World => Below w1.heap.size w1 w' ∧ w'.cell? ⟨G, 0, none⟩ = some (.int .u8 fr) ∧ w'.cell? ⟨G, 1, none⟩ = some (.bool true) ∧ w'.cell? ⟨G, 2, none⟩ = some (.int .i64 t) ∧ w'.cell? ⟨G, 3, none⟩ = some (.int .i64 iv) ∧ w'.cell? ⟨G, 4, none⟩ = some (.int .i64 wk) ∧ w'.cell? ⟨G, 5, none⟩ = some (.int .i64 ct) ∧ w'.cell? ⟨G, 6, none⟩ = some (.bool hu) ∧ w'.cell? ⟨G, 7, none⟩ = some (.int .i64 un) ∧ w'.cell? ⟨G, 8, none⟩ = some (.slice (p 8) (n 8) (c 8)) ∧ w'.cell? ⟨G, 9, none⟩ = some (.slice (p 9) (n 9) (c 9)) ∧ w'.cell? ⟨G, 10, none⟩ = some (.slice (p 10) (n 10) (c 10)) ∧ w'.cell? ⟨G, 11, none⟩ = some (.slice (p 11) (n 11) (c 11)) ∧ w'.cell? ⟨G, 12, none⟩ = some (.slice (p 12) (n 12) (c 12)) ∧ w'.cell? ⟨G, 14, none⟩ = some (.slice (p 14) (n 14) (c 14)) ∧ w'.cell? ⟨G, 15, none⟩ = some (.slice (p 15) (n 15) (c 15)) ∧ w'.cell? ⟨G, 16, none⟩ = some (.slice (p 16) (n 16) (c 16)) ∧ w'.cell? ⟨G, 17, none⟩ = some (.slice (p 17) (n 17) (c 17)))) (by kernel_rfl) (HK.out _ ((Below.refl _ _).drew)) (fun hHeld => ?_)
  refine wpAnyH_take (i := 0) (v := ?_) (arr_at rfl) (by as_aux_lemma => kernel_rfl) (by as_aux_lemma => kernel_rfl) (by as_aux_lemma => kernel_rfl) (fun _ _ _ h => h) (Or.inl ⟨by rfl, ?_⟩) hHeld ?_
  rotate_left
  · intro w hSw
    (try dsimp only at hSw)
    go_simp
    all_goals with_reducible rfl
  try simp only [Act.put, List.setIfInBounds_toArray, List.set_cons_zero, List.set_cons_succ]
  refine wpAnyH_take (i := 1) (v := ?_) (arr_at rfl) (by as_aux_lemma => kernel_rfl) (by as_aux_lemma => kernel_rfl) (by as_aux_lemma => kernel_rfl) (fun _ _ _ h => h) (Or.inl ⟨by rfl, ?_⟩) hHeld ?_
  rotate_left
  · intro w hSw
    (try dsimp only at hSw)
    go_simp
    all_goals with_reducible rfl
  try simp only [Act.put, List.setIfInBounds_toArray, List.set_cons_zero, List.set_cons_succ]
  refine wpAnyH_take (i := 2) (v := ?_) (arr_at rfl) (by as_aux_lemma => kernel_rfl) (by as_aux_lemma => kernel_rfl) (by as_aux_lemma => kernel_rfl) (fun _ _ _ h => h) (Or.inl ⟨by rfl, ?_⟩) hHeld ?_
  rotate_left
  · intro w hSw
    (try dsimp only at hSw)
    go_simp
    all_goals with_reducible rfl
  try simp only [Act.put, List.setIfInBounds_toArray, List.set_cons_zero, List.set_cons_succ]
  refine wpAnyH_take (i := 3) (v := ?_) (arr_at rfl) (by as_aux_lemma => kernel_rfl) (by as_aux_lemma => kernel_rfl) (by as_aux_lemma => kernel_rfl) (fun _ _ _ h => h) (Or.inl ⟨by rfl, ?_⟩) hHeld ?_
  rotate_left
  · intro w hSw
    (try dsimp only at hSw)
    go_simp
    all_goals with_reducible rfl
  try simp only [Act.put, List.setIfInBounds_toArray, List.set_cons_zero, List.set_cons_succ]
  refine wpAnyH_take (i := 4) (v := ?_) (arr_at rfl) (by as_aux_lemma => kernel_rfl) (by as_aux_lemma => kernel_rfl) (by as_aux_lemma => kernel_rfl) (fun _ _ _ h => h) (Or.inl ⟨by rfl, ?_⟩) hHeld ?_
  rotate_left
  · intro w hSw
    (try dsimp only at hSw)
    go_simp
    all_goals with_reducible rfl
  try simp only [Act.put, List.setIfInBounds_toArray, List.set_cons_zero, List.set_cons_succ]
  refine wpAnyH_take (i := 5) (v := ?_) (arr_at rfl) (by as_aux_lemma => kernel_rfl) (by as_aux_lemma => kernel_rfl) (by as_aux_lemma => kernel_rfl) (fun _ _ _ h => h) (Or.inl ⟨by rfl, ?_⟩) hHeld ?_
  rotate_left
  · intro w hSw
    (try dsimp only at hSw)
    go_simp
    all_goals with_reducible rfl
  try simp only [Act.put, List.setIfInBounds_toArray, List.set_cons_zero, List.set_cons_succ]
  refine wpAnyH_take (i := 6) (v := ?_) (arr_at rfl) (by as_aux_lemma => kernel_rfl) (by as_aux_lemma => kernel_rfl) (by as_aux_lemma => kernel_rfl) (fun _ _ _ h => h) (Or.inl ⟨by rfl, ?_⟩) hHeld ?_
  rotate_left
  · intro w hSw
    (try dsimp only at hSw)
    go_simp
    all_goals with_reducible rfl
  try simp only [Act.put, List.setIfInBounds_toArray, List.set_cons_zero, List.set_cons_succ]
  refine wpAnyH_take (i := 7) (v := ?_) (arr_at rfl) (by as_aux_lemma => kernel_rfl) (by as_aux_lemma => kernel_rfl) (by as_aux_lemma => kernel_rfl) (fun _ _ _ h => h) (Or.inl ⟨by rfl, ?_⟩) hHeld ?_
  rotate_left
  · intro w hSw
    (try dsimp only at hSw)
    go_simp
    all_goals with_reducible rfl
  try simp only [Act.put, List.setIfInBounds_toArray, List.set_cons_zero, List.set_cons_succ]
  refine wpAnyH_take (i := 8) (v := ?_) (arr_at rfl) (by as_aux_lemma => kernel_rfl) (by as_aux_lemma => kernel_rfl) (by as_aux_lemma => kernel_rfl) (fun _ _ _ h => h) (Or.inl ⟨by rfl, ?_⟩) hHeld ?_
  rotate_left
  · intro w hSw
    (try dsimp only at hSw)
    go_simp
    all_goals with_reducible rfl
  try simp only [Act.put, List.setIfInBounds_toArray, List.set_cons_zero, List.set_cons_succ]
  refine wpAnyH_take (i := 9) (v := ?_) (arr_at rfl) (by as_aux_lemma => kernel_rfl) (by as_aux_lemma => kernel_rfl) (by as_aux_lemma => kernel_rfl) (fun _ _ _ h => h) (Or.inl ⟨by rfl, ?_⟩) hHeld ?_
  rotate_left
  · intro w hSw
    (try dsimp only at hSw)
    go_simp
    all_goals with_reducible rfl
  try simp only [Act.put, List.setIfInBounds_toArray, List.set_cons_zero, List.set_cons_succ]
  refine wpAnyH_take (i := 10) (v := ?_) (arr_at rfl) (by as_aux_lemma => kernel_rfl) (by as_aux_lemma => kernel_rfl) (by as_aux_lemma => kernel_rfl) (fun _ _ _ h => h) (Or.inl ⟨by rfl, ?_⟩) hHeld ?_
  rotate_left
  · intro w hSw
    (try dsimp only at hSw)
    go_simp
    all_goals with_reducible rfl
  try simp only [Act.put, List.setIfInBounds_toArray, List.set_cons_zero, List.set_cons_succ]
  refine wpAnyH_take (i := 11) (v := ?_) (arr_at rfl) (by as_aux_lemma => kernel_rfl) (by as_aux_lemma => kernel_rfl) (by as_aux_lemma => kernel_rfl) (fun _ _ _ h => h) (Or.inl ⟨by rfl, ?_⟩) hHeld ?_
  rotate_left
  · intro w hSw
    (try dsimp only at hSw)
    go_simp
    all_goals with_reducible rfl
  try simp only [Act.put, List.setIfInBounds_toArray, List.set_cons_zero, List.set_cons_succ]
  refine wpAnyH_take (i := 12) (v := ?_) (arr_at rfl) (by as_aux_lemma => kernel_rfl) (by as_aux_lemma => kernel_rfl) (by as_aux_lemma => kernel_rfl) (fun _ _ _ h => h) (Or.inl ⟨by rfl, ?_⟩) hHeld ?_
  rotate_left
  · intro w hSw
    (try dsimp only at hSw)
    go_simp
    all_goals with_reducible rfl
  try simp only [Act.put, List.setIfInBounds_toArray, List.set_cons_zero, List.set_cons_succ]
  refine wpAnyH_take (i := 13) (v := ?_) (arr_at rfl) (by as_aux_lemma => kernel_rfl) (by as_aux_lemma => kernel_rfl) (by as_aux_lemma => kernel_rfl) (fun _ _ _ h => h) (Or.inl ⟨by rfl, ?_⟩) hHeld ?_
  rotate_left
  · intro w hSw
    (try dsimp only at hSw)
    go_simp
    all_goals with_reducible rfl
  try simp only [Act.put, List.setIfInBounds_toArray, List.set_cons_zero, List.set_cons_succ]
  refine wpAnyH_take (i := 14) (v := ?_) (arr_at rfl) (by as_aux_lemma => kernel_rfl) (by as_aux_lemma => kernel_rfl) (by as_aux_lemma => kernel_rfl) (fun _ _ _ h => h) (Or.inl ⟨by rfl, ?_⟩) hHeld ?_
  rotate_left
  · intro w hSw
    (try dsimp only at hSw)
    go_simp
    all_goals with_reducible rfl
  try simp only [Act.put, List.setIfInBounds_toArray, List.set_cons_zero, List.set_cons_succ]
  refine wpAnyH_take (i := 15) (v := ?_) (arr_at rfl) (by as_aux_lemma => kernel_rfl) (by as_aux_lemma => kernel_rfl) (by as_aux_lemma => kernel_rfl) (fun _ _ _ h => h) (Or.inl ⟨by rfl, ?_⟩) hHeld ?_
  rotate_left
  · intro w hSw
    (try dsimp only at hSw)
    go_simp
    all_goals with_reducible rfl
  try simp only [Act.put, List.setIfInBounds_toArray, List.set_cons_zero, List.set_cons_succ]
  refine wpAnyH_take (i := 16) (v := ?_) (arr_at rfl) (by as_aux_lemma => kernel_rfl) (by as_aux_lemma => kernel_rfl) (by as_aux_lemma => kernel_rfl) (fun _ _ _ h => h) (Or.inl ⟨by rfl, ?_⟩) hHeld ?_
  rotate_left
  · intro w hSw
    (try dsimp only at hSw)
    go_simp
    all_goals with_reducible rfl
  try simp only [Act.put, List.setIfInBounds_toArray, List.set_cons_zero, List.set_cons_succ]
  refine wpAnyH_take (i := 17) (v := ?_) (arr_at rfl) (by as_aux_lemma => kernel_rfl) (by as_aux_lemma => kernel_rfl) (by as_aux_lemma => kernel_rfl) (fun _ _ _ h => h) (Or.inl ⟨by rfl, ?_⟩) hHeld ?_
  rotate_left
  · intro w hSw
    (try dsimp only at hSw)
    go_simp
    all_goals with_reducible rfl
  try simp only [Act.put, List.setIfInBounds_toArray, List.set_cons_zero, List.set_cons_succ]
  refine wpAnyH_take (i := 19) (v := ?_) (arr_at rfl) (by as_aux_lemma => kernel_rfl) (by as_aux_lemma => kernel_rfl) (by as_aux_lemma => kernel_rfl) (fun _ _ _ h => h) (Or.inl ⟨by rfl, ?_⟩) hHeld ?_
  rotate_left
  · intro w hSw
    (try dsimp only at hSw)
    go_simp
    all_goals with_reducible rfl
  try simp only [Act.put, List.setIfInBounds_toArray, List.set_cons_zero, List.set_cons_succ]
  refine wpAnyH_take (i := 20) (v := ?_) (arr_at rfl) (by as_aux_lemma => kernel_rfl) (by as_aux_lemma => kernel_rfl) (by as_aux_lemma => kernel_rfl) (fun _ _ _ h => h) (Or.inl ⟨by rfl, ?_⟩) hHeld ?_
  rotate_left
  · intro w hSw
    (try dsimp only at hSw)
    go_simp
    all_goals with_reducible rfl
  try simp only [Act.put, List.setIfInBounds_toArray, List.set_cons_zero, List.set_cons_succ]
  refine wpAnyH_take (i := 22) (v := ?_) (arr_at rfl) (by as_aux_lemma => kernel_rfl) (by as_aux_lemma => kernel_rfl) (by as_aux_lemma => kernel_rfl) (fun _ _ _ h => h) (Or.inl ⟨by rfl, ?_⟩) hHeld ?_
  rotate_left
  · intro w hSw
    (try dsimp only at hSw)
    go_simp
    all_goals with_reducible rfl
  try simp only [Act.put, List.setIfInBounds_toArray, List.set_cons_zero, List.set_cons_succ]
  refine wpAnyH_take (i := 23) (v := ?_) (arr_at rfl) (by as_aux_lemma => kernel_rfl) (by as_aux_lemma => kernel_rfl) (by as_aux_lemma => kernel_rfl) (fun _ _ _ h => h) (Or.inl ⟨by rfl, ?_⟩) hHeld ?_
  rotate_left
  · intro w hSw
    (try dsimp only at hSw)
    go_simp
    all_goals with_reducible rfl
  try simp only [Act.put, List.setIfInBounds_toArray, List.set_cons_zero, List.set_cons_succ]
  refine wpAnyH_take (i := 25) (v := ?_) (arr_at rfl) (by as_aux_lemma => kernel_rfl) (by as_aux_lemma => kernel_rfl) (by as_aux_lemma => kernel_rfl) (fun _ _ _ h => h) (Or.inl ⟨by rfl, ?_⟩) hHeld ?_
  rotate_left
  · intro w hSw
    (try dsimp only at hSw)
    go_simp
    all_goals with_reducible rfl
  try simp only [Act.put, List.setIfInBounds_toArray, List.set_cons_zero, List.set_cons_succ]
  refine wpAnyH_take (i := 26) (v := ?_) (arr_at rfl) (by as_aux_lemma => kernel_rfl) (by as_aux_lemma => kernel_rfl) (by as_aux_lemma => kernel_rfl) (fun _ _ _ h => h) (Or.inl ⟨by rfl, ?_⟩) hHeld ?_
  rotate_left
  · intro w hSw
    (try dsimp only at hSw)
    go_simp
    all_goals with_reducible rfl
  try simp only [Act.put, List.setIfInBounds_toArray, List.set_cons_zero, List.set_cons_succ]
  refine wpAnyH_take (i := 28) (v := ?_) (arr_at rfl) (by as_aux_lemma => kernel_rfl) (by as_aux_lemma => kernel_rfl) (by as_aux_lemma => kernel_rfl) (fun _ _ _ h => h) (Or.inl ⟨by rfl, ?_⟩) hHeld ?_
  rotate_left
  · intro w hSw
    (try dsimp only at hSw)
    go_simp
    all_goals with_reducible rfl
  try simp only [Act.put, List.setIfInBounds_toArray, List.set_cons_zero, List.set_cons_succ]
  refine wpAnyH_take (i := 29) (v := ?_) (arr_at rfl) (by as_aux_lemma => kernel_rfl) (by as_aux_lemma => kernel_rfl) (by as_aux_lemma => kernel_rfl) (fun _ _ _ h => h) (Or.inl ⟨by rfl, ?_⟩) hHeld ?_
  rotate_left
  · intro w hSw
    (try dsimp only at hSw)
    go_simp
    all_goals with_reducible rfl
  try simp only [Act.put, List.setIfInBounds_toArray, List.set_cons_zero, List.set_cons_succ]
  refine wpAnyH_take (i := 31) (v := ?_) (arr_at rfl) (by as_aux_lemma => kernel_rfl) (by as_aux_lemma => kernel_rfl) (by as_aux_lemma => kernel_rfl) (fun _ _ _ h => h) (Or.inl ⟨by rfl, ?_⟩) hHeld ?_
  rotate_left
  · intro w hSw
    (try dsimp only at hSw)
    go_simp
    all_goals with_reducible rfl
  try simp only [Act.put, List.setIfInBounds_toArray, List.set_cons_zero, List.set_cons_succ]
  refine wpAnyH_take (i := 32) (v := ?_) (arr_at rfl) (by as_aux_lemma => kernel_rfl) (by as_aux_lemma => kernel_rfl) (by as_aux_lemma => kernel_rfl) (fun _ _ _ h => h) (Or.inl ⟨by rfl, ?_⟩) hHeld ?_
  rotate_left
  · intro w hSw
    (try dsimp only at hSw)
    go_simp
    all_goals with_reducible rfl
  try simp only [Act.put, List.setIfInBounds_toArray, List.set_cons_zero, List.set_cons_succ]
  refine wpAnyH_take (i := 34) (v := ?_) (arr_at rfl) (by as_aux_lemma => kernel_rfl) (by as_aux_lemma => kernel_rfl) (by as_aux_lemma => kernel_rfl) (fun _ _ _ h => h) (Or.inl ⟨by rfl, ?_⟩) hHeld ?_
  rotate_left
  · intro w hSw
    (try dsimp only at hSw)
    go_simp
    all_goals with_reducible rfl
  try simp only [Act.put, List.setIfInBounds_toArray, List.set_cons_zero, List.set_cons_succ]
  refine wpAnyH_take (i := 35) (v := ?_) (arr_at rfl) (by as_aux_lemma => kernel_rfl) (by as_aux_lemma => kernel_rfl) (by as_aux_lemma => kernel_rfl) (fun _ _ _ h => h) (Or.inl ⟨by rfl, ?_⟩) hHeld ?_
  rotate_left
  · intro w hSw
    (try dsimp only at hSw)
    go_simp
    all_goals with_reducible rfl
  try simp only [Act.put, List.setIfInBounds_toArray, List.set_cons_zero, List.set_cons_succ]
  refine wpAnyH_take (i := 37) (v := ?_) (arr_at rfl) (by as_aux_lemma => kernel_rfl) (by as_aux_lemma => kernel_rfl) (by as_aux_lemma => kernel_rfl) (fun _ _ _ h => h) (Or.inl ⟨by rfl, ?_⟩) hHeld ?_
  rotate_left
  · intro w hSw
    (try dsimp only at hSw)
    go_simp
    all_goals with_reducible rfl
  try simp only [Act.put, List.setIfInBounds_toArray, List.set_cons_zero, List.set_cons_succ]
  refine wpAnyH_take (i := 38) (v := ?_) (arr_at rfl) (by as_aux_lemma => kernel_rfl) (by as_aux_lemma => kernel_rfl) (by as_aux_lemma => kernel_rfl) (fun _ _ _ h => h) (Or.inl ⟨by rfl, ?_⟩) hHeld ?_
  rotate_left
  · intro w hSw
    (try dsimp only at hSw)
    go_simp
    all_goals with_reducible rfl
  try simp only [Act.put, List.setIfInBounds_toArray, List.set_cons_zero, List.set_cons_succ]
  refine wpAnyH_take (i := 40) (v := ?_) (arr_at rfl) (by as_aux_lemma => kernel_rfl) (by as_aux_lemma => kernel_rfl) (by as_aux_lemma => kernel_rfl) (fun _ _ _ h => h) (Or.inl ⟨by rfl, ?_⟩) hHeld ?_
  rotate_left
  · intro w hSw
    (try dsimp only at hSw)
    go_simp
    all_goals with_reducible rfl
  try simp only [Act.put, List.setIfInBounds_toArray, List.set_cons_zero, List.set_cons_succ]
  refine wpAnyH_take (i := 41) (v := ?_) (arr_at rfl) (by as_aux_lemma => kernel_rfl) (by as_aux_lemma => kernel_rfl) (by as_aux_lemma => kernel_rfl) (fun _ _ _ h => h) (Or.inl ⟨by rfl, ?_⟩) hHeld ?_
  rotate_left
  · intro w hSw
    (try dsimp only at hSw)
    go_simp
    all_goals with_reducible rfl
  try simp only [Act.put, List.setIfInBounds_toArray, List.set_cons_zero, List.set_cons_succ]
  refine wpAnyH_ready (rs := [18, 44]) (by as_aux_lemma => kernel_rfl) (by simp) ?_
  refine AllReadyH.cons (arr_at rfl) (fun K hK => ?_) ?_
  ·
    go_simp
    go_at_call 80; refine (HCL.out 8 (by decide) (by decide) (by decide) _ hHeld.1).mono ?_; rintro e w2 ⟨q8, c8, rfl, ho8, hb2⟩
    try go_wp2_with fail
    refine hK.out _ _ ?_ (fun hNew => ?_)
    · exact HK.out _ (Below.trans hHeld.1 (hb2.mono hHeld.1.size))
    clear hK K hHeld
    have hHeld := hNew
    clear hNew
    clear hb2
    try simp only [Act.put, List.setIfInBounds_toArray, List.set_cons_zero, List.set_cons_succ]
    refine wpAnyH_ready (rs := [21, 44]) (by as_aux_lemma => kernel_rfl) (by simp) ?_
    refine AllReadyH.cons (arr_at rfl) (fun K hK => ?_) ?_
    ·
      go_simp
      go_at_call 80; refine (HCL.out 9 (by decide) (by decide) (by decide) _ hHeld.1).mono ?_; rintro e w2 ⟨q9, c9, rfl, ho9, hb2⟩
      first | have ho8 := own_below ho8 hb2 | have ho8 := own_below (ho8.alloc _) hb2
      try go_wp2_with fail
      refine hK.out _ _ ?_ (fun hNew => ?_)
      · exact HK.out _ (Below.trans hHeld.1 (hb2.mono hHeld.1.size))
      clear hK K hHeld
      have hHeld := hNew
      clear hNew
      clear hb2
      try simp only [Act.put, List.setIfInBounds_toArray, List.set_cons_zero, List.set_cons_succ]
      refine wpAnyH_ready (rs := [24, 44]) (by as_aux_lemma => kernel_rfl) (by simp) ?_
      refine AllReadyH.cons (arr_at rfl) (fun K hK => ?_) ?_
      ·
        go_simp
        go_at_call 80; refine (HCL.out 10 (by decide) (by decide) (by decide) _ hHeld.1).mono ?_; rintro e w2 ⟨q10, c10, rfl, ho10, hb2⟩
        first | have ho8 := own_below ho8 hb2 | have ho8 := own_below (ho8.alloc _) hb2
        first | have ho9 := own_below ho9 hb2 | have ho9 := own_below (ho9.alloc _) hb2
        try go_wp2_with fail
        refine hK.out _ _ ?_ (fun hNew => ?_)
        · exact HK.out _ (Below.trans hHeld.1 (hb2.mono hHeld.1.size))
        clear hK K hHeld
        have hHeld := hNew
        clear hNew
        clear hb2
        try simp only [Act.put, List.setIfInBounds_toArray, List.set_cons_zero, List.set_cons_succ]
        refine wpAnyH_ready (rs := [27, 44]) (by as_aux_lemma => kernel_rfl) (by simp) ?_
        refine AllReadyH.cons (arr_at rfl) (fun K hK => ?_) ?_
        ·
          go_simp
          go_at_call 80; refine (HCL.out 11 (by decide) (by decide) (by decide) _ hHeld.1).mono ?_; rintro e w2 ⟨q11, c11, rfl, ho11, hb2⟩
          first | have ho8 := own_below ho8 hb2 | have ho8 := own_below (ho8.alloc _) hb2
          first | have ho9 := own_below ho9 hb2 | have ho9 := own_below (ho9.alloc _) hb2
          first | have ho10 := own_below ho10 hb2 | have ho10 := own_below (ho10.alloc _) hb2
          try go_wp2_with fail
          refine hK.out _ _ ?_ (fun hNew => ?_)
          · exact HK.out _ (Below.trans hHeld.1 (hb2.mono hHeld.1.size))
          clear hK K hHeld
          have hHeld := hNew
          clear hNew
          clear hb2
          try simp only [Act.put, List.setIfInBounds_toArray, List.set_cons_zero, List.set_cons_succ]
          refine wpAnyH_ready (rs := [30, 44]) (by as_aux_lemma => kernel_rfl) (by simp) ?_
          refine AllReadyH.cons (arr_at rfl) (fun K hK => ?_) ?_
          ·
            go_simp
            go_at_call 80; refine (HCL.out 12 (by decide) (by decide) (by decide) _ hHeld.1).mono ?_; rintro e w2 ⟨q12, c12, rfl, ho12, hb2⟩
            first | have ho8 := own_below ho8 hb2 | have ho8 := own_below (ho8.alloc _) hb2
            first | have ho9 := own_below ho9 hb2 | have ho9 := own_below (ho9.alloc _) hb2
            first | have ho10 := own_below ho10 hb2 | have ho10 := own_below (ho10.alloc _) hb2
            first | have ho11 := own_below ho11 hb2 | have ho11 := own_below (ho11.alloc _) hb2
            try go_wp2_with fail
            refine hK.out _ _ ?_ (fun hNew => ?_)
            · exact HK.out _ (Below.trans hHeld.1 (hb2.mono hHeld.1.size))
            clear hK K hHeld
            have hHeld := hNew
            clear hNew
            clear hb2
            try simp only [Act.put, List.setIfInBounds_toArray, List.set_cons_zero, List.set_cons_succ]
            refine wpAnyH_ready (rs := [33, 44]) (by as_aux_lemma => kernel_rfl) (by simp) ?_
            refine AllReadyH.cons (arr_at rfl) (fun K hK => ?_) ?_
            ·
              go_simp
              go_at_call 80; refine (HCL.out 14 (by decide) (by decide) (by decide) _ hHeld.1).mono ?_; rintro e w2 ⟨q14, c14, rfl, ho14, hb2⟩
              first | have ho8 := own_below ho8 hb2 | have ho8 := own_below (ho8.alloc _) hb2
              first | have ho9 := own_below ho9 hb2 | have ho9 := own_below (ho9.alloc _) hb2
              first | have ho10 := own_below ho10 hb2 | have ho10 := own_below (ho10.alloc _) hb2
              first | have ho11 := own_below ho11 hb2 | have ho11 := own_below (ho11.alloc _) hb2
              first | have ho12 := own_below ho12 hb2 | have ho12 := own_below (ho12.alloc _) hb2
              try go_wp2_with fail
              refine hK.out _ _ ?_ (fun hNew => ?_)
              · exact HK.out _ (Below.trans hHeld.1 (hb2.mono hHeld.1.size))
              clear hK K hHeld
              have hHeld := hNew
              clear hNew
              clear hb2
              try simp only [Act.put, List.setIfInBounds_toArray, List.set_cons_zero, List.set_cons_succ]
              refine wpAnyH_ready (rs := [36, 44]) (by as_aux_lemma => kernel_rfl) (by simp) ?_
              refine AllReadyH.cons (arr_at rfl) (fun K hK => ?_) ?_
              ·
                go_simp
                go_at_call 80; refine (HCL.out 15 (by decide) (by decide) (by decide) _ hHeld.1).mono ?_; rintro e w2 ⟨q15, c15, rfl, ho15, hb2⟩
                first | have ho8 := own_below ho8 hb2 | have ho8 := own_below (ho8.alloc _) hb2
                first | have ho9 := own_below ho9 hb2 | have ho9 := own_below (ho9.alloc _) hb2
                first | have ho10 := own_below ho10 hb2 | have ho10 := own_below (ho10.alloc _) hb2
                first | have ho11 := own_below ho11 hb2 | have ho11 := own_below (ho11.alloc _) hb2
                first | have ho12 := own_below ho12 hb2 | have ho12 := own_below (ho12.alloc _) hb2
                first | have ho14 := own_below ho14 hb2 | have ho14 := own_below (ho14.alloc _) hb2
                try go_wp2_with fail
                refine hK.out _ _ ?_ (fun hNew => ?_)
                · exact HK.out _ (Below.trans hHeld.1 (hb2.mono hHeld.1.size))
                clear hK K hHeld
                have hHeld := hNew
                clear hNew
                clear hb2
                try simp only [Act.put, List.setIfInBounds_toArray, List.set_cons_zero, List.set_cons_succ]
                refine wpAnyH_ready (rs := [39, 44]) (by as_aux_lemma => kernel_rfl) (by simp) ?_
                refine AllReadyH.cons (arr_at rfl) (fun K hK => ?_) ?_
                ·
                  go_simp
                  go_at_call 80; refine (HCL.out 16 (by decide) (by decide) (by decide) _ hHeld.1).mono ?_; rintro e w2 ⟨q16, c16, rfl, ho16, hb2⟩
                  first | have ho8 := own_below ho8 hb2 | have ho8 := own_below (ho8.alloc _) hb2
                  first | have ho9 := own_below ho9 hb2 | have ho9 := own_below (ho9.alloc _) hb2
                  first | have ho10 := own_below ho10 hb2 | have ho10 := own_below (ho10.alloc _) hb2
                  first | have ho11 := own_below ho11 hb2 | have ho11 := own_below (ho11.alloc _) hb2
                  first | have ho12 := own_below ho12 hb2 | have ho12 := own_below (ho12.alloc _) hb2
                  first | have ho14 := own_below ho14 hb2 | have ho14 := own_below (ho14.alloc _) hb2
                  first | have ho15 := own_below ho15 hb2 | have ho15 := own_below (ho15.alloc _) hb2
                  try go_wp2_with fail
                  refine hK.out _ _ ?_ (fun hNew => ?_)
                  · exact HK.out _ (Below.trans hHeld.1 (hb2.mono hHeld.1.size))
                  clear hK K hHeld
                  have hHeld := hNew
                  clear hNew
                  clear hb2
                  try simp only [Act.put, List.setIfInBounds_toArray, List.set_cons_zero, List.set_cons_succ]
                  refine wpAnyH_ready (rs := [42, 44]) (by as_aux_lemma => kernel_rfl) (by simp) ?_
                  refine AllReadyH.cons (arr_at rfl) (fun K hK => ?_) ?_
                  ·
                    go_simp
                    go_at_call 80; refine (HCL.out 17 (by decide) (by decide) (by decide) _ hHeld.1).mono ?_; rintro e w2 ⟨q17, c17, rfl, ho17, hb2⟩
                    first | have ho8 := own_below ho8 hb2 | have ho8 := own_below (ho8.alloc _) hb2
                    first | have ho9 := own_below ho9 hb2 | have ho9 := own_below (ho9.alloc _) hb2
                    first | have ho10 := own_below ho10 hb2 | have ho10 := own_below (ho10.alloc _) hb2
                    first | have ho11 := own_below ho11 hb2 | have ho11 := own_below (ho11.alloc _) hb2
                    first | have ho12 := own_below ho12 hb2 | have ho12 := own_below (ho12.alloc _) hb2
                    first | have ho14 := own_below ho14 hb2 | have ho14 := own_below (ho14.alloc _) hb2
                    first | have ho15 := own_below ho15 hb2 | have ho15 := own_below (ho15.alloc _) hb2
                    first | have ho16 := own_below ho16 hb2 | have ho16 := own_below (ho16.alloc _) hb2
                    try go_wp2_with fail
                    refine hK.out _ _ ?_ (fun hNew => ?_)
                    · exact HK.out _ (Below.trans hHeld.1 (hb2.mono hHeld.1.size))
                    clear hK K hHeld
                    have hHeld := hNew
                    clear hNew
                    clear hb2
                    try simp only [Act.put, List.setIfInBounds_toArray, List.set_cons_zero, List.set_cons_succ]
                    refine wpAnyH_take (i := 43) (v := ?_) (arr_at rfl) (by as_aux_lemma => kernel_rfl) (by as_aux_lemma => kernel_rfl) (by as_aux_lemma => kernel_rfl) (fun _ _ _ h => h) (Or.inl ⟨by rfl, ?_⟩) hHeld ?_
                    rotate_left
                    · intro w hSw
                      (try dsimp only at hSw)
                      go_simp
                      all_goals with_reducible rfl
                    try simp only [Act.put, List.setIfInBounds_toArray, List.set_cons_zero, List.set_cons_succ]
                    refine wpAnyH_ready (rs := [44]) (by as_aux_lemma => kernel_rfl) (by simp) ?_
                    refine AllReadyH.cons (arr_at rfl) (fun K hK => ?_) ?_
                    ·
                      have hX := hHeld.1.size
                      go_simp
                      refine hK.out _ _ ?_ (fun hNew => ?_)
                      · exact HK.out _ (hHeld.1.alloc hHeld.1.size _)
                      clear hK K hHeld
                      have hHeld := hNew
                      clear hNew
                      first | have hZ := of_new36 hHeld.1 | have hZ := of_new36d hHeld.1
                      try simp only [Act.put, List.setIfInBounds_toArray, List.set_cons_zero, List.set_cons_succ]
                      refine wpAnyH_ready (rs := [45]) (by as_aux_lemma => kernel_rfl) (by simp) ?_
                      refine AllReadyH.cons (arr_at rfl) (fun K hK => ?_) ?_
                      ·
                        rw [if_pos (by rfl)]
                        refine wp_store_mid 36 _ _ rfl _ 0 _ rfl rfl (rowIs_there hZ 0 18 (by omega)) info36s (by simp [Value.oneCell']) ?_
                        refine hK.out _ _ ?_ (fun hNew => ?_)
                        · exact HK.out _ (Below.grown hHeld.1 (setCells_grown _ _ _ (World.grownBy.refl _ _)) hHeld.1.size (fun k hk => by cases hk; exact hX))
                        clear hK K hHeld
                        have hHeld := hNew
                        clear hNew
                        have hRW := stored36 hHeld.1 hZ
                        have ho8 := keep36 hHeld.1 hZ (by first | exact ho8 | exact ho8.alloc _)
                        have ho9 := keep36 hHeld.1 hZ (by first | exact ho9 | exact ho9.alloc _)
                        have ho10 := keep36 hHeld.1 hZ (by first | exact ho10 | exact ho10.alloc _)
                        have ho11 := keep36 hHeld.1 hZ (by first | exact ho11 | exact ho11.alloc _)
                        have ho12 := keep36 hHeld.1 hZ (by first | exact ho12 | exact ho12.alloc _)
                        have ho14 := keep36 hHeld.1 hZ (by first | exact ho14 | exact ho14.alloc _)
                        have ho15 := keep36 hHeld.1 hZ (by first | exact ho15 | exact ho15.alloc _)
                        have ho16 := keep36 hHeld.1 hZ (by first | exact ho16 | exact ho16.alloc _)
                        have ho17 := keep36 hHeld.1 hZ (by first | exact ho17 | exact ho17.alloc _)
                        try simp only [Act.put]
                        refine wpAnyH_done (by as_aux_lemma => kernel_rfl) ?_ _
                        refine NoPanic.normal ?_
                        as_aux_lemma =>
                          go_wp2_with fail
                          go_meet
                          have hR36 := World.rowIs.congr (g := ruleF (rawOf fr un ct iv l dl wk) t (slV (.slice q8 (n 8) c8) (.slice q9 (n 9) c9) (.slice q10 (n 10) c10) (.slice q11 (n 11) c11) (.slice q12 (n 12) c12) (.slice q14 (n 14) c14) (.slice q15 (n 15) c15) (.slice q16 (n 16) c16) (.slice q17 (n 17) c17)) (.slice none 0 0)) hRW fun j hj => by
                              have ht := HT.out.1
                              have hu2 := HT.out.2
                              have e8 := ((HRO0.out 8 (by decide) (by decide) (by decide)).1); have e9 := ((HRO0.out 9 (by decide) (by decide) (by decide)).1); have e10 := ((HRO0.out 10 (by decide) (by decide) (by decide)).1); have e11 := ((HRO0.out 11 (by decide) (by decide) (by decide)).1); have e12 := ((HRO0.out 12 (by decide) (by decide) (by decide)).1); have e14 := ((HRO0.out 14 (by decide) (by decide) (by decide)).1); have e15 := ((HRO0.out 15 (by decide) (by decide) (by decide)).1); have e16 := ((HRO0.out 16 (by decide) (by decide) (by decide)).1); have e17 := ((HRO0.out 17 (by decide) (by decide) (by decide)).1)
                              have h18 : j = 0 ∨ j = 1 ∨ j = 2 ∨ j = 3 ∨ j = 4 ∨ j = 5 ∨ j = 6 ∨ j = 7 ∨ j = 8 ∨ j = 9 ∨ j = 10 ∨ j = 11 ∨ j = 12 ∨ j = 13 ∨ j = 14 ∨ j = 15 ∨ j = 16 ∨ j = 17 := by omega
                              rcases h18 with h | h | h | h | h | h | h | h | h | h | h | h | h | h | h | h | h | h <;> subst h <;> first | exact congrArg Value.bool hu2 | simp [ruleF, rawOf, slV, slP, slC, optL, ht, ← e8, ← e9, ← e10, ← e11, ← e12, ← e14, ← e15, ← e16, ← e17]
                          have hrows := slV_rows (fr := fr) (un := un) (ct := ct) (iv := iv) (dl := dl) (wk := wk) ho8 ho9 ho10 ho11 ho12 ho14 ho15 ho16 ho17
                          exact ⟨_, (slV (.slice q8 (n 8) c8) (.slice q9 (n 9) c9) (.slice q10 (n 10) c10) (.slice q11 (n 11) c11) (.slice q12 (n 12) c12) (.slice q14 (n 14) c14) (.slice q15 (n 15) c15) (.slice q16 (n 16) c16) (.slice q17 (n 17) c17)), rfl, hX, hR36, hrows.1, slV_off ho8 ho9 ho10 ho11 ho12 ho14 ho15 ho16 ho17 hR36, hrows.2, hHeld.1⟩
                      exact AllReadyH.nil
                    exact AllReadyH.nil
                  refine AllReadyH.cons (arr_at rfl) (fun K hK => ?_) ?_
                  ·
                    have hX := hHeld.1.size
                    go_simp
                    refine hK.out _ _ ?_ (fun hNew => ?_)
                    · exact HK.out _ (hHeld.1.alloc hHeld.1.size _)
                    clear hK K hHeld
                    have hHeld := hNew
                    clear hNew
                    first | have hZ := of_new36 hHeld.1 | have hZ := of_new36d hHeld.1
                    try simp only [Act.put, List.setIfInBounds_toArray, List.set_cons_zero, List.set_cons_succ]
                    refine wpAnyH_ready (rs := [42]) (by as_aux_lemma => kernel_rfl) (by simp) ?_
                    refine AllReadyH.cons (arr_at rfl) (fun K hK => ?_) ?_
                    ·
                      go_simp
                      go_at_call 80; refine (HCL.out 17 (by decide) (by decide) (by decide) _ hHeld.1).mono ?_; rintro e w2 ⟨q17, c17, rfl, ho17, hb2⟩
                      have hZ := below_row hZ hb2 hZ.lt
                      first | have ho8 := own_below ho8 hb2 | have ho8 := own_below (ho8.alloc _) hb2
                      first | have ho9 := own_below ho9 hb2 | have ho9 := own_below (ho9.alloc _) hb2
                      first | have ho10 := own_below ho10 hb2 | have ho10 := own_below (ho10.alloc _) hb2
                      first | have ho11 := own_below ho11 hb2 | have ho11 := own_below (ho11.alloc _) hb2
                      first | have ho12 := own_below ho12 hb2 | have ho12 := own_below (ho12.alloc _) hb2
                      first | have ho14 := own_below ho14 hb2 | have ho14 := own_below (ho14.alloc _) hb2
                      first | have ho15 := own_below ho15 hb2 | have ho15 := own_below (ho15.alloc _) hb2
                      first | have ho16 := own_below ho16 hb2 | have ho16 := own_below (ho16.alloc _) hb2
                      try go_wp2_with fail
                      refine hK.out _ _ ?_ (fun hNew => ?_)
                      · exact HK.out _ (Below.trans hHeld.1 (hb2.mono hHeld.1.size))
                      clear hK K hHeld
                      have hHeld := hNew
                      clear hNew
                      clear hb2
                      try simp only [Act.put, List.setIfInBounds_toArray, List.set_cons_zero, List.set_cons_succ]
                      refine wpAnyH_take (i := 43) (v := ?_) (arr_at rfl) (by as_aux_lemma => kernel_rfl) (by as_aux_lemma => kernel_rfl) (by as_aux_lemma => kernel_rfl) (fun _ _ _ h => h) (Or.inl ⟨by rfl, ?_⟩) hHeld ?_
                      rotate_left
                      · intro w hSw
                        (try dsimp only at hSw)
                        go_simp
                        all_goals with_reducible rfl
                      try simp only [Act.put, List.setIfInBounds_toArray, List.set_cons_zero, List.set_cons_succ]
                      refine wpAnyH_ready (rs := [45]) (by as_aux_lemma => kernel_rfl) (by simp) ?_
                      refine AllReadyH.cons (arr_at rfl) (fun K hK => ?_) ?_
                      ·
                        rw [if_pos (by rfl)]
                        refine wp_store_mid 36 _ _ rfl _ 0 _ rfl rfl (rowIs_there hZ 0 18 (by omega)) info36s (by simp [Value.oneCell']) ?_
                        refine hK.out _ _ ?_ (fun hNew => ?_)
                        · exact HK.out _ (Below.grown hHeld.1 (setCells_grown _ _ _ (World.grownBy.refl _ _)) hHeld.1.size (fun k hk => by cases hk; exact hX))
                        clear hK K hHeld
                        have hHeld := hNew
                        clear hNew
                        have hRW := stored36 hHeld.1 hZ
                        have ho8 := keep36 hHeld.1 hZ (by first | exact ho8 | exact ho8.alloc _)
                        have ho9 := keep36 hHeld.1 hZ (by first | exact ho9 | exact ho9.alloc _)
                        have ho10 := keep36 hHeld.1 hZ (by first | exact ho10 | exact ho10.alloc _)
                        have ho11 := keep36 hHeld.1 hZ (by first | exact ho11 | exact ho11.alloc _)
                        have ho12 := keep36 hHeld.1 hZ (by first | exact ho12 | exact ho12.alloc _)
                        have ho14 := keep36 hHeld.1 hZ (by first | exact ho14 | exact ho14.alloc _)
                        have ho15 := keep36 hHeld.1 hZ (by first | exact ho15 | exact ho15.alloc _)
                        have ho16 := keep36 hHeld.1 hZ (by first | exact ho16 | exact ho16.alloc _)
                        have ho17 := keep36 hHeld.1 hZ (by first | exact ho17 | exact ho17.alloc _)
                        try simp only [Act.put]
                        refine wpAnyH_done (by as_aux_lemma => kernel_rfl) ?_ _
                        refine NoPanic.normal ?_
                        as_aux_lemma =>
                          go_wp2_with fail
                          go_meet
                          have hR36 := World.rowIs.congr (g := ruleF (rawOf fr un ct iv l dl wk) t (slV (.slice q8 (n 8) c8) (.slice q9 (n 9) c9) (.slice q10 (n 10) c10) (.slice q11 (n 11) c11) (.slice q12 (n 12) c12) (.slice q14 (n 14) c14) (.slice q15 (n 15) c15) (.slice q16 (n 16) c16) (.slice q17 (n 17) c17)) (.slice none 0 0)) hRW fun j hj => by
                              have ht := HT.out.1
                              have hu2 := HT.out.2
                              have e8 := ((HRO0.out 8 (by decide) (by decide) (by decide)).1); have e9 := ((HRO0.out 9 (by decide) (by decide) (by decide)).1); have e10 := ((HRO0.out 10 (by decide) (by decide) (by decide)).1); have e11 := ((HRO0.out 11 (by decide) (by decide) (by decide)).1); have e12 := ((HRO0.out 12 (by decide) (by decide) (by decide)).1); have e14 := ((HRO0.out 14 (by decide) (by decide) (by decide)).1); have e15 := ((HRO0.out 15 (by decide) (by decide) (by decide)).1); have e16 := ((HRO0.out 16 (by decide) (by decide) (by decide)).1); have e17 := ((HRO0.out 17 (by decide) (by decide) (by decide)).1)
                              have h18 : j = 0 ∨ j = 1 ∨ j = 2 ∨ j = 3 ∨ j = 4 ∨ j = 5 ∨ j = 6 ∨ j = 7 ∨ j = 8 ∨ j = 9 ∨ j = 10 ∨ j = 11 ∨ j = 12 ∨ j = 13 ∨ j = 14 ∨ j = 15 ∨ j = 16 ∨ j = 17 := by omega
                              rcases h18 with h | h | h | h | h | h | h | h | h | h | h | h | h | h | h | h | h | h <;> subst h <;> first | exact congrArg Value.bool hu2 | simp [ruleF, rawOf, slV, slP, slC, optL, ht, ← e8, ← e9, ← e10, ← e11, ← e12, ← e14, ← e15, ← e16, ← e17]
                          have hrows := slV_rows (fr := fr) (un := un) (ct := ct) (iv := iv) (dl := dl) (wk := wk) ho8 ho9 ho10 ho11 ho12 ho14 ho15 ho16 ho17
                          exact ⟨_, (slV (.slice q8 (n 8) c8) (.slice q9 (n 9) c9) (.slice q10 (n 10) c10) (.slice q11 (n 11) c11) (.slice q12 (n 12) c12) (.slice q14 (n 14) c14) (.slice q15 (n 15) c15) (.slice q16 (n 16) c16) (.slice q17 (n 17) c17)), rfl, hX, hR36, hrows.1, slV_off ho8 ho9 ho10 ho11 ho12 ho14 ho15 ho16 ho17 hR36, hrows.2, hHeld.1⟩
                      exact AllReadyH.nil
                    exact AllReadyH.nil
                  exact AllReadyH.nil
                refine AllReadyH.cons (arr_at rfl) (fun K hK => ?_) ?_
                ·
                  have hX := hHeld.1.size
                  go_simp
                  refine hK.out _ _ ?_ (fun hNew => ?_)
                  · exact HK.out _ (hHeld.1.alloc hHeld.1.size _)
                  clear hK K hHeld
                  have hHeld := hNew
                  clear hNew
                  first | have hZ := of_new36 hHeld.1 | have hZ := of_new36d hHeld.1
                  try simp only [Act.put, List.setIfInBounds_toArray, List.set_cons_zero, List.set_cons_succ]
                  refine wpAnyH_ready (rs := [39]) (by as_aux_lemma => kernel_rfl) (by simp) ?_
                  refine AllReadyH.cons (arr_at rfl) (fun K hK => ?_) ?_
                  ·
                    go_simp
                    go_at_call 80; refine (HCL.out 16 (by decide) (by decide) (by decide) _ hHeld.1).mono ?_; rintro e w2 ⟨q16, c16, rfl, ho16, hb2⟩
                    have hZ := below_row hZ hb2 hZ.lt
                    first | have ho8 := own_below ho8 hb2 | have ho8 := own_below (ho8.alloc _) hb2
                    first | have ho9 := own_below ho9 hb2 | have ho9 := own_below (ho9.alloc _) hb2
                    first | have ho10 := own_below ho10 hb2 | have ho10 := own_below (ho10.alloc _) hb2
                    first | have ho11 := own_below ho11 hb2 | have ho11 := own_below (ho11.alloc _) hb2
                    first | have ho12 := own_below ho12 hb2 | have ho12 := own_below (ho12.alloc _) hb2
                    first | have ho14 := own_below ho14 hb2 | have ho14 := own_below (ho14.alloc _) hb2
                    first | have ho15 := own_below ho15 hb2 | have ho15 := own_below (ho15.alloc _) hb2
                    try go_wp2_with fail
                    refine hK.out _ _ ?_ (fun hNew => ?_)
                    · exact HK.out _ (Below.trans hHeld.1 (hb2.mono hHeld.1.size))
                    clear hK K hHeld
                    have hHeld := hNew
                    clear hNew
                    clear hb2
                    try simp only [Act.put, List.setIfInBounds_toArray, List.set_cons_zero, List.set_cons_succ]
                    refine wpAnyH_ready (rs := [42]) (by as_aux_lemma => kernel_rfl) (by simp) ?_
                    refine AllReadyH.cons (arr_at rfl) (fun K hK => ?_) ?_
                    ·
                      go_simp
                      go_at_call 80; refine (HCL.out 17 (by decide) (by decide) (by decide) _ hHeld.1).mono ?_; rintro e w2 ⟨q17, c17, rfl, ho17, hb2⟩
                      have hZ := below_row hZ hb2 hZ.lt
                      first | have ho8 := own_below ho8 hb2 | have ho8 := own_below (ho8.alloc _) hb2
                      first | have ho9 := own_below ho9 hb2 | have ho9 := own_below (ho9.alloc _) hb2
                      first | have ho10 := own_below ho10 hb2 | have ho10 := own_below (ho10.alloc _) hb2
                      first | have ho11 := own_below ho11 hb2 | have ho11 := own_below (ho11.alloc _) hb2
                      first | have ho12 := own_below ho12 hb2 | have ho12 := own_below (ho12.alloc _) hb2
                      first | have ho14 := own_below ho14 hb2 | have ho14 := own_below (ho14.alloc _) hb2
                      first | have ho15 := own_below ho15 hb2 | have ho15 := own_below (ho15.alloc _) hb2
                      first | have ho16 := own_below ho16 hb2 | have ho16 := own_below (ho16.alloc _) hb2
                      try go_wp2_with fail
                      refine hK.out _ _ ?_ (fun hNew => ?_)
                      · exact HK.out _ (Below.trans hHeld.1 (hb2.mono hHeld.1.size))
                      clear hK K hHeld
                      have hHeld := hNew
                      clear hNew
                      clear hb2
                      try simp only [Act.put, List.setIfInBounds_toArray, List.set_cons_zero, List.set_cons_succ]
                      refine wpAnyH_take (i := 43) (v := ?_) (arr_at rfl) (by as_aux_lemma => kernel_rfl) (by as_aux_lemma => kernel_rfl) (by as_aux_lemma => kernel_rfl) (fun _ _ _ h => h) (Or.inl ⟨by rfl, ?_⟩) hHeld ?_
                      rotate_left
                      · intro w hSw
                        (try dsimp only at hSw)
                        go_simp
                        all_goals with_reducible rfl
                      try simp only [Act.put, List.setIfInBounds_toArray, List.set_cons_zero, List.set_cons_succ]
                      refine wpAnyH_ready (rs := [45]) (by as_aux_lemma => kernel_rfl) (by simp) ?_
                      refine AllReadyH.cons (arr_at rfl) (fun K hK => ?_) ?_
                      ·
                        rw [if_pos (by rfl)]
                        refine wp_store_mid 36 _ _ rfl _ 0 _ rfl rfl (rowIs_there hZ 0 18 (by omega)) info36s (by simp [Value.oneCell']) ?_
                        refine hK.out _ _ ?_ (fun hNew => ?_)
                        · exact HK.out _ (Below.grown hHeld.1 (setCells_grown _ _ _ (World.grownBy.refl _ _)) hHeld.1.size (fun k hk => by cases hk; exact hX))
                        clear hK K hHeld
                        have hHeld := hNew
                        clear hNew
                        have hRW := stored36 hHeld.1 hZ
                        have ho8 := keep36 hHeld.1 hZ (by first | exact ho8 | exact ho8.alloc _)
                        have ho9 := keep36 hHeld.1 hZ (by first | exact ho9 | exact ho9.alloc _)
                        have ho10 := keep36 hHeld.1 hZ (by first | exact ho10 | exact ho10.alloc _)
                        have ho11 := keep36 hHeld.1 hZ (by first | exact ho11 | exact ho11.alloc _)
                        have ho12 := keep36 hHeld.1 hZ (by first | exact ho12 | exact ho12.alloc _)
                        have ho14 := keep36 hHeld.1 hZ (by first | exact ho14 | exact ho14.alloc _)
                        have ho15 := keep36 hHeld.1 hZ (by first | exact ho15 | exact ho15.alloc _)
                        have ho16 := keep36 hHeld.1 hZ (by first | exact ho16 | exact ho16.alloc _)
                        have ho17 := keep36 hHeld.1 hZ (by first | exact ho17 | exact ho17.alloc _)
                        try simp only [Act.put]
                        refine wpAnyH_done (by as_aux_lemma => kernel_rfl) ?_ _
                        refine NoPanic.normal ?_
                        as_aux_lemma =>
                          go_wp2_with fail
                          go_meet
                          have hR36 := World.rowIs.congr (g := ruleF (rawOf fr un ct iv l dl wk) t (slV (.slice q8 (n 8) c8) (.slice q9 (n 9) c9) (.slice q10 (n 10) c10) (.slice q11 (n 11) c11) (.slice q12 (n 12) c12) (.slice q14 (n 14) c14) (.slice q15 (n 15) c15) (.slice q16 (n 16) c16) (.slice q17 (n 17) c17)) (.slice none 0 0)) hRW fun j hj => by
                              have ht := HT.out.1
                              have hu2 := HT.out.2
                              have e8 := ((HRO0.out 8 (by decide) (by decide) (by decide)).1); have e9 := ((HRO0.out 9 (by decide) (by decide) (by decide)).1); have e10 := ((HRO0.out 10 (by decide) (by decide) (by decide)).1); have e11 := ((HRO0.out 11 (by decide) (by decide) (by decide)).1); have e12 := ((HRO0.out 12 (by decide) (by decide) (by decide)).1); have e14 := ((HRO0.out 14 (by decide) (by decide) (by decide)).1); have e15 := ((HRO0.out 15 (by decide) (by decide) (by decide)).1); have e16 := ((HRO0.out 16 (by decide) (by decide) (by decide)).1); have e17 := ((HRO0.out 17 (by decide) (by decide) (by decide)).1)
                              have h18 : j = 0 ∨ j = 1 ∨ j = 2 ∨ j = 3 ∨ j = 4 ∨ j = 5 ∨ j = 6 ∨ j = 7 ∨ j = 8 ∨ j = 9 ∨ j = 10 ∨ j = 11 ∨ j = 12 ∨ j = 13 ∨ j = 14 ∨ j = 15 ∨ j = 16 ∨ j = 17 := by omega
                              rcases h18 with h | h | h | h | h | h | h | h | h | h | h | h | h | h | h | h | h | h <;> subst h <;> first | exact congrArg Value.bool hu2 | simp [ruleF, rawOf, slV, slP, slC, optL, ht, ← e8, ← e9, ← e10, ← e11, ← e12, ← e14, ← e15, ← e16, ← e17]
                          have hrows := slV_rows (fr := fr) (un := un) (ct := ct) (iv := iv) (dl := dl) (wk := wk) ho8 ho9 ho10 ho11 ho12 ho14 ho15 ho16 ho17
                          exact ⟨_, (slV (.slice q8 (n 8) c8) (.slice q9 (n 9) c9) (.slice q10 (n 10) c10) (.slice q11 (n 11) c11) (.slice q12 (n 12) c12) (.slice q14 (n 14) c14) (.slice q15 (n 15) c15) (.slice q16 (n 16) c16) (.slice q17 (n 17) c17)), rfl, hX, hR36, hrows.1, slV_off ho8 ho9 ho10 ho11 ho12 ho14 ho15 ho16 ho17 hR36, hrows.2, hHeld.1⟩
                      exact AllReadyH.nil
                    exact AllReadyH.nil
                  exact AllReadyH.nil
                exact AllReadyH.nil
              refine AllReadyH.cons (arr_at rfl) (fun K hK => ?_) ?_
              ·
                have hX := hHeld.1.size
                go_simp
                refine hK.out _ _ ?_ (fun hNew => ?_)
                · exact HK.out _ (hHeld.1.alloc hHeld.1.size _)
                clear hK K hHeld
                have hHeld := hNew
                clear hNew
                first | have hZ := of_new36 hHeld.1 | have hZ := of_new36d hHeld.1
                try simp only [Act.put, List.setIfInBounds_toArray, List.set_cons_zero, List.set_cons_succ]
                refine wpAnyH_ready (rs := [36]) (by as_aux_lemma => kernel_rfl) (by simp) ?_
                refine AllReadyH.cons (arr_at rfl) (fun K hK => ?_) ?_
                ·
                  go_simp
                  go_at_call 80; refine (HCL.out 15 (by decide) (by decide) (by decide) _ hHeld.1).mono ?_; rintro e w2 ⟨q15, c15, rfl, ho15, hb2⟩
                  have hZ := below_row hZ hb2 hZ.lt
                  first | have ho8 := own_below ho8 hb2 | have ho8 := own_below (ho8.alloc _) hb2
                  first | have ho9 := own_below ho9 hb2 | have ho9 := own_below (ho9.alloc _) hb2
                  first | have ho10 := own_below ho10 hb2 | have ho10 := own_below (ho10.alloc _) hb2
                  first | have ho11 := own_below ho11 hb2 | have ho11 := own_below (ho11.alloc _) hb2
                  first | have ho12 := own_below ho12 hb2 | have ho12 := own_below (ho12.alloc _) hb2
                  first | have ho14 := own_below ho14 hb2 | have ho14 := own_below (ho14.alloc _) hb2
                  try go_wp2_with fail
                  refine hK.out _ _ ?_ (fun hNew => ?_)
                  · exact HK.out _ (Below.trans hHeld.1 (hb2.mono hHeld.1.size))
                  clear hK K hHeld
                  have hHeld := hNew
                  clear hNew
                  clear hb2
                  try simp only [Act.put, List.setIfInBounds_toArray, List.set_cons_zero, List.set_cons_succ]
                  refine wpAnyH_ready (rs := [39]) (by as_aux_lemma => kernel_rfl) (by simp) ?_
                  refine AllReadyH.cons (arr_at rfl) (fun K hK => ?_) ?_
                  ·
                    go_simp
                    go_at_call 80; refine (HCL.out 16 (by decide) (by decide) (by decide) _ hHeld.1).mono ?_; rintro e w2 ⟨q16, c16, rfl, ho16, hb2⟩
                    have hZ := below_row hZ hb2 hZ.lt
                    first | have ho8 := own_below ho8 hb2 | have ho8 := own_below (ho8.alloc _) hb2
                    first | have ho9 := own_below ho9 hb2 | have ho9 := own_below (ho9.alloc _) hb2
                    first | have ho10 := own_below ho10 hb2 | have ho10 := own_below (ho10.alloc _) hb2
                    first | have ho11 := own_below ho11 hb2 | have ho11 := own_below (ho11.alloc _) hb2
                    first | have ho12 := own_below ho12 hb2 | have ho12 := own_below (ho12.alloc _) hb2
                    first | have ho14 := own_below ho14 hb2 | have ho14 := own_below (ho14.alloc _) hb2
                    first | have ho15 := own_below ho15 hb2 | have ho15 := own_below (ho15.alloc _) hb2
                    try go_wp2_with fail
                    refine hK.out _ _ ?_ (fun hNew => ?_)
                    · exact HK.out _ (Below.trans hHeld.1 (hb2.mono hHeld.1.size))
                    clear hK K hHeld
                    have hHeld := hNew
                    clear hNew
                    clear hb2
                    try simp only [Act.put, List.setIfInBounds_toArray, List.set_cons_zero, List.set_cons_succ]
                    refine wpAnyH_ready (rs := [42]) (by as_aux_lemma => kernel_rfl) (by simp) ?_
                    refine AllReadyH.cons (arr_at rfl) (fun K hK => ?_) ?_
                    ·
                      go_simp
                      go_at_call 80; refine (HCL.out 17 (by decide) (by decide) (by decide) _ hHeld.1).mono ?_; rintro e w2 ⟨q17, c17, rfl, ho17, hb2⟩
                      have hZ := below_row hZ hb2 hZ.lt
                      first | have ho8 := own_below ho8 hb2 | have ho8 := own_below (ho8.alloc _) hb2
                      first | have ho9 := own_below ho9 hb2 | have ho9 := own_below (ho9.alloc _) hb2
                      first | have ho10 := own_below ho10 hb2 | have ho10 := own_below (ho10.alloc _) hb2
                      first | have ho11 := own_below ho11 hb2 | have ho11 := own_below (ho11.alloc _) hb2
                      first | have ho12 := own_below ho12 hb2 | have ho12 := own_below (ho12.alloc _) hb2
                      first | have ho14 := own_below ho14 hb2 | have ho14 := own_below (ho14.alloc _) hb2
                      first | have ho15 := own_below ho15 hb2 | have ho15 := own_below (ho15.alloc _) hb2
                      first | have ho16 := own_below ho16 hb2 | have ho16 := own_below (ho16.alloc _) hb2
                      try go_wp2_with fail
                      refine hK.out _ _ ?_ (fun hNew => ?_)
                      · exact HK.out _ (Below.trans hHeld.1 (hb2.mono hHeld.1.size))
                      clear hK K hHeld
                      have hHeld := hNew
                      clear hNew
                      clear hb2
                      try simp only [Act.put, List.setIfInBounds_toArray, List.set_cons_zero, List.set_cons_succ]
                      refine wpAnyH_take (i := 43) (v := ?_) (arr_at rfl) (by as_aux_lemma => kernel_rfl) (by as_aux_lemma => kernel_rfl) (by as_aux_lemma => kernel_rfl) (fun _ _ _ h => h) (Or.inl ⟨by rfl, ?_⟩) hHeld ?_
                      rotate_left
                      · intro w hSw
                        (try dsimp only at hSw)
                        go_simp
                        all_goals with_reducible rfl
                      try simp only [Act.put, List.setIfInBounds_toArray, List.set_cons_zero, List.set_cons_succ]
                      refine wpAnyH_ready (rs := [45]) (by as_aux_lemma => kernel_rfl) (by simp) ?_
                      refine AllReadyH.cons (arr_at rfl) (fun K hK => ?_) ?_
                      ·
                        rw [if_pos (by rfl)]
                        refine wp_store_mid 36 _ _ rfl _ 0 _ rfl rfl (rowIs_there hZ 0 18 (by omega)) info36s (by simp [Value.oneCell']) ?_
                        refine hK.out _ _ ?_ (fun hNew => ?_)
                        · exact HK.out _ (Below.grown hHeld.1 (setCells_grown _ _ _ (World.grownBy.refl _ _)) hHeld.1.size (fun k hk => by cases hk; exact hX))
                        clear hK K hHeld
                        have hHeld := hNew
                        clear hNew
                        have hRW := stored36 hHeld.1 hZ
                        have ho8 := keep36 hHeld.1 hZ (by first | exact ho8 | exact ho8.alloc _)
                        have ho9 := keep36 hHeld.1 hZ (by first | exact ho9 | exact ho9.alloc _)
                        have ho10 := keep36 hHeld.1 hZ (by first | exact ho10 | exact ho10.alloc _)
                        have ho11 := keep36 hHeld.1 hZ (by first | exact ho11 | exact ho11.alloc _)
                        have ho12 := keep36 hHeld.1 hZ (by first | exact ho12 | exact ho12.alloc _)
                        have ho14 := keep36 hHeld.1 hZ (by first | exact ho14 | exact ho14.alloc _)
                        have ho15 := keep36 hHeld.1 hZ (by first | exact ho15 | exact ho15.alloc _)
                        have ho16 := keep36 hHeld.1 hZ (by first | exact ho16 | exact ho16.alloc _)
                        have ho17 := keep36 hHeld.1 hZ (by first | exact ho17 | exact ho17.alloc _)
                        try simp only [Act.put]
                        refine wpAnyH_done (by as_aux_lemma => kernel_rfl) ?_ _
                        refine NoPanic.normal ?_
                        as_aux_lemma =>
                          go_wp2_with fail
                          go_meet
                          have hR36 := World.rowIs.congr (g := ruleF (rawOf fr un ct iv l dl wk) t (slV (.slice q8 (n 8) c8) (.slice q9 (n 9) c9) (.slice q10 (n 10) c10) (.slice q11 (n 11) c11) (.slice q12 (n 12) c12) (.slice q14 (n 14) c14) (.slice q15 (n 15) c15) (.slice q16 (n 16) c16) (.slice q17 (n 17) c17)) (.slice none 0 0)) hRW fun j hj => by
                              have ht := HT.out.1
                              have hu2 := HT.out.2
                              have e8 := ((HRO0.out 8 (by decide) (by decide) (by decide)).1); have e9 := ((HRO0.out 9 (by decide) (by decide) (by decide)).1); have e10 := ((HRO0.out 10 (by decide) (by decide) (by decide)).1); have e11 := ((HRO0.out 11 (by decide) (by decide) (by decide)).1); have e12 := ((HRO0.out 12 (by decide) (by decide) (by decide)).1); have e14 := ((HRO0.out 14 (by decide) (by decide) (by decide)).1); have e15 := ((HRO0.out 15 (by decide) (by decide) (by decide)).1); have e16 := ((HRO0.out 16 (by decide) (by decide) (by decide)).1); have e17 := ((HRO0.out 17 (by decide) (by decide) (by decide)).1)
                              have h18 : j = 0 ∨ j = 1 ∨ j = 2 ∨ j = 3 ∨ j = 4 ∨ j = 5 ∨ j = 6 ∨ j = 7 ∨ j = 8 ∨ j = 9 ∨ j = 10 ∨ j = 11 ∨ j = 12 ∨ j = 13 ∨ j = 14 ∨ j = 15 ∨ j = 16 ∨ j = 17 := by omega
                              rcases h18 with h | h | h | h | h | h | h | h | h | h | h | h | h | h | h | h | h | h <;> subst h <;> first | exact congrArg Value.bool hu2 | simp [ruleF, rawOf, slV, slP, slC, optL, ht, ← e8, ← e9, ← e10, ← e11, ← e12, ← e14, ← e15, ← e16, ← e17]
                          have hrows := slV_rows (fr := fr) (un := un) (ct := ct) (iv := iv) (dl := dl) (wk := wk) ho8 ho9 ho10 ho11 ho12 ho14 ho15 ho16 ho17
                          exact ⟨_, (slV (.slice q8 (n 8) c8) (.slice q9 (n 9) c9) (.slice q10 (n 10) c10) (.slice q11 (n 11) c11) (.slice q12 (n 12) c12) (.slice q14 (n 14) c14) (.slice q15 (n 15) c15) (.slice q16 (n 16) c16) (.slice q17 (n 17) c17)), rfl, hX, hR36, hrows.1, slV_off ho8 ho9 ho10 ho11 ho12 ho14 ho15 ho16 ho17 hR36, hrows.2, hHeld.1⟩
                      exact AllReadyH.nil
                    exact AllReadyH.nil
                  exact AllReadyH.nil
                exact AllReadyH.nil
              exact AllReadyH.nil
            refine AllReadyH.cons (arr_at rfl) (fun K hK => ?_) ?_
            ·
              have hX := hHeld.1.size
              go_simp
              refine hK.out _ _ ?_ (fun hNew => ?_)
              · exact HK.out _ (hHeld.1.alloc hHeld.1.size _)
              clear hK K hHeld
              have hHeld := hNew
              clear hNew
              first | have hZ := of_new36 hHeld.1 | have hZ := of_new36d hHeld.1
              try simp only [Act.put, List.setIfInBounds_toArray, List.set_cons_zero, List.set_cons_succ]
              refine wpAnyH_ready (rs := [33]) (by as_aux_lemma => kernel_rfl) (by simp) ?_
              refine AllReadyH.cons (arr_at rfl) (fun K hK => ?_) ?_
              ·
                go_simp
                go_at_call 80; refine (HCL.out 14 (by decide) (by decide) (by decide) _ hHeld.1).mono ?_; rintro e w2 ⟨q14, c14, rfl, ho14, hb2⟩
                have hZ := below_row hZ hb2 hZ.lt
                first | have ho8 := own_below ho8 hb2 | have ho8 := own_below (ho8.alloc _) hb2
                first | have ho9 := own_below ho9 hb2 | have ho9 := own_below (ho9.alloc _) hb2
                first | have ho10 := own_below ho10 hb2 | have ho10 := own_below (ho10.alloc _) hb2
                first | have ho11 := own_below ho11 hb2 | have ho11 := own_below (ho11.alloc _) hb2
                first | have ho12 := own_below ho12 hb2 | have ho12 := own_below (ho12.alloc _) hb2
                try go_wp2_with fail
                refine hK.out _ _ ?_ (fun hNew => ?_)
                · exact HK.out _ (Below.trans hHeld.1 (hb2.mono hHeld.1.size))
                clear hK K hHeld
                have hHeld := hNew
                clear hNew
                clear hb2
                try simp only [Act.put, List.setIfInBounds_toArray, List.set_cons_zero, List.set_cons_succ]
                refine wpAnyH_ready (rs := [36]) (by as_aux_lemma => kernel_rfl) (by simp) ?_
                refine AllReadyH.cons (arr_at rfl) (fun K hK => ?_) ?_
                ·
                  go_simp
                  go_at_call 80; refine (HCL.out 15 (by decide) (by decide) (by decide) _ hHeld.1).mono ?_; rintro e w2 ⟨q15, c15, rfl, ho15, hb2⟩
                  have hZ := below_row hZ hb2 hZ.lt
                  first | have ho8 := own_below ho8 hb2 | have ho8 := own_below (ho8.alloc _) hb2
                  first | have ho9 := own_below ho9 hb2 | have ho9 := own_below (ho9.alloc _) hb2
                  first | have ho10 := own_below ho10 hb2 | have ho10 := own_below (ho10.alloc _) hb2
                  first | have ho11 := own_below ho11 hb2 | have ho11 := own_below (ho11.alloc _) hb2
                  first | have ho12 := own_below ho12 hb2 | have ho12 := own_below (ho12.alloc _) hb2
                  first | have ho14 := own_below ho14 hb2 | have ho14 := own_below (ho14.alloc _) hb2
                  try go_wp2_with fail
                  refine hK.out _ _ ?_ (fun hNew => ?_)
                  · exact HK.out _ (Below.trans hHeld.1 (hb2.mono hHeld.1.size))
                  clear hK K hHeld
                  have hHeld := hNew
                  clear hNew
                  clear hb2
                  try simp only [Act.put, List.setIfInBounds_toArray, List.set_cons_zero, List.set_cons_succ]
                  refine wpAnyH_ready (rs := [39]) (by as_aux_lemma => kernel_rfl) (by simp) ?_
                  refine AllReadyH.cons (arr_at rfl) (fun K hK => ?_) ?_
                  ·
                    go_simp
                    go_at_call 80; refine (HCL.out 16 (by decide) (by decide) (by decide) _ hHeld.1).mono ?_; rintro e w2 ⟨q16, c16, rfl, ho16, hb2⟩
                    have hZ := below_row hZ hb2 hZ.lt
                    first | have ho8 := own_below ho8 hb2 | have ho8 := own_below (ho8.alloc _) hb2
                    first | have ho9 := own_below ho9 hb2 | have ho9 := own_below (ho9.alloc _) hb2
                    first | have ho10 := own_below ho10 hb2 | have ho10 := own_below (ho10.alloc _) hb2
                    first | have ho11 := own_below ho11 hb2 | have ho11 := own_below (ho11.alloc _) hb2
                    first | have ho12 := own_below ho12 hb2 | have ho12 := own_below (ho12.alloc _) hb2
                    first | have ho14 := own_below ho14 hb2 | have ho14 := own_below (ho14.alloc _) hb2
                    first | have ho15 := own_below ho15 hb2 | have ho15 := own_below (ho15.alloc _) hb2
                    try go_wp2_with fail
                    refine hK.out _ _ ?_ (fun hNew => ?_)
                    · exact HK.out _ (Below.trans hHeld.1 (hb2.mono hHeld.1.size))
                    clear hK K hHeld
                    have hHeld := hNew
                    clear hNew
                    clear hb2
                    try simp only [Act.put, List.setIfInBounds_toArray, List.set_cons_zero, List.set_cons_succ]
                    refine wpAnyH_ready (rs := [42]) (by as_aux_lemma => kernel_rfl) (by simp) ?_
                    refine AllReadyH.cons (arr_at rfl) (fun K hK => ?_) ?_
                    ·
                      go_simp
                      go_at_call 80; refine (HCL.out 17 (by decide) (by decide) (by decide) _ hHeld.1).mono ?_; rintro e w2 ⟨q17, c17, rfl, ho17, hb2⟩
                      have hZ := below_row hZ hb2 hZ.lt
                      first | have ho8 := own_below ho8 hb2 | have ho8 := own_below (ho8.alloc _) hb2
                      first | have ho9 := own_below ho9 hb2 | have ho9 := own_below (ho9.alloc _) hb2
                      first | have ho10 := own_below ho10 hb2 | have ho10 := own_below (ho10.alloc _) hb2
                      first | have ho11 := own_below ho11 hb2 | have ho11 := own_below (ho11.alloc _) hb2
                      first | have ho12 := own_below ho12 hb2 | have ho12 := own_below (ho12.alloc _) hb2
                      first | have ho14 := own_below ho14 hb2 | have ho14 := own_below (ho14.alloc _) hb2
                      first | have ho15 := own_below ho15 hb2 | have ho15 := own_below (ho15.alloc _) hb2
                      first | have ho16 := own_below ho16 hb2 | have ho16 := own_below (ho16.alloc _) hb2
                      try go_wp2_with fail
                      refine hK.out _ _ ?_ (fun hNew => ?_)
                      · exact HK.out _ (Below.trans hHeld.1 (hb2.mono hHeld.1.size))
                      clear hK K hHeld
                      have hHeld := hNew
                      clear hNew
                      clear hb2
                      try simp only [Act.put, List.setIfInBounds_toArray, List.set_cons_zero, List.set_cons_succ]
                      refine wpAnyH_take (i := 43) (v := ?_) (arr_at rfl) (by as_aux_lemma => kernel_rfl) (by as_aux_lemma => kernel_rfl) (by as_aux_lemma => kernel_rfl) (fun _ _ _ h => h) (Or.inl ⟨by rfl, ?_⟩) hHeld ?_
                      rotate_left
                      · intro w hSw
                        (try dsimp only at hSw)
                        go_simp
                        all_goals with_reducible rfl
                      try simp only [Act.put, List.setIfInBounds_toArray, List.set_cons_zero, List.set_cons_succ]
                      refine wpAnyH_ready (rs := [45]) (by as_aux_lemma => kernel_rfl) (by simp) ?_
                      refine AllReadyH.cons (arr_at rfl) (fun K hK => ?_) ?_
                      ·
                        rw [if_pos (by rfl)]
                        refine wp_store_mid 36 _ _ rfl _ 0 _ rfl rfl (rowIs_there hZ 0 18 (by omega)) info36s (by simp [Value.oneCell']) ?_
                        refine hK.out _ _ ?_ (fun hNew => ?_)
                        · exact HK.out _ (Below.grown hHeld.1 (setCells_grown _ _ _ (World.grownBy.refl _ _)) hHeld.1.size (fun k hk => by cases hk; exact hX))
                        clear hK K hHeld
                        have hHeld := hNew
                        clear hNew
                        have hRW := stored36 hHeld.1 hZ
                        have ho8 := keep36 hHeld.1 hZ (by first | exact ho8 | exact ho8.alloc _)
                        have ho9 := keep36 hHeld.1 hZ (by first | exact ho9 | exact ho9.alloc _)
                        have ho10 := keep36 hHeld.1 hZ (by first | exact ho10 | exact ho10.alloc _)
                        have ho11 := keep36 hHeld.1 hZ (by first | exact ho11 | exact ho11.alloc _)
                        have ho12 := keep36 hHeld.1 hZ (by first | exact ho12 | exact ho12.alloc _)
                        have ho14 := keep36 hHeld.1 hZ (by first | exact ho14 | exact ho14.alloc _)
                        have ho15 := keep36 hHeld.1 hZ (by first | exact ho15 | exact ho15.alloc _)
                        have ho16 := keep36 hHeld.1 hZ (by first | exact ho16 | exact ho16.alloc _)
                        have ho17 := keep36 hHeld.1 hZ (by first | exact ho17 | exact ho17.alloc _)
                        try simp only [Act.put]
                        refine wpAnyH_done (by as_aux_lemma => kernel_rfl) ?_ _
                        refine NoPanic.normal ?_
                        as_aux_lemma =>
                          go_wp2_with fail
                          go_meet
                          have hR36 := World.rowIs.congr (g := ruleF (rawOf fr un ct iv l dl wk) t (slV (.slice q8 (n 8) c8) (.slice q9 (n 9) c9) (.slice q10 (n 10) c10) (.slice q11 (n 11) c11) (.slice q12 (n 12) c12) (.slice q14 (n 14) c14) (.slice q15 (n 15) c15) (.slice q16 (n 16) c16) (.slice q17 (n 17) c17)) (.slice none 0 0)) hRW fun j hj => by
                              have ht := HT.out.1
                              have hu2 := HT.out.2
                              have e8 := ((HRO0.out 8 (by decide) (by decide) (by decide)).1); have e9 := ((HRO0.out 9 (by decide) (by decide) (by decide)).1); have e10 := ((HRO0.out 10 (by decide) (by decide) (by decide)).1); have e11 := ((HRO0.out 11 (by decide) (by decide) (by decide)).1); have e12 := ((HRO0.out 12 (by decide) (by decide) (by decide)).1); have e14 := ((HRO0.out 14 (by decide) (by decide) (by decide)).1); have e15 := ((HRO0.out 15 (by decide) (by decide) (by decide)).1); have e16 := ((HRO0.out 16 (by decide) (by decide) (by decide)).1); have e17 := ((HRO0.out 17 (by decide) (by decide) (by decide)).1)
                              have h18 : j = 0 ∨ j = 1 ∨ j = 2 ∨ j = 3 ∨ j = 4 ∨ j = 5 ∨ j = 6 ∨ j = 7 ∨ j = 8 ∨ j = 9 ∨ j = 10 ∨ j = 11 ∨ j = 12 ∨ j = 13 ∨ j = 14 ∨ j = 15 ∨ j = 16 ∨ j = 17 := by omega
                              rcases h18 with h | h | h | h | h | h | h | h | h | h | h | h | h | h | h | h | h | h <;> subst h <;> first | exact congrArg Value.bool hu2 | simp [ruleF, rawOf, slV, slP, slC, optL, ht, ← e8, ← e9, ← e10, ← e11, ← e12, ← e14, ← e15, ← e16, ← e17]
                          have hrows := slV_rows (fr := fr) (un := un) (ct := ct) (iv := iv) (dl := dl) (wk := wk) ho8 ho9 ho10 ho11 ho12 ho14 ho15 ho16 ho17
                          exact ⟨_, (slV (.slice q8 (n 8) c8) (.slice q9 (n 9) c9) (.slice q10 (n 10) c10) (.slice q11 (n 11) c11) (.slice q12 (n 12) c12) (.slice q14 (n 14) c14) (.slice q15 (n 15) c15) (.slice q16 (n 16) c16) (.slice q17 (n 17) c17)), rfl, hX, hR36, hrows.1, slV_off ho8 ho9 ho10 ho11 ho12 ho14 ho15 ho16 ho17 hR36, hrows.2, hHeld.1⟩
                      exact AllReadyH.nil
                    exact AllReadyH.nil
                  exact AllReadyH.nil
                exact AllReadyH.nil
              exact AllReadyH.nil
            exact AllReadyH.nil
          refine AllReadyH.cons (arr_at rfl) (fun K hK => ?_) ?_
          ·
            have hX := hHeld.1.size
            go_simp
            refine hK.out _ _ ?_ (fun hNew => ?_)
            · exact HK.out _ (hHeld.1.alloc hHeld.1.size _)
            clear hK K hHeld
            have hHeld := hNew
            clear hNew
            first | have hZ := of_new36 hHeld.1 | have hZ := of_new36d hHeld.1
            try simp only [Act.put, List.setIfInBounds_toArray, List.set_cons_zero, List.set_cons_succ]
            refine wpAnyH_ready (rs := [30]) (by as_aux_lemma => kernel_rfl) (by simp) ?_
            refine AllReadyH.cons (arr_at rfl) (fun K hK => ?_) ?_
            ·
              go_simp
              go_at_call 80; refine (HCL.out 12 (by decide) (by decide) (by decide) _ hHeld.1).mono ?_; rintro e w2 ⟨q12, c12, rfl, ho12, hb2⟩
              have hZ := below_row hZ hb2 hZ.lt
              first | have ho8 := own_below ho8 hb2 | have ho8 := own_below (ho8.alloc _) hb2
              first | have ho9 := own_below ho9 hb2 | have ho9 := own_below (ho9.alloc _) hb2
              first | have ho10 := own_below ho10 hb2 | have ho10 := own_below (ho10.alloc _) hb2
              first | have ho11 := own_below ho11 hb2 | have ho11 := own_below (ho11.alloc _) hb2
              try go_wp2_with fail
              refine hK.out _ _ ?_ (fun hNew => ?_)
              · exact HK.out _ (Below.trans hHeld.1 (hb2.mono hHeld.1.size))
              clear hK K hHeld
              have hHeld := hNew
              clear hNew
              clear hb2
              try simp only [Act.put, List.setIfInBounds_toArray, List.set_cons_zero, List.set_cons_succ]
              refine wpAnyH_ready (rs := [33]) (by as_aux_lemma => kernel_rfl) (by simp) ?_
              refine AllReadyH.cons (arr_at rfl) (fun K hK => ?_) ?_
              ·
                go_simp
                go_at_call 80; refine (HCL.out 14 (by decide) (by decide) (by decide) _ hHeld.1).mono ?_; rintro e w2 ⟨q14, c14, rfl, ho14, hb2⟩
                have hZ := below_row hZ hb2 hZ.lt
                first | have ho8 := own_below ho8 hb2 | have ho8 := own_below (ho8.alloc _) hb2
                first | have ho9 := own_below ho9 hb2 | have ho9 := own_below (ho9.alloc _) hb2
                first | have ho10 := own_below ho10 hb2 | have ho10 := own_below (ho10.alloc _) hb2
                first | have ho11 := own_below ho11 hb2 | have ho11 := own_below (ho11.alloc _) hb2
                first | have ho12 := own_below ho12 hb2 | have ho12 := own_below (ho12.alloc _) hb2
                try go_wp2_with fail
                refine hK.out _ _ ?_ (fun hNew => ?_)
                · exact HK.out _ (Below.trans hHeld.1 (hb2.mono hHeld.1.size))
                clear hK K hHeld
                have hHeld := hNew
                clear hNew
                clear hb2
                try simp only [Act.put, List.setIfInBounds_toArray, List.set_cons_zero, List.set_cons_succ]
                refine wpAnyH_ready (rs := [36]) (by as_aux_lemma => kernel_rfl) (by simp) ?_
                refine AllReadyH.cons (arr_at rfl) (fun K hK => ?_) ?_
                ·
                  go_simp
                  go_at_call 80; refine (HCL.out 15 (by decide) (by decide) (by decide) _ hHeld.1).mono ?_; rintro e w2 ⟨q15, c15, rfl, ho15, hb2⟩
                  have hZ := below_row hZ hb2 hZ.lt
                  first | have ho8 := own_below ho8 hb2 | have ho8 := own_below (ho8.alloc _) hb2
                  first | have ho9 := own_below ho9 hb2 | have ho9 := own_below (ho9.alloc _) hb2
                  first | have ho10 := own_below ho10 hb2 | have ho10 := own_below (ho10.alloc _) hb2
                  first | have ho11 := own_below ho11 hb2 | have ho11 := own_below (ho11.alloc _) hb2
                  first | have ho12 := own_below ho12 hb2 | have ho12 := own_below (ho12.alloc _) hb2
                  first | have ho14 := own_below ho14 hb2 | have ho14 := own_below (ho14.alloc _) hb2
                  try go_wp2_with fail
                  refine hK.out _ _ ?_ (fun hNew => ?_)
                  · exact HK.out _ (Below.trans hHeld.1 (hb2.mono hHeld.1.size))
                  clear hK K hHeld
                  have hHeld := hNew
                  clear hNew
                  clear hb2
                  try simp only [Act.put, List.setIfInBounds_toArray, List.set_cons_zero, List.set_cons_succ]
                  refine wpAnyH_ready (rs := [39]) (by as_aux_lemma => kernel_rfl) (by simp) ?_
                  refine AllReadyH.cons (arr_at rfl) (fun K hK => ?_) ?_
                  ·
                    go_simp
                    go_at_call 80; refine (HCL.out 16 (by decide) (by decide) (by decide) _ hHeld.1).mono ?_; rintro e w2 ⟨q16, c16, rfl, ho16, hb2⟩
                    have hZ := below_row hZ hb2 hZ.lt
                    first | have ho8 := own_below ho8 hb2 | have ho8 := own_below (ho8.alloc _) hb2
                    first | have ho9 := own_below ho9 hb2 | have ho9 := own_below (ho9.alloc _) hb2
                    first | have ho10 := own_below ho10 hb2 | have ho10 := own_below (ho10.alloc _) hb2
                    first | have ho11 := own_below ho11 hb2 | have ho11 := own_below (ho11.alloc _) hb2
                    first | have ho12 := own_below ho12 hb2 | have ho12 := own_below (ho12.alloc _) hb2
                    first | have ho14 := own_below ho14 hb2 | have ho14 := own_below (ho14.alloc _) hb2
                    first | have ho15 := own_below ho15 hb2 | have ho15 := own_below (ho15.alloc _) hb2
                    try go_wp2_with fail
                    refine hK.out _ _ ?_ (fun hNew => ?_)
                    · exact HK.out _ (Below.trans hHeld.1 (hb2.mono hHeld.1.size))
                    clear hK K hHeld
                    have hHeld := hNew
                    clear hNew
                    clear hb2
                    try simp only [Act.put, List.setIfInBounds_toArray, List.set_cons_zero, List.set_cons_succ]
                    refine wpAnyH_ready (rs := [42]) (by as_aux_lemma => kernel_rfl) (by simp) ?_
                    refine AllReadyH.cons (arr_at rfl) (fun K hK => ?_) ?_
                    ·
                      go_simp
                      go_at_call 80; refine (HCL.out 17 (by decide) (by decide) (by decide) _ hHeld.1).mono ?_; rintro e w2 ⟨q17, c17, rfl, ho17, hb2⟩
                      have hZ := below_row hZ hb2 hZ.lt
                      first | have ho8 := own_below ho8 hb2 | have ho8 := own_below (ho8.alloc _) hb2
                      first | have ho9 := own_below ho9 hb2 | have ho9 := own_below (ho9.alloc _) hb2
                      first | have ho10 := own_below ho10 hb2 | have ho10 := own_below (ho10.alloc _) hb2
                      first | have ho11 := own_below ho11 hb2 | have ho11 := own_below (ho11.alloc _) hb2
                      first | have ho12 := own_below ho12 hb2 | have ho12 := own_below (ho12.alloc _) hb2
                      first | have ho14 := own_below ho14 hb2 | have ho14 := own_below (ho14.alloc _) hb2
                      first | have ho15 := own_below ho15 hb2 | have ho15 := own_below (ho15.alloc _) hb2
                      first | have ho16 := own_below ho16 hb2 | have ho16 := own_below (ho16.alloc _) hb2
                      try go_wp2_with fail
                      refine hK.out _ _ ?_ (fun hNew => ?_)
                      · exact HK.out _ (Below.trans hHeld.1 (hb2.mono hHeld.1.size))
                      clear hK K hHeld
                      have hHeld := hNew
                      clear hNew
                      clear hb2
                      try simp only [Act.put, List.setIfInBounds_toArray, List.set_cons_zero, List.set_cons_succ]
                      refine wpAnyH_take (i := 43) (v := ?_) (arr_at rfl) (by as_aux_lemma => kernel_rfl) (by as_aux_lemma => kernel_rfl) (by as_aux_lemma => kernel_rfl) (fun _ _ _ h => h) (Or.inl ⟨by rfl, ?_⟩) hHeld ?_
                      rotate_left
                      · intro w hSw
                        (try dsimp only at hSw)
                        go_simp
                        all_goals with_reducible rfl
                      try simp only [Act.put, List.setIfInBounds_toArray, List.set_cons_zero, List.set_cons_succ]
                      refine wpAnyH_ready (rs := [45]) (by as_aux_lemma => kernel_rfl) (by simp) ?_
                      refine AllReadyH.cons (arr_at rfl) (fun K hK => ?_) ?_
                      ·
                        rw [if_pos (by rfl)]
                        refine wp_store_mid 36 _ _ rfl _ 0 _ rfl rfl (rowIs_there hZ 0 18 (by omega)) info36s (by simp [Value.oneCell']) ?_
                        refine hK.out _ _ ?_ (fun hNew => ?_)
                        · exact HK.out _ (Below.grown hHeld.1 (setCells_grown _ _ _ (World.grownBy.refl _ _)) hHeld.1.size (fun k hk => by cases hk; exact hX))
                        clear hK K hHeld
                        have hHeld := hNew
                        clear hNew
                        have hRW := stored36 hHeld.1 hZ
                        have ho8 := keep36 hHeld.1 hZ (by first | exact ho8 | exact ho8.alloc _)
                        have ho9 := keep36 hHeld.1 hZ (by first | exact ho9 | exact ho9.alloc _)
                        have ho10 := keep36 hHeld.1 hZ (by first | exact ho10 | exact ho10.alloc _)
                        have ho11 := keep36 hHeld.1 hZ (by first | exact ho11 | exact ho11.alloc _)
                        have ho12 := keep36 hHeld.1 hZ (by first | exact ho12 | exact ho12.alloc _)
                        have ho14 := keep36 hHeld.1 hZ (by first | exact ho14 | exact ho14.alloc _)
                        have ho15 := keep36 hHeld.1 hZ (by first | exact ho15 | exact ho15.alloc _)
                        have ho16 := keep36 hHeld.1 hZ (by first | exact ho16 | exact ho16.alloc _)
                        have ho17 := keep36 hHeld.1 hZ (by first | exact ho17 | exact ho17.alloc _)
                        try simp only [Act.put]
                        refine wpAnyH_done (by as_aux_lemma => kernel_rfl) ?_ _
                        refine NoPanic.normal ?_
                        as_aux_lemma =>
                          go_wp2_with fail
                          go_meet
                          have hR36 := World.rowIs.congr (g := ruleF (rawOf fr un ct iv l dl wk) t (slV (.slice q8 (n 8) c8) (.slice q9 (n 9) c9) (.slice q10 (n 10) c10) (.slice q11 (n 11) c11) (.slice q12 (n 12) c12) (.slice q14 (n 14) c14) (.slice q15 (n 15) c15) (.slice q16 (n 16) c16) (.slice q17 (n 17) c17)) (.slice none 0 0)) hRW fun j hj => by
                              have ht := HT.out.1
                              have hu2 := HT.out.2
                              have e8 := ((HRO0.out 8 (by decide) (by decide) (by decide)).1); have e9 := ((HRO0.out 9 (by decide) (by decide) (by decide)).1); have e10 := ((HRO0.out 10 (by decide) (by decide) (by decide)).1); have e11 := ((HRO0.out 11 (by decide) (by decide) (by decide)).1); have e12 := ((HRO0.out 12 (by decide) (by decide) (by decide)).1); have e14 := ((HRO0.out 14 (by decide) (by decide) (by decide)).1); have e15 := ((HRO0.out 15 (by decide) (by decide) (by decide)).1); have e16 := ((HRO0.out 16 (by decide) (by decide) (by decide)).1); have e17 := ((HRO0.out 17 (by decide) (by decide) (by decide)).1)
                              have h18 : j = 0 ∨ j = 1 ∨ j = 2 ∨ j = 3 ∨ j = 4 ∨ j = 5 ∨ j = 6 ∨ j = 7 ∨ j = 8 ∨ j = 9 ∨ j = 10 ∨ j = 11 ∨ j = 12 ∨ j = 13 ∨ j = 14 ∨ j = 15 ∨ j = 16 ∨ j = 17 := by omega
                              rcases h18 with h | h | h | h | h | h | h | h | h | h | h | h | h | h | h | h | h | h <;> subst h <;> first | exact congrArg Value.bool hu2 | simp [ruleF, rawOf, slV, slP, slC, optL, ht, ← e8, ← e9, ← e10, ← e11, ← e12, ← e14, ← e15, ← e16, ← e17]
                          have hrows := slV_rows (fr := fr) (un := un) (ct := ct) (iv := iv) (dl := dl) (wk := wk) ho8 ho9 ho10 ho11 ho12 ho14 ho15 ho16 ho17
                          exact ⟨_, (slV (.slice q8 (n 8) c8) (.slice q9 (n 9) c9) (.slice q10 (n 10) c10) (.slice q11 (n 11) c11) (.slice q12 (n 12) c12) (.slice q14 (n 14) c14) (.slice q15 (n 15) c15) (.slice q16 (n 16) c16) (.slice q17 (n 17) c17)), rfl, hX, hR36, hrows.1, slV_off ho8 ho9 ho10 ho11 ho12 ho14 ho15 ho16 ho17 hR36, hrows.2, hHeld.1⟩
                      exact AllReadyH.nil
                    exact AllReadyH.nil
                  exact AllReadyH.nil
                exact AllReadyH.nil
              exact AllReadyH.nil
            exact AllReadyH.nil
          exact AllReadyH.nil
        refine AllReadyH.cons (arr_at rfl) (fun K hK => ?_) ?_
        ·
          have hX := hHeld.1.size
          go_simp
          refine hK.out _ _ ?_ (fun hNew => ?_)
          · exact HK.out _ (hHeld.1.alloc hHeld.1.size _)
          clear hK K hHeld
          have hHeld := hNew
          clear hNew
          first | have hZ := of_new36 hHeld.1 | have hZ := of_new36d hHeld.1
          try simp only [Act.put, List.setIfInBounds_toArray, List.set_cons_zero, List.set_cons_succ]
          refine wpAnyH_ready (rs := [27]) (by as_aux_lemma => kernel_rfl) (by simp) ?_
          refine AllReadyH.cons (arr_at rfl) (fun K hK => ?_) ?_
          ·
            go_simp
            go_at_call 80; refine (HCL.out 11 (by decide) (by decide) (by decide) _ hHeld.1).mono ?_; rintro e w2 ⟨q11, c11, rfl, ho11, hb2⟩
            have hZ := below_row hZ hb2 hZ.lt
            first | have ho8 := own_below ho8 hb2 | have ho8 := own_below (ho8.alloc _) hb2
            first | have ho9 := own_below ho9 hb2 | have ho9 := own_below (ho9.alloc _) hb2
            first | have ho10 := own_below ho10 hb2 | have ho10 := own_below (ho10.alloc _) hb2
            try go_wp2_with fail
            refine hK.out _ _ ?_ (fun hNew => ?_)
            · exact HK.out _ (Below.trans hHeld.1 (hb2.mono hHeld.1.size))
            clear hK K hHeld
            have hHeld := hNew
            clear hNew
            clear hb2
            try simp only [Act.put, List.setIfInBounds_toArray, List.set_cons_zero, List.set_cons_succ]
            refine wpAnyH_ready (rs := [30]) (by as_aux_lemma => kernel_rfl) (by simp) ?_
            refine AllReadyH.cons (arr_at rfl) (fun K hK => ?_) ?_
            ·
              go_simp
              go_at_call 80; refine (HCL.out 12 (by decide) (by decide) (by decide) _ hHeld.1).mono ?_; rintro e w2 ⟨q12, c12, rfl, ho12, hb2⟩
              have hZ := below_row hZ hb2 hZ.lt
              first | have ho8 := own_below ho8 hb2 | have ho8 := own_below (ho8.alloc _) hb2
              first | have ho9 := own_below ho9 hb2 | have ho9 := own_below (ho9.alloc _) hb2
              first | have ho10 := own_below ho10 hb2 | have ho10 := own_below (ho10.alloc _) hb2
              first | have ho11 := own_below ho11 hb2 | have ho11 := own_below (ho11.alloc _) hb2
              try go_wp2_with fail
              refine hK.out _ _ ?_ (fun hNew => ?_)
              · exact HK.out _ (Below.trans hHeld.1 (hb2.mono hHeld.1.size))
              clear hK K hHeld
              have hHeld := hNew
              clear hNew
              clear hb2
              try simp only [Act.put, List.setIfInBounds_toArray, List.set_cons_zero, List.set_cons_succ]
              refine wpAnyH_ready (rs := [33]) (by as_aux_lemma => kernel_rfl) (by simp) ?_
              refine AllReadyH.cons (arr_at rfl) (fun K hK => ?_) ?_
              ·
                go_simp
                go_at_call 80; refine (HCL.out 14 (by decide) (by decide) (by decide) _ hHeld.1).mono ?_; rintro e w2 ⟨q14, c14, rfl, ho14, hb2⟩
                have hZ := below_row hZ hb2 hZ.lt
                first | have ho8 := own_below ho8 hb2 | have ho8 := own_below (ho8.alloc _) hb2
                first | have ho9 := own_below ho9 hb2 | have ho9 := own_below (ho9.alloc _) hb2
                first | have ho10 := own_below ho10 hb2 | have ho10 := own_below (ho10.alloc _) hb2
                first | have ho11 := own_below ho11 hb2 | have ho11 := own_below (ho11.alloc _) hb2
                first | have ho12 := own_below ho12 hb2 | have ho12 := own_below (ho12.alloc _) hb2
                try go_wp2_with fail
                refine hK.out _ _ ?_ (fun hNew => ?_)
                · exact HK.out _ (Below.trans hHeld.1 (hb2.mono hHeld.1.size))
                clear hK K hHeld
                have hHeld := hNew
                clear hNew
                clear hb2
                try simp only [Act.put, List.setIfInBounds_toArray, List.set_cons_zero, List.set_cons_succ]
                refine wpAnyH_ready (rs := [36]) (by as_aux_lemma => kernel_rfl) (by simp) ?_
                refine AllReadyH.cons (arr_at rfl) (fun K hK => ?_) ?_
                ·
                  go_simp
                  go_at_call 80; refine (HCL.out 15 (by decide) (by decide) (by decide) _ hHeld.1).mono ?_; rintro e w2 ⟨q15, c15, rfl, ho15, hb2⟩
                  have hZ := below_row hZ hb2 hZ.lt
                  first | have ho8 := own_below ho8 hb2 | have ho8 := own_below (ho8.alloc _) hb2
                  first | have ho9 := own_below ho9 hb2 | have ho9 := own_below (ho9.alloc _) hb2
                  first | have ho10 := own_below ho10 hb2 | have ho10 := own_below (ho10.alloc _) hb2
                  first | have ho11 := own_below ho11 hb2 | have ho11 := own_below (ho11.alloc _) hb2
                  first | have ho12 := own_below ho12 hb2 | have ho12 := own_below (ho12.alloc _) hb2
                  first | have ho14 := own_below ho14 hb2 | have ho14 := own_below (ho14.alloc _) hb2
                  try go_wp2_with fail
                  refine hK.out _ _ ?_ (fun hNew => ?_)
                  · exact HK.out _ (Below.trans hHeld.1 (hb2.mono hHeld.1.size))
                  clear hK K hHeld
                  have hHeld := hNew
                  clear hNew
                  clear hb2
                  try simp only [Act.put, List.setIfInBounds_toArray, List.set_cons_zero, List.set_cons_succ]
                  refine wpAnyH_ready (rs := [39]) (by as_aux_lemma => kernel_rfl) (by simp) ?_
                  refine AllReadyH.cons (arr_at rfl) (fun K hK => ?_) ?_
                  ·
                    go_simp
                    go_at_call 80; refine (HCL.out 16 (by decide) (by decide) (by decide) _ hHeld.1).mono ?_; rintro e w2 ⟨q16, c16, rfl, ho16, hb2⟩
                    have hZ := below_row hZ hb2 hZ.lt
                    first | have ho8 := own_below ho8 hb2 | have ho8 := own_below (ho8.alloc _) hb2
                    first | have ho9 := own_below ho9 hb2 | have ho9 := own_below (ho9.alloc _) hb2
                    first | have ho10 := own_below ho10 hb2 | have ho10 := own_below (ho10.alloc _) hb2
                    first | have ho11 := own_below ho11 hb2 | have ho11 := own_below (ho11.alloc _) hb2
                    first | have ho12 := own_below ho12 hb2 | have ho12 := own_below (ho12.alloc _) hb2
                    first | have ho14 := own_below ho14 hb2 | have ho14 := own_below (ho14.alloc _) hb2
                    first | have ho15 := own_below ho15 hb2 | have ho15 := own_below (ho15.alloc _) hb2
                    try go_wp2_with fail
                    refine hK.out _ _ ?_ (fun hNew => ?_)
                    · exact HK.out _ (Below.trans hHeld.1 (hb2.mono hHeld.1.size))
                    clear hK K hHeld
                    have hHeld := hNew
                    clear hNew
                    clear hb2
                    try simp only [Act.put, List.setIfInBounds_toArray, List.set_cons_zero, List.set_cons_succ]
                    refine wpAnyH_ready (rs := [42]) (by as_aux_lemma => kernel_rfl) (by simp) ?_
                    refine AllReadyH.cons (arr_at rfl) (fun K hK => ?_) ?_
                    ·
                      go_simp
                      go_at_call 80; refine (HCL.out 17 (by decide) (by decide) (by decide) _ hHeld.1).mono ?_; rintro e w2 ⟨q17, c17, rfl, ho17, hb2⟩
                      have hZ := below_row hZ hb2 hZ.lt
                      first | have ho8 := own_below ho8 hb2 | have ho8 := own_below (ho8.alloc _) hb2
                      first | have ho9 := own_below ho9 hb2 | have ho9 := own_below (ho9.alloc _) hb2
                      first | have ho10 := own_below ho10 hb2 | have ho10 := own_below (ho10.alloc _) hb2
                      first | have ho11 := own_below ho11 hb2 | have ho11 := own_below (ho11.alloc _) hb2
                      first | have ho12 := own_below ho12 hb2 | have ho12 := own_below (ho12.alloc _) hb2
                      first | have ho14 := own_below ho14 hb2 | have ho14 := own_below (ho14.alloc _) hb2
                      first | have ho15 := own_below ho15 hb2 | have ho15 := own_below (ho15.alloc _) hb2
                      first | have ho16 := own_below ho16 hb2 | have ho16 := own_below (ho16.alloc _) hb2
                      try go_wp2_with fail
                      refine hK.out _ _ ?_ (fun hNew => ?_)
                      · exact HK.out _ (Below.trans hHeld.1 (hb2.mono hHeld.1.size))
                      clear hK K hHeld
                      have hHeld := hNew
                      clear hNew
                      clear hb2
                      try simp only [Act.put, List.setIfInBounds_toArray, List.set_cons_zero, List.set_cons_succ]
                      refine wpAnyH_take (i := 43) (v := ?_) (arr_at rfl) (by as_aux_lemma => kernel_rfl) (by as_aux_lemma => kernel_rfl) (by as_aux_lemma => kernel_rfl) (fun _ _ _ h => h) (Or.inl ⟨by rfl, ?_⟩) hHeld ?_
                      rotate_left
                      · intro w hSw
                        (try dsimp only at hSw)
                        go_simp
                        all_goals with_reducible rfl
                      try simp only [Act.put, List.setIfInBounds_toArray, List.set_cons_zero, List.set_cons_succ]
                      refine wpAnyH_ready (rs := [45]) (by as_aux_lemma => kernel_rfl) (by simp) ?_
                      refine AllReadyH.cons (arr_at rfl) (fun K hK => ?_) ?_
                      ·
                        rw [if_pos (by rfl)]
                        refine wp_store_mid 36 _ _ rfl _ 0 _ rfl rfl (rowIs_there hZ 0 18 (by omega)) info36s (by simp [Value.oneCell']) ?_
                        refine hK.out _ _ ?_ (fun hNew => ?_)
                        · exact HK.out _ (Below.grown hHeld.1 (setCells_grown _ _ _ (World.grownBy.refl _ _)) hHeld.1.size (fun k hk => by cases hk; exact hX))
                        clear hK K hHeld
                        have hHeld := hNew
                        clear hNew
                        have hRW := stored36 hHeld.1 hZ
                        have ho8 := keep36 hHeld.1 hZ (by first | exact ho8 | exact ho8.alloc _)
                        have ho9 := keep36 hHeld.1 hZ (by first | exact ho9 | exact ho9.alloc _)
                        have ho10 := keep36 hHeld.1 hZ (by first | exact ho10 | exact ho10.alloc _)
                        have ho11 := keep36 hHeld.1 hZ (by first | exact ho11 | exact ho11.alloc _)
                        have ho12 := keep36 hHeld.1 hZ (by first | exact ho12 | exact ho12.alloc _)
                        have ho14 := keep36 hHeld.1 hZ (by first | exact ho14 | exact ho14.alloc _)
                        have ho15 := keep36 hHeld.1 hZ (by first | exact ho15 | exact ho15.alloc _)
                        have ho16 := keep36 hHeld.1 hZ (by first | exact ho16 | exact ho16.alloc _)
                        have ho17 := keep36 hHeld.1 hZ (by first | exact ho17 | exact ho17.alloc _)
                        try simp only [Act.put]
                        refine wpAnyH_done (by as_aux_lemma => kernel_rfl) ?_ _
                        refine NoPanic.normal ?_
                        as_aux_lemma =>
                          go_wp2_with fail
                          go_meet
                          have hR36 := World.rowIs.congr (g := ruleF (rawOf fr un ct iv l dl wk) t (slV (.slice q8 (n 8) c8) (.slice q9 (n 9) c9) (.slice q10 (n 10) c10) (.slice q11 (n 11) c11) (.slice q12 (n 12) c12) (.slice q14 (n 14) c14) (.slice q15 (n 15) c15) (.slice q16 (n 16) c16) (.slice q17 (n 17) c17)) (.slice none 0 0)) hRW fun j hj => by
                              have ht := HT.out.1
                              have hu2 := HT.out.2
                              have e8 := ((HRO0.out 8 (by decide) (by decide) (by decide)).1); have e9 := ((HRO0.out 9 (by decide) (by decide) (by decide)).1); have e10 := ((HRO0.out 10 (by decide) (by decide) (by decide)).1); have e11 := ((HRO0.out 11 (by decide) (by decide) (by decide)).1); have e12 := ((HRO0.out 12 (by decide) (by decide) (by decide)).1); have e14 := ((HRO0.out 14 (by decide) (by decide) (by decide)).1); have e15 := ((HRO0.out 15 (by decide) (by decide) (by decide)).1); have e16 := ((HRO0.out 16 (by decide) (by decide) (by decide)).1); have e17 := ((HRO0.out 17 (by decide) (by decide) (by decide)).1)
                              have h18 : j = 0 ∨ j = 1 ∨ j = 2 ∨ j = 3 ∨ j = 4 ∨ j = 5 ∨ j = 6 ∨ j = 7 ∨ j = 8 ∨ j = 9 ∨ j = 10 ∨ j = 11 ∨ j = 12 ∨ j = 13 ∨ j = 14 ∨ j = 15 ∨ j = 16 ∨ j = 17 := by omega
                              rcases h18 with h | h | h | h | h | h | h | h | h | h | h | h | h | h | h | h | h | h <;> subst h <;> first | exact congrArg Value.bool hu2 | simp [ruleF, rawOf, slV, slP, slC, optL, ht, ← e8, ← e9, ← e10, ← e11, ← e12, ← e14, ← e15, ← e16, ← e17]
                          have hrows := slV_rows (fr := fr) (un := un) (ct := ct) (iv := iv) (dl := dl) (wk := wk) ho8 ho9 ho10 ho11 ho12 ho14 ho15 ho16 ho17
                          exact ⟨_, (slV (.slice q8 (n 8) c8) (.slice q9 (n 9) c9) (.slice q10 (n 10) c10) (.slice q11 (n 11) c11) (.slice q12 (n 12) c12) (.slice q14 (n 14) c14) (.slice q15 (n 15) c15) (.slice q16 (n 16) c16) (.slice q17 (n 17) c17)), rfl, hX, hR36, hrows.1, slV_off ho8 ho9 ho10 ho11 ho12 ho14 ho15 ho16 ho17 hR36, hrows.2, hHeld.1⟩
                      exact AllReadyH.nil
                    exact AllReadyH.nil
                  exact AllReadyH.nil
                exact AllReadyH.nil
              exact AllReadyH.nil
            exact AllReadyH.nil
          exact AllReadyH.nil
        exact AllReadyH.nil
      refine AllReadyH.cons (arr_at rfl) (fun K hK => ?_) ?_
      ·
        have hX := hHeld.1.size
        go_simp
        refine hK.out _ _ ?_ (fun hNew => ?_)
        · exact HK.out _ (hHeld.1.alloc hHeld.1.size _)
        clear hK K hHeld
        have hHeld := hNew
        clear hNew
        first | have hZ := of_new36 hHeld.1 | have hZ := of_new36d hHeld.1
        try simp only [Act.put, List.setIfInBounds_toArray, List.set_cons_zero, List.set_cons_succ]
        refine wpAnyH_ready (rs := [24]) (by as_aux_lemma => kernel_rfl) (by simp) ?_
        refine AllReadyH.cons (arr_at rfl) (fun K hK => ?_) ?_
        ·
          go_simp
          go_at_call 80; refine (HCL.out 10 (by decide) (by decide) (by decide) _ hHeld.1).mono ?_; rintro e w2 ⟨q10, c10, rfl, ho10, hb2⟩
          have hZ := below_row hZ hb2 hZ.lt
          first | have ho8 := own_below ho8 hb2 | have ho8 := own_below (ho8.alloc _) hb2
          first | have ho9 := own_below ho9 hb2 | have ho9 := own_below (ho9.alloc _) hb2
          try go_wp2_with fail
          refine hK.out _ _ ?_ (fun hNew => ?_)
          · exact HK.out _ (Below.trans hHeld.1 (hb2.mono hHeld.1.size))
          clear hK K hHeld
          have hHeld := hNew
          clear hNew
          clear hb2
          try simp only [Act.put, List.setIfInBounds_toArray, List.set_cons_zero, List.set_cons_succ]
          refine wpAnyH_ready (rs := [27]) (by as_aux_lemma => kernel_rfl) (by simp) ?_
          refine AllReadyH.cons (arr_at rfl) (fun K hK => ?_) ?_
          ·
            go_simp
            go_at_call 80; refine (HCL.out 11 (by decide) (by decide) (by decide) _ hHeld.1).mono ?_; rintro e w2 ⟨q11, c11, rfl, ho11, hb2⟩
            have hZ := below_row hZ hb2 hZ.lt
            first | have ho8 := own_below ho8 hb2 | have ho8 := own_below (ho8.alloc _) hb2
            first | have ho9 := own_below ho9 hb2 | have ho9 := own_below (ho9.alloc _) hb2
            first | have ho10 := own_below ho10 hb2 | have ho10 := own_below (ho10.alloc _) hb2
            try go_wp2_with fail
            refine hK.out _ _ ?_ (fun hNew => ?_)
            · exact HK.out _ (Below.trans hHeld.1 (hb2.mono hHeld.1.size))
            clear hK K hHeld
            have hHeld := hNew
            clear hNew
            clear hb2
            try simp only [Act.put, List.setIfInBounds_toArray, List.set_cons_zero, List.set_cons_succ]
            refine wpAnyH_ready (rs := [30]) (by as_aux_lemma => kernel_rfl) (by simp) ?_
            refine AllReadyH.cons (arr_at rfl) (fun K hK => ?_) ?_
            ·
              go_simp
              go_at_call 80; refine (HCL.out 12 (by decide) (by decide) (by decide) _ hHeld.1).mono ?_; rintro e w2 ⟨q12, c12, rfl, ho12, hb2⟩
              have hZ := below_row hZ hb2 hZ.lt
              first | have ho8 := own_below ho8 hb2 | have ho8 := own_below (ho8.alloc _) hb2
              first | have ho9 := own_below ho9 hb2 | have ho9 := own_below (ho9.alloc _) hb2
              first | have ho10 := own_below ho10 hb2 | have ho10 := own_below (ho10.alloc _) hb2
              first | have ho11 := own_below ho11 hb2 | have ho11 := own_below (ho11.alloc _) hb2
              try go_wp2_with fail
              refine hK.out _ _ ?_ (fun hNew => ?_)
              · exact HK.out _ (Below.trans hHeld.1 (hb2.mono hHeld.1.size))
              clear hK K hHeld
              have hHeld := hNew
              clear hNew
              clear hb2
              try simp only [Act.put, List.setIfInBounds_toArray, List.set_cons_zero, List.set_cons_succ]
              refine wpAnyH_ready (rs := [33]) (by as_aux_lemma => kernel_rfl) (by simp) ?_
              refine AllReadyH.cons (arr_at rfl) (fun K hK => ?_) ?_
              ·
                go_simp
                go_at_call 80; refine (HCL.out 14 (by decide) (by decide) (by decide) _ hHeld.1).mono ?_; rintro e w2 ⟨q14, c14, rfl, ho14, hb2⟩
                have hZ := below_row hZ hb2 hZ.lt
                first | have ho8 := own_below ho8 hb2 | have ho8 := own_below (ho8.alloc _) hb2
                first | have ho9 := own_below ho9 hb2 | have ho9 := own_below (ho9.alloc _) hb2
                first | have ho10 := own_below ho10 hb2 | have ho10 := own_below (ho10.alloc _) hb2
                first | have ho11 := own_below ho11 hb2 | have ho11 := own_below (ho11.alloc _) hb2
                first | have ho12 := own_below ho12 hb2 | have ho12 := own_below (ho12.alloc _) hb2
                try go_wp2_with fail
                refine hK.out _ _ ?_ (fun hNew => ?_)
                · exact HK.out _ (Below.trans hHeld.1 (hb2.mono hHeld.1.size))
                clear hK K hHeld
                have hHeld := hNew
                clear hNew
                clear hb2
                try simp only [Act.put, List.setIfInBounds_toArray, List.set_cons_zero, List.set_cons_succ]
                refine wpAnyH_ready (rs := [36]) (by as_aux_lemma => kernel_rfl) (by simp) ?_
                refine AllReadyH.cons (arr_at rfl) (fun K hK => ?_) ?_
                ·
                  go_simp
                  go_at_call 80; refine (HCL.out 15 (by decide) (by decide) (by decide) _ hHeld.1).mono ?_; rintro e w2 ⟨q15, c15, rfl, ho15, hb2⟩
                  have hZ := below_row hZ hb2 hZ.lt
                  first | have ho8 := own_below ho8 hb2 | have ho8 := own_below (ho8.alloc _) hb2
                  first | have ho9 := own_below ho9 hb2 | have ho9 := own_below (ho9.alloc _) hb2
                  first | have ho10 := own_below ho10 hb2 | have ho10 := own_below (ho10.alloc _) hb2
                  first | have ho11 := own_below ho11 hb2 | have ho11 := own_below (ho11.alloc _) hb2
                  first | have ho12 := own_below ho12 hb2 | have ho12 := own_below (ho12.alloc _) hb2
                  first | have ho14 := own_below ho14 hb2 | have ho14 := own_below (ho14.alloc _) hb2
                  try go_wp2_with fail
                  refine hK.out _ _ ?_ (fun hNew => ?_)
                  · exact HK.out _ (Below.trans hHeld.1 (hb2.mono hHeld.1.size))
                  clear hK K hHeld
                  have hHeld := hNew
                  clear hNew
                  clear hb2
                  try simp only [Act.put, List.setIfInBounds_toArray, List.set_cons_zero, List.set_cons_succ]
                  refine wpAnyH_ready (rs := [39]) (by as_aux_lemma => kernel_rfl) (by simp) ?_
                  refine AllReadyH.cons (arr_at rfl) (fun K hK => ?_) ?_
                  ·
                    go_simp
                    go_at_call 80; refine (HCL.out 16 (by decide) (by decide) (by decide) _ hHeld.1).mono ?_; rintro e w2 ⟨q16, c16, rfl, ho16, hb2⟩
                    have hZ := below_row hZ hb2 hZ.lt
                    first | have ho8 := own_below ho8 hb2 | have ho8 := own_below (ho8.alloc _) hb2
                    first | have ho9 := own_below ho9 hb2 | have ho9 := own_below (ho9.alloc _) hb2
                    first | have ho10 := own_below ho10 hb2 | have ho10 := own_below (ho10.alloc _) hb2
                    first | have ho11 := own_below ho11 hb2 | have ho11 := own_below (ho11.alloc _) hb2
                    first | have ho12 := own_below ho12 hb2 | have ho12 := own_below (ho12.alloc _) hb2
                    first | have ho14 := own_below ho14 hb2 | have ho14 := own_below (ho14.alloc _) hb2
                    first | have ho15 := own_below ho15 hb2 | have ho15 := own_below (ho15.alloc _) hb2
                    try go_wp2_with fail
                    refine hK.out _ _ ?_ (fun hNew => ?_)
                    · exact HK.out _ (Below.trans hHeld.1 (hb2.mono hHeld.1.size))
                    clear hK K hHeld
                    have hHeld := hNew
                    clear hNew
                    clear hb2
                    try simp only [Act.put, List.setIfInBounds_toArray, List.set_cons_zero, List.set_cons_succ]
                    refine wpAnyH_ready (rs := [42]) (by as_aux_lemma => kernel_rfl) (by simp) ?_
                    refine AllReadyH.cons (arr_at rfl) (fun K hK => ?_) ?_
                    ·
                      go_simp
                      go_at_call 80; refine (HCL.out 17 (by decide) (by decide) (by decide) _ hHeld.1).mono ?_; rintro e w2 ⟨q17, c17, rfl, ho17, hb2⟩
                      have hZ := below_row hZ hb2 hZ.lt
                      first | have ho8 := own_below ho8 hb2 | have ho8 := own_below (ho8.alloc _) hb2
                      first | have ho9 := own_below ho9 hb2 | have ho9 := own_below (ho9.alloc _) hb2
                      first | have ho10 := own_below ho10 hb2 | have ho10 := own_below (ho10.alloc _) hb2
                      first | have ho11 := own_below ho11 hb2 | have ho11 := own_below (ho11.alloc _) hb2
                      first | have ho12 := own_below ho12 hb2 | have ho12 := own_below (ho12.alloc _) hb2
                      first | have ho14 := own_below ho14 hb2 | have ho14 := own_below (ho14.alloc _) hb2
                      first | have ho15 := own_below ho15 hb2 | have ho15 := own_below (ho15.alloc _) hb2
                      first | have ho16 := own_below ho16 hb2 | have ho16 := own_below (ho16.alloc _) hb2
                      try go_wp2_with fail
                      refine hK.out _ _ ?_ (fun hNew => ?_)
                      · exact HK.out _ (Below.trans hHeld.1 (hb2.mono hHeld.1.size))
                      clear hK K hHeld
                      have hHeld := hNew
                      clear hNew
                      clear hb2
                      try simp only [Act.put, List.setIfInBounds_toArray, List.set_cons_zero, List.set_cons_succ]
                      refine wpAnyH_take (i := 43) (v := ?_) (arr_at rfl) (by as_aux_lemma => kernel_rfl) (by as_aux_lemma => kernel_rfl) (by as_aux_lemma => kernel_rfl) (fun _ _ _ h => h) (Or.inl ⟨by rfl, ?_⟩) hHeld ?_
                      rotate_left
                      · intro w hSw
                        (try dsimp only at hSw)
                        go_simp
                        all_goals with_reducible rfl
                      try simp only [Act.put, List.setIfInBounds_toArray, List.set_cons_zero, List.set_cons_succ]
                      refine wpAnyH_ready (rs := [45]) (by as_aux_lemma => kernel_rfl) (by simp) ?_
                      refine AllReadyH.cons (arr_at rfl) (fun K hK => ?_) ?_
                      ·
                        rw [if_pos (by rfl)]
                        refine wp_store_mid 36 _ _ rfl _ 0 _ rfl rfl (rowIs_there hZ 0 18 (by omega)) info36s (by simp [Value.oneCell']) ?_
                        refine hK.out _ _ ?_ (fun hNew => ?_)
                        · exact HK.out _ (Below.grown hHeld.1 (setCells_grown _ _ _ (World.grownBy.refl _ _)) hHeld.1.size (fun k hk => by cases hk; exact hX))
                        clear hK K hHeld
                        have hHeld := hNew
                        clear hNew
                        have hRW := stored36 hHeld.1 hZ
                        have ho8 := keep36 hHeld.1 hZ (by first | exact ho8 | exact ho8.alloc _)
                        have ho9 := keep36 hHeld.1 hZ (by first | exact ho9 | exact ho9.alloc _)
                        have ho10 := keep36 hHeld.1 hZ (by first | exact ho10 | exact ho10.alloc _)
                        have ho11 := keep36 hHeld.1 hZ (by first | exact ho11 | exact ho11.alloc _)
                        have ho12 := keep36 hHeld.1 hZ (by first | exact ho12 | exact ho12.alloc _)
                        have ho14 := keep36 hHeld.1 hZ (by first | exact ho14 | exact ho14.alloc _)
                        have ho15 := keep36 hHeld.1 hZ (by first | exact ho15 | exact ho15.alloc _)
                        have ho16 := keep36 hHeld.1 hZ (by first | exact ho16 | exact ho16.alloc _)
                        have ho17 := keep36 hHeld.1 hZ (by first | exact ho17 | exact ho17.alloc _)
                        try simp only [Act.put]
                        refine wpAnyH_done (by as_aux_lemma => kernel_rfl) ?_ _
                        refine NoPanic.normal ?_
                        as_aux_lemma =>
                          go_wp2_with fail
                          go_meet
                          have hR36 := World.rowIs.congr (g := ruleF (rawOf fr un ct iv l dl wk) t (slV (.slice q8 (n 8) c8) (.slice q9 (n 9) c9) (.slice q10 (n 10) c10) (.slice q11 (n 11) c11) (.slice q12 (n 12) c12) (.slice q14 (n 14) c14) (.slice q15 (n 15) c15) (.slice q16 (n 16) c16) (.slice q17 (n 17) c17)) (.slice none 0 0)) hRW fun j hj => by
                              have ht := HT.out.1
                              have hu2 := HT.out.2
                              have e8 := ((HRO0.out 8 (by decide) (by decide) (by decide)).1); have e9 := ((HRO0.out 9 (by decide) (by decide) (by decide)).1); have e10 := ((HRO0.out 10 (by decide) (by decide) (by decide)).1); have e11 := ((HRO0.out 11 (by decide) (by decide) (by decide)).1); have e12 := ((HRO0.out 12 (by decide) (by decide) (by decide)).1); have e14 := ((HRO0.out 14 (by decide) (by decide) (by decide)).1); have e15 := ((HRO0.out 15 (by decide) (by decide) (by decide)).1); have e16 := ((HRO0.out 16 (by decide) (by decide) (by decide)).1); have e17 := ((HRO0.out 17 (by decide) (by decide) (by decide)).1)
                              have h18 : j = 0 ∨ j = 1 ∨ j = 2 ∨ j = 3 ∨ j = 4 ∨ j = 5 ∨ j = 6 ∨ j = 7 ∨ j = 8 ∨ j = 9 ∨ j = 10 ∨ j = 11 ∨ j = 12 ∨ j = 13 ∨ j = 14 ∨ j = 15 ∨ j = 16 ∨ j = 17 := by omega
                              rcases h18 with h | h | h | h | h | h | h | h | h | h | h | h | h | h | h | h | h | h <;> subst h <;> first | exact congrArg Value.bool hu2 | simp [ruleF, rawOf, slV, slP, slC, optL, ht, ← e8, ← e9, ← e10, ← e11, ← e12, ← e14, ← e15, ← e16, ← e17]
                          have hrows := slV_rows (fr := fr) (un := un) (ct := ct) (iv := iv) (dl := dl) (wk := wk) ho8 ho9 ho10 ho11 ho12 ho14 ho15 ho16 ho17
                          exact ⟨_, (slV (.slice q8 (n 8) c8) (.slice q9 (n 9) c9) (.slice q10 (n 10) c10) (.slice q11 (n 11) c11) (.slice q12 (n 12) c12) (.slice q14 (n 14) c14) (.slice q15 (n 15) c15) (.slice q16 (n 16) c16) (.slice q17 (n 17) c17)), rfl, hX, hR36, hrows.1, slV_off ho8 ho9 ho10 ho11 ho12 ho14 ho15 ho16 ho17 hR36, hrows.2, hHeld.1⟩
                      exact AllReadyH.nil
                    exact AllReadyH.nil
                  exact AllReadyH.nil
                exact AllReadyH.nil
              exact AllReadyH.nil
            exact AllReadyH.nil
          exact AllReadyH.nil
        exact AllReadyH.nil
      exact AllReadyH.nil
    refine AllReadyH.cons (arr_at rfl) (fun K hK => ?_) ?_
    ·
      have hX := hHeld.1.size
      go_simp
      refine hK.out _ _ ?_ (fun hNew => ?_)
      · exact HK.out _ (hHeld.1.alloc hHeld.1.size _)
      clear hK K hHeld
      have hHeld := hNew
      clear hNew
      first | have hZ := of_new36 hHeld.1 | have hZ := of_new36d hHeld.1
      try simp only [Act.put, List.setIfInBounds_toArray, List.set_cons_zero, List.set_cons_succ]
      refine wpAnyH_ready (rs := [21]) (by as_aux_lemma => kernel_rfl) (by simp) ?_
      refine AllReadyH.cons (arr_at rfl) (fun K hK => ?_) ?_
      ·
        go_simp
        go_at_call 80; refine (HCL.out 9 (by decide) (by decide) (by decide) _ hHeld.1).mono ?_; rintro e w2 ⟨q9, c9, rfl, ho9, hb2⟩
        have hZ := below_row hZ hb2 hZ.lt
        first | have ho8 := own_below ho8 hb2 | have ho8 := own_below (ho8.alloc _) hb2
        try go_wp2_with fail
        refine hK.out _ _ ?_ (fun hNew => ?_)
        · exact HK.out _ (Below.trans hHeld.1 (hb2.mono hHeld.1.size))
        clear hK K hHeld
        have hHeld := hNew
        clear hNew
        clear hb2
        try simp only [Act.put, List.setIfInBounds_toArray, List.set_cons_zero, List.set_cons_succ]
        refine wpAnyH_ready (rs := [24]) (by as_aux_lemma => kernel_rfl) (by simp) ?_
        refine AllReadyH.cons (arr_at rfl) (fun K hK => ?_) ?_
        ·
          go_simp
          go_at_call 80; refine (HCL.out 10 (by decide) (by decide) (by decide) _ hHeld.1).mono ?_; rintro e w2 ⟨q10, c10, rfl, ho10, hb2⟩
          have hZ := below_row hZ hb2 hZ.lt
          first | have ho8 := own_below ho8 hb2 | have ho8 := own_below (ho8.alloc _) hb2
          first | have ho9 := own_below ho9 hb2 | have ho9 := own_below (ho9.alloc _) hb2
          try go_wp2_with fail
          refine hK.out _ _ ?_ (fun hNew => ?_)
          · exact HK.out _ (Below.trans hHeld.1 (hb2.mono hHeld.1.size))
          clear hK K hHeld
          have hHeld := hNew
          clear hNew
          clear hb2
          try simp only [Act.put, List.setIfInBounds_toArray, List.set_cons_zero, List.set_cons_succ]
          refine wpAnyH_ready (rs := [27]) (by as_aux_lemma => kernel_rfl) (by simp) ?_
          refine AllReadyH.cons (arr_at rfl) (fun K hK => ?_) ?_
          ·
            go_simp
            go_at_call 80; refine (HCL.out 11 (by decide) (by decide) (by decide) _ hHeld.1).mono ?_; rintro e w2 ⟨q11, c11, rfl, ho11, hb2⟩
            have hZ := below_row hZ hb2 hZ.lt
            first | have ho8 := own_below ho8 hb2 | have ho8 := own_below (ho8.alloc _) hb2
            first | have ho9 := own_below ho9 hb2 | have ho9 := own_below (ho9.alloc _) hb2
            first | have ho10 := own_below ho10 hb2 | have ho10 := own_below (ho10.alloc _) hb2
            try go_wp2_with fail
            refine hK.out _ _ ?_ (fun hNew => ?_)
            · exact HK.out _ (Below.trans hHeld.1 (hb2.mono hHeld.1.size))
            clear hK K hHeld
            have hHeld := hNew
            clear hNew
            clear hb2
            try simp only [Act.put, List.setIfInBounds_toArray, List.set_cons_zero, List.set_cons_succ]
            refine wpAnyH_ready (rs := [30]) (by as_aux_lemma => kernel_rfl) (by simp) ?_
            refine AllReadyH.cons (arr_at rfl) (fun K hK => ?_) ?_
            ·
              go_simp
              go_at_call 80; refine (HCL.out 12 (by decide) (by decide) (by decide) _ hHeld.1).mono ?_; rintro e w2 ⟨q12, c12, rfl, ho12, hb2⟩
              have hZ := below_row hZ hb2 hZ.lt
              first | have ho8 := own_below ho8 hb2 | have ho8 := own_below (ho8.alloc _) hb2
              first | have ho9 := own_below ho9 hb2 | have ho9 := own_below (ho9.alloc _) hb2
              first | have ho10 := own_below ho10 hb2 | have ho10 := own_below (ho10.alloc _) hb2
              first | have ho11 := own_below ho11 hb2 | have ho11 := own_below (ho11.alloc _) hb2
              try go_wp2_with fail
              refine hK.out _ _ ?_ (fun hNew => ?_)
              · exact HK.out _ (Below.trans hHeld.1 (hb2.mono hHeld.1.size))
              clear hK K hHeld
              have hHeld := hNew
              clear hNew
              clear hb2
              try simp only [Act.put, List.setIfInBounds_toArray, List.set_cons_zero, List.set_cons_succ]
              refine wpAnyH_ready (rs := [33]) (by as_aux_lemma => kernel_rfl) (by simp) ?_
              refine AllReadyH.cons (arr_at rfl) (fun K hK => ?_) ?_
              ·
                go_simp
                go_at_call 80; refine (HCL.out 14 (by decide) (by decide) (by decide) _ hHeld.1).mono ?_; rintro e w2 ⟨q14, c14, rfl, ho14, hb2⟩
                have hZ := below_row hZ hb2 hZ.lt
                first | have ho8 := own_below ho8 hb2 | have ho8 := own_below (ho8.alloc _) hb2
                first | have ho9 := own_below ho9 hb2 | have ho9 := own_below (ho9.alloc _) hb2
                first | have ho10 := own_below ho10 hb2 | have ho10 := own_below (ho10.alloc _) hb2
                first | have ho11 := own_below ho11 hb2 | have ho11 := own_below (ho11.alloc _) hb2
                first | have ho12 := own_below ho12 hb2 | have ho12 := own_below (ho12.alloc _) hb2
                try go_wp2_with fail
                refine hK.out _ _ ?_ (fun hNew => ?_)
                · exact HK.out _ (Below.trans hHeld.1 (hb2.mono hHeld.1.size))
                clear hK K hHeld
                have hHeld := hNew
                clear hNew
                clear hb2
                try simp only [Act.put, List.setIfInBounds_toArray, List.set_cons_zero, List.set_cons_succ]
                refine wpAnyH_ready (rs := [36]) (by as_aux_lemma => kernel_rfl) (by simp) ?_
                refine AllReadyH.cons (arr_at rfl) (fun K hK => ?_) ?_
                ·
                  go_simp
                  go_at_call 80; refine (HCL.out 15 (by decide) (by decide) (by decide) _ hHeld.1).mono ?_; rintro e w2 ⟨q15, c15, rfl, ho15, hb2⟩
                  have hZ := below_row hZ hb2 hZ.lt
                  first | have ho8 := own_below ho8 hb2 | have ho8 := own_below (ho8.alloc _) hb2
                  first | have ho9 := own_below ho9 hb2 | have ho9 := own_below (ho9.alloc _) hb2
                  first | have ho10 := own_below ho10 hb2 | have ho10 := own_below (ho10.alloc _) hb2
                  first | have ho11 := own_below ho11 hb2 | have ho11 := own_below (ho11.alloc _) hb2
                  first | have ho12 := own_below ho12 hb2 | have ho12 := own_below (ho12.alloc _) hb2
                  first | have ho14 := own_below ho14 hb2 | have ho14 := own_below (ho14.alloc _) hb2
                  try go_wp2_with fail
                  refine hK.out _ _ ?_ (fun hNew => ?_)
                  · exact HK.out _ (Below.trans hHeld.1 (hb2.mono hHeld.1.size))
                  clear hK K hHeld
                  have hHeld := hNew
                  clear hNew
                  clear hb2
                  try simp only [Act.put, List.setIfInBounds_toArray, List.set_cons_zero, List.set_cons_succ]
                  refine wpAnyH_ready (rs := [39]) (by as_aux_lemma => kernel_rfl) (by simp) ?_
                  refine AllReadyH.cons (arr_at rfl) (fun K hK => ?_) ?_
                  ·
                    go_simp
                    go_at_call 80; refine (HCL.out 16 (by decide) (by decide) (by decide) _ hHeld.1).mono ?_; rintro e w2 ⟨q16, c16, rfl, ho16, hb2⟩
                    have hZ := below_row hZ hb2 hZ.lt
                    first | have ho8 := own_below ho8 hb2 | have ho8 := own_below (ho8.alloc _) hb2
                    first | have ho9 := own_below ho9 hb2 | have ho9 := own_below (ho9.alloc _) hb2
                    first | have ho10 := own_below ho10 hb2 | have ho10 := own_below (ho10.alloc _) hb2
                    first | have ho11 := own_below ho11 hb2 | have ho11 := own_below (ho11.alloc _) hb2
                    first | have ho12 := own_below ho12 hb2 | have ho12 := own_below (ho12.alloc _) hb2
                    first | have ho14 := own_below ho14 hb2 | have ho14 := own_below (ho14.alloc _) hb2
                    first | have ho15 := own_below ho15 hb2 | have ho15 := own_below (ho15.alloc _) hb2
                    try go_wp2_with fail
                    refine hK.out _ _ ?_ (fun hNew => ?_)
                    · exact HK.out _ (Below.trans hHeld.1 (hb2.mono hHeld.1.size))
                    clear hK K hHeld
                    have hHeld := hNew
                    clear hNew
                    clear hb2
                    try simp only [Act.put, List.setIfInBounds_toArray, List.set_cons_zero, List.set_cons_succ]
                    refine wpAnyH_ready (rs := [42]) (by as_aux_lemma => kernel_rfl) (by simp) ?_
                    refine AllReadyH.cons (arr_at rfl) (fun K hK => ?_) ?_
                    ·
                      go_simp
                      go_at_call 80; refine (HCL.out 17 (by decide) (by decide) (by decide) _ hHeld.1).mono ?_; rintro e w2 ⟨q17, c17, rfl, ho17, hb2⟩
                      have hZ := below_row hZ hb2 hZ.lt
                      first | have ho8 := own_below ho8 hb2 | have ho8 := own_below (ho8.alloc _) hb2
                      first | have ho9 := own_below ho9 hb2 | have ho9 := own_below (ho9.alloc _) hb2
                      first | have ho10 := own_below ho10 hb2 | have ho10 := own_below (ho10.alloc _) hb2
                      first | have ho11 := own_below ho11 hb2 | have ho11 := own_below (ho11.alloc _) hb2
                      first | have ho12 := own_below ho12 hb2 | have ho12 := own_below (ho12.alloc _) hb2
                      first | have ho14 := own_below ho14 hb2 | have ho14 := own_below (ho14.alloc _) hb2
                      first | have ho15 := own_below ho15 hb2 | have ho15 := own_below (ho15.alloc _) hb2
                      first | have ho16 := own_below ho16 hb2 | have ho16 := own_below (ho16.alloc _) hb2
                      try go_wp2_with fail
                      refine hK.out _ _ ?_ (fun hNew => ?_)
                      · exact HK.out _ (Below.trans hHeld.1 (hb2.mono hHeld.1.size))
                      clear hK K hHeld
                      have hHeld := hNew
                      clear hNew
                      clear hb2
                      try simp only [Act.put, List.setIfInBounds_toArray, List.set_cons_zero, List.set_cons_succ]
                      refine wpAnyH_take (i := 43) (v := ?_) (arr_at rfl) (by as_aux_lemma => kernel_rfl) (by as_aux_lemma => kernel_rfl) (by as_aux_lemma => kernel_rfl) (fun _ _ _ h => h) (Or.inl ⟨by rfl, ?_⟩) hHeld ?_
                      rotate_left
                      · intro w hSw
                        (try dsimp only at hSw)
                        go_simp
                        all_goals with_reducible rfl
                      try simp only [Act.put, List.setIfInBounds_toArray, List.set_cons_zero, List.set_cons_succ]
                      refine wpAnyH_ready (rs := [45]) (by as_aux_lemma => kernel_rfl) (by simp) ?_
                      refine AllReadyH.cons (arr_at rfl) (fun K hK => ?_) ?_
                      ·
                        rw [if_pos (by rfl)]
                        refine wp_store_mid 36 _ _ rfl _ 0 _ rfl rfl (rowIs_there hZ 0 18 (by omega)) info36s (by simp [Value.oneCell']) ?_
                        refine hK.out _ _ ?_ (fun hNew => ?_)
                        · exact HK.out _ (Below.grown hHeld.1 (setCells_grown _ _ _ (World.grownBy.refl _ _)) hHeld.1.size (fun k hk => by cases hk; exact hX))
                        clear hK K hHeld
                        have hHeld := hNew
                        clear hNew
                        have hRW := stored36 hHeld.1 hZ
                        have ho8 := keep36 hHeld.1 hZ (by first | exact ho8 | exact ho8.alloc _)
                        have ho9 := keep36 hHeld.1 hZ (by first | exact ho9 | exact ho9.alloc _)
                        have ho10 := keep36 hHeld.1 hZ (by first | exact ho10 | exact ho10.alloc _)
                        have ho11 := keep36 hHeld.1 hZ (by first | exact ho11 | exact ho11.alloc _)
                        have ho12 := keep36 hHeld.1 hZ (by first | exact ho12 | exact ho12.alloc _)
                        have ho14 := keep36 hHeld.1 hZ (by first | exact ho14 | exact ho14.alloc _)
                        have ho15 := keep36 hHeld.1 hZ (by first | exact ho15 | exact ho15.alloc _)
                        have ho16 := keep36 hHeld.1 hZ (by first | exact ho16 | exact ho16.alloc _)
                        have ho17 := keep36 hHeld.1 hZ (by first | exact ho17 | exact ho17.alloc _)
                        try simp only [Act.put]
                        refine wpAnyH_done (by as_aux_lemma => kernel_rfl) ?_ _
                        refine NoPanic.normal ?_
                        as_aux_lemma =>
                          go_wp2_with fail
                          go_meet
                          have hR36 := World.rowIs.congr (g := ruleF (rawOf fr un ct iv l dl wk) t (slV (.slice q8 (n 8) c8) (.slice q9 (n 9) c9) (.slice q10 (n 10) c10) (.slice q11 (n 11) c11) (.slice q12 (n 12) c12) (.slice q14 (n 14) c14) (.slice q15 (n 15) c15) (.slice q16 (n 16) c16) (.slice q17 (n 17) c17)) (.slice none 0 0)) hRW fun j hj => by
                              have ht := HT.out.1
                              have hu2 := HT.out.2
                              have e8 := ((HRO0.out 8 (by decide) (by decide) (by decide)).1); have e9 := ((HRO0.out 9 (by decide) (by decide) (by decide)).1); have e10 := ((HRO0.out 10 (by decide) (by decide) (by decide)).1); have e11 := ((HRO0.out 11 (by decide) (by decide) (by decide)).1); have e12 := ((HRO0.out 12 (by decide) (by decide) (by decide)).1); have e14 := ((HRO0.out 14 (by decide) (by decide) (by decide)).1); have e15 := ((HRO0.out 15 (by decide) (by decide) (by decide)).1); have e16 := ((HRO0.out 16 (by decide) (by decide) (by decide)).1); have e17 := ((HRO0.out 17 (by decide) (by decide) (by decide)).1)
                              have h18 : j = 0 ∨ j = 1 ∨ j = 2 ∨ j = 3 ∨ j = 4 ∨ j = 5 ∨ j = 6 ∨ j = 7 ∨ j = 8 ∨ j = 9 ∨ j = 10 ∨ j = 11 ∨ j = 12 ∨ j = 13 ∨ j = 14 ∨ j = 15 ∨ j = 16 ∨ j = 17 := by omega
                              rcases h18 with h | h | h | h | h | h | h | h | h | h | h | h | h | h | h | h | h | h <;> subst h <;> first | exact congrArg Value.bool hu2 | simp [ruleF, rawOf, slV, slP, slC, optL, ht, ← e8, ← e9, ← e10, ← e11, ← e12, ← e14, ← e15, ← e16, ← e17]
                          have hrows := slV_rows (fr := fr) (un := un) (ct := ct) (iv := iv) (dl := dl) (wk := wk) ho8 ho9 ho10 ho11 ho12 ho14 ho15 ho16 ho17
                          exact ⟨_, (slV (.slice q8 (n 8) c8) (.slice q9 (n 9) c9) (.slice q10 (n 10) c10) (.slice q11 (n 11) c11) (.slice q12 (n 12) c12) (.slice q14 (n 14) c14) (.slice q15 (n 15) c15) (.slice q16 (n 16) c16) (.slice q17 (n 17) c17)), rfl, hX, hR36, hrows.1, slV_off ho8 ho9 ho10 ho11 ho12 ho14 ho15 ho16 ho17 hR36, hrows.2, hHeld.1⟩
                      exact AllReadyH.nil
                    exact AllReadyH.nil
                  exact AllReadyH.nil
                exact AllReadyH.nil
              exact AllReadyH.nil
            exact AllReadyH.nil
          exact AllReadyH.nil
        exact AllReadyH.nil
      exact AllReadyH.nil
    exact AllReadyH.nil
  refine AllReadyH.cons (arr_at rfl) (fun K hK => ?_) ?_
  ·
    have hX := hHeld.1.size
    go_simp
    refine hK.out _ _ ?_ (fun hNew => ?_)
    · exact HK.out _ (hHeld.1.alloc hHeld.1.size _)
    clear hK K hHeld
    have hHeld := hNew
    clear hNew
    first | have hZ := of_new36 hHeld.1 | have hZ := of_new36d hHeld.1
    try simp only [Act.put, List.setIfInBounds_toArray, List.set_cons_zero, List.set_cons_succ]
    refine wpAnyH_ready (rs := [18]) (by as_aux_lemma => kernel_rfl) (by simp) ?_
    refine AllReadyH.cons (arr_at rfl) (fun K hK => ?_) ?_
    ·
      go_simp
      go_at_call 80; refine (HCL.out 8 (by decide) (by decide) (by decide) _ hHeld.1).mono ?_; rintro e w2 ⟨q8, c8, rfl, ho8, hb2⟩
      have hZ := below_row hZ hb2 hZ.lt
      try go_wp2_with fail
      refine hK.out _ _ ?_ (fun hNew => ?_)
      · exact HK.out _ (Below.trans hHeld.1 (hb2.mono hHeld.1.size))
      clear hK K hHeld
      have hHeld := hNew
      clear hNew
      clear hb2
      try simp only [Act.put, List.setIfInBounds_toArray, List.set_cons_zero, List.set_cons_succ]
      refine wpAnyH_ready (rs := [21]) (by as_aux_lemma => kernel_rfl) (by simp) ?_
      refine AllReadyH.cons (arr_at rfl) (fun K hK => ?_) ?_
      ·
        go_simp
        go_at_call 80; refine (HCL.out 9 (by decide) (by decide) (by decide) _ hHeld.1).mono ?_; rintro e w2 ⟨q9, c9, rfl, ho9, hb2⟩
        have hZ := below_row hZ hb2 hZ.lt
        first | have ho8 := own_below ho8 hb2 | have ho8 := own_below (ho8.alloc _) hb2
        try go_wp2_with fail
        refine hK.out _ _ ?_ (fun hNew => ?_)
        · exact HK.out _ (Below.trans hHeld.1 (hb2.mono hHeld.1.size))
        clear hK K hHeld
        have hHeld := hNew
        clear hNew
        clear hb2
        try simp only [Act.put, List.setIfInBounds_toArray, List.set_cons_zero, List.set_cons_succ]
        refine wpAnyH_ready (rs := [24]) (by as_aux_lemma => kernel_rfl) (by simp) ?_
        refine AllReadyH.cons (arr_at rfl) (fun K hK => ?_) ?_
        ·
          go_simp
          go_at_call 80; refine (HCL.out 10 (by decide) (by decide) (by decide) _ hHeld.1).mono ?_; rintro e w2 ⟨q10, c10, rfl, ho10, hb2⟩
          have hZ := below_row hZ hb2 hZ.lt
          first | have ho8 := own_below ho8 hb2 | have ho8 := own_below (ho8.alloc _) hb2
          first | have ho9 := own_below ho9 hb2 | have ho9 := own_below (ho9.alloc _) hb2
          try go_wp2_with fail
          refine hK.out _ _ ?_ (fun hNew => ?_)
          · exact HK.out _ (Below.trans hHeld.1 (hb2.mono hHeld.1.size))
          clear hK K hHeld
          have hHeld := hNew
          clear hNew
          clear hb2
          try simp only [Act.put, List.setIfInBounds_toArray, List.set_cons_zero, List.set_cons_succ]
          refine wpAnyH_ready (rs := [27]) (by as_aux_lemma => kernel_rfl) (by simp) ?_
          refine AllReadyH.cons (arr_at rfl) (fun K hK => ?_) ?_
          ·
            go_simp
            go_at_call 80; refine (HCL.out 11 (by decide) (by decide) (by decide) _ hHeld.1).mono ?_; rintro e w2 ⟨q11, c11, rfl, ho11, hb2⟩
            have hZ := below_row hZ hb2 hZ.lt
            first | have ho8 := own_below ho8 hb2 | have ho8 := own_below (ho8.alloc _) hb2
            first | have ho9 := own_below ho9 hb2 | have ho9 := own_below (ho9.alloc _) hb2
            first | have ho10 := own_below ho10 hb2 | have ho10 := own_below (ho10.alloc _) hb2
            try go_wp2_with fail
            refine hK.out _ _ ?_ (fun hNew => ?_)
            · exact HK.out _ (Below.trans hHeld.1 (hb2.mono hHeld.1.size))
            clear hK K hHeld
            have hHeld := hNew
            clear hNew
            clear hb2
            try simp only [Act.put, List.setIfInBounds_toArray, List.set_cons_zero, List.set_cons_succ]
            refine wpAnyH_ready (rs := [30]) (by as_aux_lemma => kernel_rfl) (by simp) ?_
            refine AllReadyH.cons (arr_at rfl) (fun K hK => ?_) ?_
            ·
              go_simp
              go_at_call 80; refine (HCL.out 12 (by decide) (by decide) (by decide) _ hHeld.1).mono ?_; rintro e w2 ⟨q12, c12, rfl, ho12, hb2⟩
              have hZ := below_row hZ hb2 hZ.lt
              first | have ho8 := own_below ho8 hb2 | have ho8 := own_below (ho8.alloc _) hb2
              first | have ho9 := own_below ho9 hb2 | have ho9 := own_below (ho9.alloc _) hb2
              first | have ho10 := own_below ho10 hb2 | have ho10 := own_below (ho10.alloc _) hb2
              first | have ho11 := own_below ho11 hb2 | have ho11 := own_below (ho11.alloc _) hb2
              try go_wp2_with fail
              refine hK.out _ _ ?_ (fun hNew => ?_)
              · exact HK.out _ (Below.trans hHeld.1 (hb2.mono hHeld.1.size))
              clear hK K hHeld
              have hHeld := hNew
              clear hNew
              clear hb2
              try simp only [Act.put, List.setIfInBounds_toArray, List.set_cons_zero, List.set_cons_succ]
              refine wpAnyH_ready (rs := [33]) (by as_aux_lemma => kernel_rfl) (by simp) ?_
              refine AllReadyH.cons (arr_at rfl) (fun K hK => ?_) ?_
              ·
                go_simp
                go_at_call 80; refine (HCL.out 14 (by decide) (by decide) (by decide) _ hHeld.1).mono ?_; rintro e w2 ⟨q14, c14, rfl, ho14, hb2⟩
                have hZ := below_row hZ hb2 hZ.lt
                first | have ho8 := own_below ho8 hb2 | have ho8 := own_below (ho8.alloc _) hb2
                first | have ho9 := own_below ho9 hb2 | have ho9 := own_below (ho9.alloc _) hb2
                first | have ho10 := own_below ho10 hb2 | have ho10 := own_below (ho10.alloc _) hb2
                first | have ho11 := own_below ho11 hb2 | have ho11 := own_below (ho11.alloc _) hb2
                first | have ho12 := own_below ho12 hb2 | have ho12 := own_below (ho12.alloc _) hb2
                try go_wp2_with fail
                refine hK.out _ _ ?_ (fun hNew => ?_)
                · exact HK.out _ (Below.trans hHeld.1 (hb2.mono hHeld.1.size))
                clear hK K hHeld
                have hHeld := hNew
                clear hNew
                clear hb2
                try simp only [Act.put, List.setIfInBounds_toArray, List.set_cons_zero, List.set_cons_succ]
                refine wpAnyH_ready (rs := [36]) (by as_aux_lemma => kernel_rfl) (by simp) ?_
                refine AllReadyH.cons (arr_at rfl) (fun K hK => ?_) ?_
                ·
                  go_simp
                  go_at_call 80; refine (HCL.out 15 (by decide) (by decide) (by decide) _ hHeld.1).mono ?_; rintro e w2 ⟨q15, c15, rfl, ho15, hb2⟩
                  have hZ := below_row hZ hb2 hZ.lt
                  first | have ho8 := own_below ho8 hb2 | have ho8 := own_below (ho8.alloc _) hb2
                  first | have ho9 := own_below ho9 hb2 | have ho9 := own_below (ho9.alloc _) hb2
                  first | have ho10 := own_below ho10 hb2 | have ho10 := own_below (ho10.alloc _) hb2
                  first | have ho11 := own_below ho11 hb2 | have ho11 := own_below (ho11.alloc _) hb2
                  first | have ho12 := own_below ho12 hb2 | have ho12 := own_below (ho12.alloc _) hb2
                  first | have ho14 := own_below ho14 hb2 | have ho14 := own_below (ho14.alloc _) hb2
                  try go_wp2_with fail
                  refine hK.out _ _ ?_ (fun hNew => ?_)
                  · exact HK.out _ (Below.trans hHeld.1 (hb2.mono hHeld.1.size))
                  clear hK K hHeld
                  have hHeld := hNew
                  clear hNew
                  clear hb2
                  try simp only [Act.put, List.setIfInBounds_toArray, List.set_cons_zero, List.set_cons_succ]
                  refine wpAnyH_ready (rs := [39]) (by as_aux_lemma => kernel_rfl) (by simp) ?_
                  refine AllReadyH.cons (arr_at rfl) (fun K hK => ?_) ?_
                  ·
                    go_simp
                    go_at_call 80; refine (HCL.out 16 (by decide) (by decide) (by decide) _ hHeld.1).mono ?_; rintro e w2 ⟨q16, c16, rfl, ho16, hb2⟩
                    have hZ := below_row hZ hb2 hZ.lt
                    first | have ho8 := own_below ho8 hb2 | have ho8 := own_below (ho8.alloc _) hb2
                    first | have ho9 := own_below ho9 hb2 | have ho9 := own_below (ho9.alloc _) hb2
                    first | have ho10 := own_below ho10 hb2 | have ho10 := own_below (ho10.alloc _) hb2
                    first | have ho11 := own_below ho11 hb2 | have ho11 := own_below (ho11.alloc _) hb2
                    first | have ho12 := own_below ho12 hb2 | have ho12 := own_below (ho12.alloc _) hb2
                    first | have ho14 := own_below ho14 hb2 | have ho14 := own_below (ho14.alloc _) hb2
                    first | have ho15 := own_below ho15 hb2 | have ho15 := own_below (ho15.alloc _) hb2
                    try go_wp2_with fail
                    refine hK.out _ _ ?_ (fun hNew => ?_)
                    · exact HK.out _ (Below.trans hHeld.1 (hb2.mono hHeld.1.size))
                    clear hK K hHeld
                    have hHeld := hNew
                    clear hNew
                    clear hb2
                    try simp only [Act.put, List.setIfInBounds_toArray, List.set_cons_zero, List.set_cons_succ]
                    refine wpAnyH_ready (rs := [42]) (by as_aux_lemma => kernel_rfl) (by simp) ?_
                    refine AllReadyH.cons (arr_at rfl) (fun K hK => ?_) ?_
                    ·
                      go_simp
                      go_at_call 80; refine (HCL.out 17 (by decide) (by decide) (by decide) _ hHeld.1).mono ?_; rintro e w2 ⟨q17, c17, rfl, ho17, hb2⟩
                      have hZ := below_row hZ hb2 hZ.lt
                      first | have ho8 := own_below ho8 hb2 | have ho8 := own_below (ho8.alloc _) hb2
                      first | have ho9 := own_below ho9 hb2 | have ho9 := own_below (ho9.alloc _) hb2
                      first | have ho10 := own_below ho10 hb2 | have ho10 := own_below (ho10.alloc _) hb2
                      first | have ho11 := own_below ho11 hb2 | have ho11 := own_below (ho11.alloc _) hb2
                      first | have ho12 := own_below ho12 hb2 | have ho12 := own_below (ho12.alloc _) hb2
                      first | have ho14 := own_below ho14 hb2 | have ho14 := own_below (ho14.alloc _) hb2
                      first | have ho15 := own_below ho15 hb2 | have ho15 := own_below (ho15.alloc _) hb2
                      first | have ho16 := own_below ho16 hb2 | have ho16 := own_below (ho16.alloc _) hb2
                      try go_wp2_with fail
                      refine hK.out _ _ ?_ (fun hNew => ?_)
                      · exact HK.out _ (Below.trans hHeld.1 (hb2.mono hHeld.1.size))
                      clear hK K hHeld
                      have hHeld := hNew
                      clear hNew
                      clear hb2
                      try simp only [Act.put, List.setIfInBounds_toArray, List.set_cons_zero, List.set_cons_succ]
                      refine wpAnyH_take (i := 43) (v := ?_) (arr_at rfl) (by as_aux_lemma => kernel_rfl) (by as_aux_lemma => kernel_rfl) (by as_aux_lemma => kernel_rfl) (fun _ _ _ h => h) (Or.inl ⟨by rfl, ?_⟩) hHeld ?_
                      rotate_left
                      · intro w hSw
                        (try dsimp only at hSw)
                        go_simp
                        all_goals with_reducible rfl
                      try simp only [Act.put, List.setIfInBounds_toArray, List.set_cons_zero, List.set_cons_succ]
                      refine wpAnyH_ready (rs := [45]) (by as_aux_lemma => kernel_rfl) (by simp) ?_
                      refine AllReadyH.cons (arr_at rfl) (fun K hK => ?_) ?_
                      ·
                        rw [if_pos (by rfl)]
                        refine wp_store_mid 36 _ _ rfl _ 0 _ rfl rfl (rowIs_there hZ 0 18 (by omega)) info36s (by simp [Value.oneCell']) ?_
                        refine hK.out _ _ ?_ (fun hNew => ?_)
                        · exact HK.out _ (Below.grown hHeld.1 (setCells_grown _ _ _ (World.grownBy.refl _ _)) hHeld.1.size (fun k hk => by cases hk; exact hX))
                        clear hK K hHeld
                        have hHeld := hNew
                        clear hNew
                        have hRW := stored36 hHeld.1 hZ
                        have ho8 := keep36 hHeld.1 hZ (by first | exact ho8 | exact ho8.alloc _)
                        have ho9 := keep36 hHeld.1 hZ (by first | exact ho9 | exact ho9.alloc _)
                        have ho10 := keep36 hHeld.1 hZ (by first | exact ho10 | exact ho10.alloc _)
                        have ho11 := keep36 hHeld.1 hZ (by first | exact ho11 | exact ho11.alloc _)
                        have ho12 := keep36 hHeld.1 hZ (by first | exact ho12 | exact ho12.alloc _)
                        have ho14 := keep36 hHeld.1 hZ (by first | exact ho14 | exact ho14.alloc _)
                        have ho15 := keep36 hHeld.1 hZ (by first | exact ho15 | exact ho15.alloc _)
                        have ho16 := keep36 hHeld.1 hZ (by first | exact ho16 | exact ho16.alloc _)
                        have ho17 := keep36 hHeld.1 hZ (by first | exact ho17 | exact ho17.alloc _)
                        try simp only [Act.put]
                        refine wpAnyH_done (by as_aux_lemma => kernel_rfl) ?_ _
                        refine NoPanic.normal ?_
                        as_aux_lemma =>
                          go_wp2_with fail
                          go_meet
                          have hR36 := World.rowIs.congr (g := ruleF (rawOf fr un ct iv l dl wk) t (slV (.slice q8 (n 8) c8) (.slice q9 (n 9) c9) (.slice q10 (n 10) c10) (.slice q11 (n 11) c11) (.slice q12 (n 12) c12) (.slice q14 (n 14) c14) (.slice q15 (n 15) c15) (.slice q16 (n 16) c16) (.slice q17 (n 17) c17)) (.slice none 0 0)) hRW fun j hj => by
                              have ht := HT.out.1
                              have hu2 := HT.out.2
                              have e8 := ((HRO0.out 8 (by decide) (by decide) (by decide)).1); have e9 := ((HRO0.out 9 (by decide) (by decide) (by decide)).1); have e10 := ((HRO0.out 10 (by decide) (by decide) (by decide)).1); have e11 := ((HRO0.out 11 (by decide) (by decide) (by decide)).1); have e12 := ((HRO0.out 12 (by decide) (by decide) (by decide)).1); have e14 := ((HRO0.out 14 (by decide) (by decide) (by decide)).1); have e15 := ((HRO0.out 15 (by decide) (by decide) (by decide)).1); have e16 := ((HRO0.out 16 (by decide) (by decide) (by decide)).1); have e17 := ((HRO0.out 17 (by decide) (by decide) (by decide)).1)
                              have h18 : j = 0 ∨ j = 1 ∨ j = 2 ∨ j = 3 ∨ j = 4 ∨ j = 5 ∨ j = 6 ∨ j = 7 ∨ j = 8 ∨ j = 9 ∨ j = 10 ∨ j = 11 ∨ j = 12 ∨ j = 13 ∨ j = 14 ∨ j = 15 ∨ j = 16 ∨ j = 17 := by omega
                              rcases h18 with h | h | h | h | h | h | h | h | h | h | h | h | h | h | h | h | h | h <;> subst h <;> first | exact congrArg Value.bool hu2 | simp [ruleF, rawOf, slV, slP, slC, optL, ht, ← e8, ← e9, ← e10, ← e11, ← e12, ← e14, ← e15, ← e16, ← e17]
                          have hrows := slV_rows (fr := fr) (un := un) (ct := ct) (iv := iv) (dl := dl) (wk := wk) ho8 ho9 ho10 ho11 ho12 ho14 ho15 ho16 ho17
                          exact ⟨_, (slV (.slice q8 (n 8) c8) (.slice q9 (n 9) c9) (.slice q10 (n 10) c10) (.slice q11 (n 11) c11) (.slice q12 (n 12) c12) (.slice q14 (n 14) c14) (.slice q15 (n 15) c15) (.slice q16 (n 16) c16) (.slice q17 (n 17) c17)), rfl, hX, hR36, hrows.1, slV_off ho8 ho9 ho10 ho11 ho12 ho14 ho15 ho16 ho17 hR36, hrows.2, hHeld.1⟩
                      exact AllReadyH.nil
                    exact AllReadyH.nil
                  exact AllReadyH.nil
                exact AllReadyH.nil
              exact AllReadyH.nil
            exact AllReadyH.nil
          exact AllReadyH.nil
        exact AllReadyH.nil
      exact AllReadyH.nil
    exact AllReadyH.nil
  exact AllReadyH.nil
end Go.Proofs.YtnlpjncljbaapaaGreatDoor
