/- laws.FnSetJoined, walked. -/
import Derived.Test.YtnlpjncljbaapaaGreatDoorAg
import Derived.Test.YtnlpjncljbaapaaGreatDoorAw
import Derived.Test.YtnlpjncljbaapaaGreatDoorPk
namespace Go.Proofs.YtnlpjncljbaapaaGreatDoor
open Go.RowKit

theorem wpl_wanted {P : Program} {ops : Array Oper} {rest : List Oper} {o : Oper} {a : Act} {Q : Exit → Act → World → Prop} {w : World} (hw : Region.wanted o (yielded ops a.tmps) = true) (h : wpList P ops Q ({ o with guard := none } :: rest) a w) : wpList P ops Q (o :: rest) a w := by
  unfold wpList at h ⊢
  rw [if_pos hw]
  rw [if_pos (by simp [Region.wanted])] at h
  exact h
theorem RuleTold.below {w w' : World} {S B : Nat} {t : Int} {b : Bool} {f : Nat → Value} {r : Option Opt} (h : RuleTold w S B t b f r) (hb : Below w.heap.size w w') : RuleTold w' S B t b f r := by
  cases r with
  | none => exact h
  | some o =>
    obtain ⟨h1, sl, v, h2, h3, h4, h5⟩ := h
    exact ⟨h1, sl, v, h2, h3.below hb, h4, own_below h5 hb⟩
theorem str_ne_nil {a : List UInt8} (h : 0 < a.length) : ((⟨a.toArray⟩ : ByteArray).toList == []) = false := by
  rw [beq_eq_false_iff_ne]
  intro e
  have := congrArg List.length e
  rw [show (⟨a.toArray⟩ : ByteArray).toList = a from by rw [Lib.toList_data]] at this
  simp at this
  subst this
  simp at h
/-- The lines of a set with its dates on one line each make the set. -/
theorem lines_joined (t : Int) (ls : List (List UInt8)) (its : List Item) (ht : 0 < t ∧ t < 315537897600) (hla : LinesAre ls its) (hf : ∀ (k : Nat) o, its[k]? = some (.rule o) → k = 0) (hbad : Item.bad ∉ its) (hn : ls.length ≤ 100) (W : World) (hG : Glob W) (v : Value) (base m : Nat) (hm : m = ls.length + 1)
    (hown : W.ownsRow base 9 1 v m (strVs (dtL t :: ls))) (hr : ∀ o, ruleIn its = some o → (0 ≤ o.freq ∧ o.freq ≤ 6) ∧ o.days.length ≤ 1000) (h1 : (datesOf true its).length ≤ 1000) (h2 : (datesOf false its).length ≤ 1000) :
    Calls Tryz.prog 12 #[v] W fun e w' => GivesSet2 t (ruleIn its) (datesOf true its) (datesOf false its) W e w' := by
  subst hm
  rcases hown.2 with ⟨_, h0⟩ | ⟨g, cap, cur, rfl, hg, hh, hcap, _⟩
  · omega
  refine parseLines_ok _ t its W (fun W2 h2 => ?_) hr h1 h2
  have hgl : g < W.heap.size := (Array.getElem?_eq_some_iff.1 hh).1
  have hst : StrsAt W g (dtL t :: ls) := StrsAt.of_own hown
  have := lines_any ls its (dtL t) ⟨(dateL t).toArray⟩ t g cap W2 (hG.on h2) (hst.below h2 hgl) (Nat.lt_of_lt_of_le hgl h2.size) (by omega) (by omega)
    (dt_named t) ht (fun W => dtStart_ok t W (by omega) ht.2) hla.1.symm hla.2 (fun j k o o' h1 h2 => (hf j o h1).trans (hf k o' h2).symm)
  exact this.mono fun e w' h => h.2 hbad
theorem commaL_pos (D : List Int) (h : D ≠ []) : 0 < (commaL D).length := by
  cases D with
  | nil => exact absurd rfl h
  | cons a r =>
    have ha := dateL_len a
    cases r with
    | nil => show 0 < (dateL a).length; omega
    | cons b r => show 0 < (dateL a ++ 44 :: joinC 44 ((b :: r).map dateL)).length; rw [List.length_append, List.length_cons]; omega
/-- One of two. -/
def pk {α : Type} (a b : α) (k : Nat) : α := if k = 0 then a else b
def nmR : List UInt8 := [82, 68, 65, 84, 69, 58]
def nmX : List UInt8 := [69, 88, 68, 65, 84, 69, 58]
def lnJ (rds exs : List Int) (k : Nat) : List (List UInt8) := (if 1 ≤ k then optD true rds else []) ++ (if 2 ≤ k then optD false exs else [])
theorem lnJ_len (rds exs : List Int) (k : Nat) : (lnJ rds exs k).length ≤ 2 := by
  have h1 := optD_len true rds
  have h2 := optD_len false exs
  unfold lnJ
  rw [List.length_append]
  split <;> split <;> simp <;> omega
theorem lnJ_none (rds exs : List Int) (k : Nat) (hk : k < 2) (h : pk rds exs k = []) : lnJ rds exs (k + 1) = lnJ rds exs k := by
  have hk : k = 0 ∨ k = 1 := by omega
  rcases hk with rfl | rfl
  · have h : rds = [] := h
    simp [lnJ, optD, h]
  · have h : exs = [] := h
    simp [lnJ, optD, h]
theorem lnJ_some (rds exs : List Int) (k : Nat) (hk : k < 2) (h : pk rds exs k ≠ []) : lnJ rds exs (k + 1) = lnJ rds exs k ++ [pk nmR nmX k ++ commaL (pk rds exs k)] := by
  have hk : k = 0 ∨ k = 1 := by omega
  rcases hk with rfl | rfl
  · have h : rds ≠ [] := h
    simp [lnJ, optD, h, pk, nmR, rdsL]
  · have h : exs ≠ [] := h
    simp [lnJ, optD, h, pk, nmX, exsL]
section
variable {t : Int} {hr : Bool} {fr : Nat} {hs : Bool} {st iv wk ct : Int} {hu : Bool} {un : Int} {p : Nat → Option Addr} {n c : Nat → Nat} {pr : Option Addr} {nr cr : Nat} {px : Option Addr} {nx cx : Nat} {l : Nat → List Int} {dl : List (Int × Int)} {rds exs : List Int} {f : Nat → Value}
theorem says_cells (h : TextSays t hr fr hs st iv wk ct hu un p n c pr nr cr px nx cx l dl rds exs f) : f 20 = .slice pr nr cr ∧ f 21 = .slice px nx cx := by
  cases hr with
  | false => exact ⟨h.2.2.2.2.2 rfl 20 (by omega), h.2.2.2.2.2 rfl 21 (by omega)⟩
  | true => exact ⟨(h.2.2.2.2.1 rfl).2.2 20 (by omega), (h.2.2.2.2.1 rfl).2.2 21 (by omega)⟩
theorem says_good (h : TextSays t hr fr hs st iv wk ct hu un p n c pr nr cr px nx cx l dl rds exs f) (o : Opt) (ho : (if hr then some (opOf fr hu un ct iv l dl wk) else none) = some o) : (0 ≤ o.freq ∧ o.freq ≤ 6) ∧ o.days.length ≤ 1000 := by
  cases hr with
  | false => cases ho
  | true =>
    cases ho
    have hS := clean_small (wk := wk) (h.2.2.2.2.1 rfl).1 (unOf hu un) fun e => unOf_at e
    exact ⟨⟨by show (0 : Int) ≤ (fr : Int); omega, by show (fr : Int) ≤ 6; have := hS.fr; omega⟩, by have := hS.dl.1; show dl.length ≤ 1000; omega⟩
end
set_option maxRecDepth 100000 in
set_option maxHeartbeats 16000000 in
theorem law_joined (t : Int) (hr : Bool) (fr : Nat) (hs : Bool) (st iv wk ct : Int) (hu : Bool) (un : Int) (p : Nat → Option Addr) (n c : Nat → Nat) (pr : Option Addr) (nr cr : Nat) (px : Option Addr) (nx cx : Nat) (l : Nat → List Int) (dl : List (Int × Int)) (rds exs : List Int) (w : World) (hG : Glob w)
    (h : SetIn w p n c pr nr cr px nx cx l dl rds exs) :
    Calls Tryz.prog 4 #[.agg (sSetC t hr fr hs st iv wk ct hu un p n c pr nr cr px nx cx)] w fun e w' => e = .returned (.bool true) ∧ Below w.heap.size w w' := by
  have hB := below_a1 (w := w) (o := .cells (sSetC t hr fr hs st iv wk ct hu un p n c pr nr cr px nx cx) 28)
  have hR := sSet_at t hr fr hs st iv wk ct hu un p n c pr nr cr px nx cx w
  have HRC := Lib.hid (sSetF_row t hr fr hs st iv wk ct hu un p n c pr nr cr px nx cx)
  have HF := Lib.hid fun W : World => fits2_any t hr fr hs st iv wk ct hu un p n c pr nr cr px nx cx W
  have HAW := Lib.hid fun (W : World) (hW : Below w.heap.size w W) => awake_any W (hG.on hW)
  have HIN := Lib.hid h
  have HG := Lib.hid hG
  obtain ⟨d8, hud8⟩ := Go.Proofs.YtnlpjncljbaapaaGreatDoor.u28
  have HU8 := Lib.hid hud8
  obtain ⟨d38, hud38⟩ := Go.Proofs.YtnlpjncljbaapaaGreatDoor.u38
  have HU38 := Lib.hid hud38
  clear hud8 hud38 h hG
  go_enter Tryz.func4, Tryz.ntmps4
  unfold sSetC at *
  go_upto_region 1 with fail
  generalize hw1 : w.alloc (.cells #[_, _, _, _, _, _, _, _, _, _, _, _, _, _, _, _, _, _, _, _, _, _] 28) = w1 at *
  have HB := Lib.hid hB
  have HR := Lib.hid hR
  clear hw1 hB hR
  go_wp2_with ((with_reducible refine gd_load 28 ?_); refine wpl_load_row0 rfl 28 _ rfl w.heap.size 28 22 22 _ rfl HR.out (by decide) d8 HU8.out.1 HU8.out.2 info28s ?_; rw [HRC.out])
  refine (HF.out _).mono ?_; rintro e w2 ⟨⟨b, rfl, hfit⟩, hb2⟩
  have HB2 := Lib.hid (HB.out.trans (hb2.mono HB.out.size))
  have HR2 := Lib.hid (below_row HR.out hb2 HR.out.lt)
  clear hb2
  cases b with
  | false => go_wp2_with fail; go_ret; exact ⟨rfl, HB2.out⟩
  | true =>
  obtain ⟨hn, hnr, hnx⟩ := hfit rfl
  have HT := Lib.hid fun (W : World) (hW : Below w.heap.size w W) => textSet_any t hr fr hs st iv wk ct hu un p n c pr nr cr px nx cx l dl rds exs W (fun k a b e => (HIN.out.ro k a b e).below hW) (HIN.out.rd.below hW) hn HIN.out.nc (HIN.out.rr.below hW) (HIN.out.rx.below hW) hnr hnx HIN.out.px
  have HN := Lib.hid hn
  clear hfit hn
  unfold sSetC at HT
  go_wp2_with ((with_reducible refine gd_load 28 ?_); refine wpl_load_row0 rfl 28 _ rfl w.heap.size 28 22 22 _ rfl HR2.out (by decide) d8 HU8.out.1 HU8.out.2 info28s ?_; rw [HRC.out])
  refine (HT.out _ HB2.out).mono ?_; rintro e w3 ⟨f, b, rfl, hone, hsay, hb3⟩
  have HB3 := Lib.hid (HB2.out.trans (hb3.mono HB2.out.size))
  have HR3 := Lib.hid (below_row HR2.out hb3 HR2.out.lt)
  have HONE := Lib.hid hone
  have HSAY := Lib.hid hsay
  clear hb3 hone hsay
  cases b with
  | false =>
    go_wp2_with ((with_reducible refine gd_store 28 ?_); refine wpl_store_row rfl 28 _ _ rfl w.heap.size 0 28 22 _ (rowA 22 f) rfl rfl HR3.out (by simp [rowA_size]) (by rw [info28s, rowA_size]) (rowA_all HONE.out) ?_; intro w4 hR4 hg4)
    have HB4 := Lib.hid (HB3.out.grown hg4 HB3.out.size (fun k hk => by cases hk; exact Nat.le_refl _))
    refine (HAW.out _ HB4.out).mono ?_; rintro e w5 ⟨rfl, hb5⟩
    go_wp2_with fail
    go_ret
    exact ⟨rfl, HB4.out.trans (hb5.mono HB4.out.size)⟩
  | true =>
  have HS := Lib.hid (HSAY.out rfl)
  clear HSAY
  go_upto_region 4 with ((with_reducible refine gd_store 28 ?_); refine wpl_store_row rfl 28 _ _ rfl w.heap.size 0 28 22 _ (rowA 22 f) rfl rfl HR3.out (by simp [rowA_size]) (by rw [info28s, rowA_size]) (rowA_all HONE.out) ?_; intro w4 hR4 hg4)
  have HB4 := Lib.hid (HB3.out.grown hg4 HB3.out.size (fun k hk => by cases hk; exact Nat.le_refl _))
  have HR4 := Lib.hid (show w4.rowIs w.heap.size 28 22 f from hR4.congr fun i hi => by
    unfold updR
    rw [if_pos ⟨Nat.zero_le _, by rw [rowA_size]; omega⟩, Nat.sub_zero, rowA_get hi]
    rfl)
  have hw4 : w.heap.size < w4.heap.size := HR4.out.lt
  clear hR4 hg4 HR HR2 HR3 HB2 HB3 HT HN HF HRC
  have x20 : w4.cell? ⟨w.heap.size, 20, none⟩ = some (.slice pr nr cr) := by rw [← (says_cells HS.out).1]; exact HR4.out.cell (i := 20) (by omega)
  have x21 : w4.cell? ⟨w.heap.size, 21, none⟩ = some (.slice px nx cx) := by rw [← (says_cells HS.out).2]; exact HR4.out.cell (i := 21) (by omega)
  have h12 : nr ≤ 12 ∧ nx ≤ 12 := ⟨HS.out.2.1, HS.out.2.2.1⟩
  have hn12 := h12.1
  have hx12 := h12.2
  clear h12
  by_cases h0 : nr + nx = 0
  · have h0i : (nr : Int) + (nx : Int) = 0 := by omega
    go_wp2_with fail
    refine (HAW.out _ HB4.out).mono ?_; rintro e w5 ⟨rfl, hb5⟩
    go_wp2_with fail
    go_ret
    exact ⟨rfl, HB4.out.trans (hb5.mono HB4.out.size)⟩
  have h0i : ¬ (nr : Int) + (nx : Int) = 0 := by omega
  go_upto_region 7 with (first
    | ((with_reducible refine gd_load 28 ?_); refine wpl_load_row0 rfl 28 _ rfl w.heap.size 28 22 22 _ rfl HR4.out (by decide) d8 HU8.out.1 HU8.out.2 info28s ?_)
    | ((with_reducible refine gd_store 28 ?_); refine wpl_store_last rfl 28 _ _ rfl _ (rowA 22 f) rfl rfl (by rw [info28s, rowA_size]) (by rw [rowA_size]; rfl) (rowA_all HONE.out) ?_))
  generalize hw5 : w4.alloc (.cells (rowA 22 f) 28) = w5 at *
  have hR5 : w5.rowIs w4.heap.size 28 22 f := by rw [← hw5]; exact rowA_at 28 22 f w4
  have hB5 : Below w4.heap.size w4 w5 := by rw [← hw5]; exact below_a1
  have y20 := hR5.cell (i := 20) (by omega)
  have y21 := hR5.cell (i := 21) (by omega)
  have fz20 := hR5.frozen 20
  have fz21 := hR5.frozen 21
  have X20 := Lib.hid x20
  have X21 := Lib.hid x21
  clear hw5 x20 x21
  go_upto_region 8 with fail
  generalize hw6 : (w5.setCell ⟨w4.heap.size, 20, none⟩ _).setCell ⟨w4.heap.size, 21, none⟩ _ = w6 at *
  obtain ⟨F, hF⟩ : ∃ F : Nat → Value, F = fun j => if j = 21 then .slice none 0 0 else if j = 20 then .slice none 0 0 else f j := ⟨_, rfl⟩
  have HR6 := Lib.hid (show w6.rowIs w4.heap.size 28 22 F by rw [← hw6, hF]; exact (hR5.set 20 _).set 21 _)
  have HB6 := Lib.hid (show Below w4.heap.size w4 w6 by rw [← hw6]; exact (hB5.setCell (Nat.le_refl _) _).setCell (Nat.le_refl _) _)
  have hin0 : SetIn w p n c none 0 0 none 0 0 l dl [] [] := ⟨HIN.out.ro, HIN.out.rd, HIN.out.nc, ⟨rfl, fun i x hx => by simp at hx⟩, ⟨rfl, fun i x hx => by simp at hx⟩, fun _ => rfl⟩
  have hsb : TextSays t hr fr hs st iv wk ct hu un p n c none 0 0 none 0 0 l dl [] [] F := says_bare HS.out (fun i _ => by rw [hF])
  have HC13 := Lib.hid fun (W : World) (hW : Below w.heap.size w W) => texts_any W (HG.out.on hW) (hin0.below hW) hsb
  clear hw6 hR5 hB5 y20 y21 fz20 fz21 hF hin0 hsb
  go_wp2_with ((with_reducible refine gd_load 28 ?_); refine wpl_load_row0 rfl 28 _ rfl w4.heap.size 28 22 22 _ rfl HR6.out (by decide) d8 HU8.out.1 HU8.out.2 info28s ?_)
  refine (HC13.out _ (HB4.out.trans (HB6.out.mono HB4.out.size))).mono ?_; rintro e w7 ⟨B7, v7, m7, rfl, hB7, hown, hm7, hb7⟩
  have h67 := HB6.out.size
  have HO7 := Lib.hid (Joins.ownsRow_le hown (show w4.heap.size ≤ B7 by omega))
  have HV7 := Lib.hid (show v7.ownBlock ≠ some w7.heap.size from fun e => by have := (hown.lt _ e).2; omega)
  have HB7 := Lib.hid (HB6.out.trans (hb7.mono HB6.out.size))
  have HM7 := Lib.hid hm7
  obtain ⟨L0, hL0⟩ : ∃ L0, L0 = setLines t hr (txOf fr hu un ct iv l dl wk) [] [] := ⟨_, rfl⟩
  rw [← hL0] at HO7 HM7
  have HL0 := Lib.hid hL0
  have hl0 : L0.length ≤ 2 := by rw [hL0, setLines_cons, List.length_cons]; have := opt1_len hr (rrL (txOf fr hu un ct iv l dl wk)); simp [restL]; omega
  have hw7 : w4.heap.size ≤ w7.heap.size := HB7.out.size
  clear hown hm7 hb7 hB7 hL0 HR6 HC13 h67
  have x20 : w7.cell? ⟨w.heap.size, 20, none⟩ = some (.slice pr nr cr) := (HB7.out.cell (p := ⟨w.heap.size, 20, none⟩) hw4).trans X20.out
  have x21 : w7.cell? ⟨w.heap.size, 21, none⟩ = some (.slice px nx cx) := (HB7.out.cell (p := ⟨w.heap.size, 21, none⟩) hw4).trans X21.out
  go_wp2_with fail
  clear x20 x21
  generalize hw8 : w7.alloc (.cells #[_, _, _, _] 44) = w8 at *
  have HC8 := Lib.hid (show ∀ k, k < 2 → w8.cell? ⟨w7.heap.size, k * 2, none⟩ = some (.string ⟨(pk nmR nmX k).toArray⟩) ∧ w8.cell? ⟨w7.heap.size, k * 2 + 1, none⟩ = some (.slice (pk pr px k) (pk nr nx k) (pk cr cx k)) from fun k hk => by
    rw [← hw8]
    have hk : k = 0 ∨ k = 1 := by omega
    rcases hk with rfl | rfl <;> exact ⟨cell_new rfl, cell_new rfl⟩)
  have HB8 := Lib.hid (show Below w4.heap.size w4 w8 by rw [← hw8]; exact HB7.out.alloc hw7 _)
  have HO8 := Lib.hid (show w8.ownsRow w4.heap.size 9 1 v7 m7 (strVs L0) by rw [← hw8]; exact HO7.out.alloc _)
  have hG8 : w7.heap.size < w8.heap.size := by rw [← hw8]; simp
  obtain ⟨G, hG⟩ : ∃ G, G = w7.heap.size := ⟨_, rfl⟩
  obtain ⟨A, hA⟩ : ∃ A, A = w4.heap.size := ⟨_, rfl⟩
  rw [← hG] at HC8 HV7 hG8 hw7 ⊢
  rw [← hA] at HO8 HB8 hw7 hw4
  clear hw8 HO7 HB7 HB6
  have HGe := Lib.hid hG
  have HAe := Lib.hid hA
  clear hG hA
  go_loopw [5, 7, 8, 9, 10, 47] (fun v5 _ _ _ _ v47 wr => ∃ k : Nat, k ≤ 2 ∧ v47 = .int .i64 k ∧ Hid (∃ m, (L0 ++ lnJ rds exs k).length = m ∧ wr.ownsRow A 9 1 v5 m (strVs (L0 ++ lnJ rds exs k))) ∧ Hid (v5.ownBlock ≠ some G) ∧ Hid (∀ k, k < 2 → wr.cell? ⟨G, k * 2, none⟩ = some (.string ⟨(pk nmR nmX k).toArray⟩) ∧ wr.cell? ⟨G, k * 2 + 1, none⟩ = some (.slice (pk pr px k) (pk nr nx k) (pk cr cx k))) ∧ Hid (Below A w4 wr) ∧ G < wr.heap.size) (fun _ _ _ _ _ v47 _ => 2 - (intOf v47).toNat)
  case atStart => exact ⟨0, by omega, rfl, ⟨m7, by rw [← HM7.out]; simp [lnJ], by simpa [lnJ] using HO8.out⟩, HV7, HC8, HB8, hG8⟩
  case round =>
    clear HC8 HB8 HO8 HV7 HM7 hG8
    obtain ⟨k, hk, rfl, HO, HV, HC, HBr, hGr⟩ := hrel
    have hBw : Below w.heap.size w wr := HB4.out.trans (HBr.out.mono (by rw [HAe.out]; exact HB4.out.size))
    by_cases hk2 : k < 2
    · obtain ⟨c0, c1⟩ := HC.out k hk2
      obtain ⟨nm, hnm⟩ : ∃ nm : ByteArray, nm = ⟨(pk nmR nmX k).toArray⟩ := ⟨_, rfl⟩
      obtain ⟨q, hq⟩ : ∃ q, q = pk pr px k := ⟨_, rfl⟩
      obtain ⟨N, hN⟩ : ∃ N, N = pk nr nx k := ⟨_, rfl⟩
      obtain ⟨cc, hcc⟩ : ∃ cc, cc = pk cr cx k := ⟨_, rfl⟩
      obtain ⟨D, hD⟩ : ∃ D, D = pk rds exs k := ⟨_, rfl⟩
      have hk01 : k = 0 ∨ k = 1 := by omega
      have HROW := Lib.hid (show RowO w q N D by rw [hq, hN, hD]; rcases hk01 with h | h <;> subst h; exact HIN.out.rr; exact HIN.out.rx)
      have HOKD := Lib.hid (show DateOk D by rw [hD]; rcases hk01 with h | h <;> subst h; exact (says_dates HS.out).1; exact (says_dates HS.out).2)
      have hN12 : N ≤ 12 := by rw [hN]; rcases hk01 with h | h <;> subst h; exact hn12; exact hx12
      have hnms : nm.size ≤ 7 := by rw [hnm, Lib.size_eq]; rcases hk01 with h | h <;> subst h <;> decide
      have HNM := Lib.hid hnm
      have HDe := Lib.hid hD
      rw [← hnm] at c0
      rw [← hq, ← hN, ← hcc] at c1
      have hki : (k : Int) < 2 := by omega
      have hkj : (0 : Int) ≤ (k : Int) := by omega
      have hk78 : (k : Int) < ((2 : Nat) : Int) := by omega
      clear hnm hq hN hcc hD hk01
      go_wp2_with fail
      generalize hwb : wr.alloc (.cells #[_, _] 44) = wb at *
      have cb0 : wb.cell? ⟨wr.heap.size, 0, none⟩ = some (.string nm) := by rw [← hwb]; exact cell_new rfl
      have hbz : wr.heap.size < wb.heap.size := by rw [← hwb]; simp
      have HB1 := Lib.hid (show Below wr.heap.size wr wb by rw [← hwb]; exact below_a1)
      clear c0 c1 hwb
      obtain ⟨wo, hwo⟩ : ∃ x, x = wr := ⟨_, rfl⟩
      subst hwo
      go_loopw [8, 9, 10, 54] (fun u _ _ v54 wi => ∃ (j : Nat) (s : ByteArray), j ≤ N ∧ v54 = .int .i64 j ∧ u = .string s ∧ s.size ≤ 17 * j ∧ Hid (s = ⟨(commaL (D.take j)).toArray⟩) ∧ Hid (Below wb.heap.size wb wi)) (fun _ _ _ v54 _ => N - (intOf v54).toNat)
      case atStart => exact ⟨0, ⟨#[]⟩, Nat.zero_le _, rfl, rfl, by decide, Lib.hid rfl, Lib.hid (Below.refl _ _)⟩
      case round =>
        obtain ⟨j, s, hj, rfl, rfl, hs, HSt, HBi⟩ := hrel
        have HBj := Lib.hid (HB1.out.trans (HBi.out.mono (Nat.le_of_lt hbz)))
        have hbw : Below w.heap.size w wr := hBw.trans (HBj.out.mono hBw.size)
        by_cases hjn : j < N
        · have hjl : j < D.length := by have := HROW.out.1; omega
          obtain ⟨g, o, rfl, hg, hc⟩ := HROW.out.2 j _ (List.getElem?_eq_getElem hjl)
          have hc := (hbw.cell (p := ⟨g, o + j, none⟩) hg).trans hc
          have HJ := Lib.hid (List.getElem?_eq_getElem hjl)
          have HXj := Lib.hid (HOKD.out _ (List.getElem_mem hjl))
          have HD := Lib.hid (dateText_any D[j] HXj.out.1 HXj.out.2 wr (HG.out.on hbw))
          have hds : (⟨(dateL D[j]).toArray⟩ : ByteArray).size = 16 := rfl
          obtain ⟨z, hz⟩ : ∃ z : ByteArray, z = ⟨(dateL D[j]).toArray⟩ := ⟨_, rfl⟩
          rw [← hz] at HD hds
          have HZ := Lib.hid hz
          generalize D[j] = x at *
          have hji : (j : Int) < (N : Int) := by omega
          have hj0' : (0 : Int) ≤ (j : Int) := by omega
          clear hz hbw HXj
          by_cases hj0 : 0 < j
          · have hj0i : (0 : Int) < (j : Int) := by omega
            have hov : ¬ 9223372036854775807 < s.size + 1 := by omega
            have hov2 : ¬ 9223372036854775807 < s.size + 1 + z.size := by omega
            go_wp2_with fail
            refine HD.out.mono ?_; rintro e w2 ⟨rfl, hb2⟩
            have HB2 := Lib.hid (HBi.out.trans (hb2.mono HBi.out.size))
            clear hb2
            go_wp2_with fail
            go_roundw
            case rel =>
              refine ⟨j + 1, _, by omega, by go_num, rfl, ?_, Lib.hid ?_, HB2⟩
              · simp only [ByteArray.size_append]
                have : (⟨#[44]⟩ : ByteArray).size = 1 := rfl
                omega
              · rw [HSt.out, HZ.out]
                unfold commaL
                rw [bs_app, map_take _ HJ.out, joinC_snoc, if_neg (take_ne _ HJ.out hj0)]
            case measure => simp [intOf]; omega
          · have hj0' : j = 0 := by omega
            subst hj0'
            rw [Nat.add_zero] at hc
            have hs0 : s = ⟨#[]⟩ := by rw [HSt.out]; rfl
            subst hs0
            go_wp2_with fail
            refine HD.out.mono ?_; rintro e w2 ⟨rfl, hb2⟩
            have HB2 := Lib.hid (HBi.out.trans (hb2.mono HBi.out.size))
            clear hb2
            go_wp2_with fail
            go_roundw
            case rel =>
              refine ⟨1, _, by omega, by go_num, rfl, ?_, Lib.hid ?_, HB2⟩
              · simp only [ByteArray.size_append]
                have : (⟨#[]⟩ : ByteArray).size = 0 := rfl
                omega
              · rw [HZ.out]
                unfold commaL
                rw [map_take _ HJ.out]
                apply ByteArray.ext
                simp [joinC]
            case measure => simp [intOf]; omega
        · obtain rfl : j = N := by omega
          have hDN : D.take j = D := List.take_of_length_le (by have := HROW.out.1; omega)
          rw [hDN] at HSt
          obtain ⟨m, hm, hown⟩ := HO.out
          have HOi := Lib.hid (own_below (own_below hown HB1.out) HBi.out)
          have HCi := Lib.hid (show ∀ k, k < 2 → wr.cell? ⟨G, k * 2, none⟩ = some (.string ⟨(pk nmR nmX k).toArray⟩) ∧ wr.cell? ⟨G, k * 2 + 1, none⟩ = some (.slice (pk pr px k) (pk nr nx k) (pk cr cx k)) from fun k hk => ⟨(HBj.out.cell (p := ⟨G, k * 2, none⟩) hGr).trans (HC.out k hk).1, (HBj.out.cell (p := ⟨G, k * 2 + 1, none⟩) hGr).trans (HC.out k hk).2⟩)
          have hAr : A ≤ wo.heap.size := by have := HBr.out.size; rw [HAe.out]; exact this
          have HBAi := Lib.hid (HBr.out.trans (HBj.out.mono hAr))
          have hGi : G < wr.heap.size := Nat.lt_of_lt_of_le hGr HBj.out.size
          have hAi : A ≤ wr.heap.size := Nat.le_trans hAr HBj.out.size
          have hnj : ¬ (j : Int) < (j : Int) := by omega
          have ci0 : wr.cell? ⟨wo.heap.size, 0, none⟩ = some (.string nm) := (HBi.out.cell (p := ⟨wo.heap.size, 0, none⟩) hbz).trans cb0
          have hm4 : m ≤ 4 := by have := lnJ_len rds exs k; rw [← hm, List.length_append]; omega
          clear hown hDN hbw
          by_cases hD0 : D = []
          · have hs0 : s = ⟨#[]⟩ := by rw [HSt.out, hD0]; rfl
            subst hs0
            go_wp2_with fail
            go_roundw
            case rel => exact ⟨k + 1, by omega, by go_num, Lib.hid ⟨m, by rw [lnJ_none rds exs k hk2 (by rw [← HDe.out]; exact hD0)]; exact hm, by rw [lnJ_none rds exs k hk2 (by rw [← HDe.out]; exact hD0)]; exact HOi.out⟩, HV, HCi, HBAi, hGi⟩
            case measure => simp [intOf]; omega
          · have hsn : (s.toList == []) = false := by
              rw [HSt.out]
              exact str_ne_nil (commaL_pos D hD0)
            have hsn2 : ¬ s.toList = [] := by rw [← ne_eq, ← beq_eq_false_iff_ne]; exact hsn
            have hov : ¬ 9223372036854775807 < nm.size + s.size := by omega
            go_wp2_with (at_builtin; refine app_own A rfl _ _ 41 9 (.string ⟨#[]⟩) 1 16 rfl Tryz.underlying41 info9 rfl (by decide) (by decide) _ _ _ [.string (nm ++ s)] (by rfl) (by rfl) rfl (by simp [Value.oneCell']) HOi.out hAi (by omega) ?_)
            intro g5 cap5 w5 hown5 hg5 hg5l hcap5 hgrow hat5
            have e : (nm ++ s : ByteArray) = ⟨(pk nmR nmX k ++ commaL (pk rds exs k)).toArray⟩ := by
              rw [HNM.out, HSt.out, HDe.out]
              apply ByteArray.ext
              simp
            rw [e, ← strVs_snoc] at hown5
            have HO5 := Lib.hid hown5
            have HB5 := Lib.hid (HBAi.out.grown hgrow hAi (fun i hi => own_base HOi.out i hi))
            have HC5 := Lib.hid (show ∀ k, k < 2 → w5.cell? ⟨G, k * 2, none⟩ = some (.string ⟨(pk nmR nmX k).toArray⟩) ∧ w5.cell? ⟨G, k * 2 + 1, none⟩ = some (.slice (pk pr px k) (pk nr nx k) (pk cr cx k)) from fun k hk => by
              have hbl := hgrow.block G hGi (fun e => HV.out e.symm)
              exact ⟨(World.cell?_of_block hbl).trans (HCi.out k hk).1, (World.cell?_of_block hbl).trans (HCi.out k hk).2⟩)
            have HV5 := Lib.hid (show (Value.slice (some ⟨g5, 0, none⟩) (m + 1) cap5).ownBlock ≠ some G from fun e => by
              have e : g5 = G := by injection e
              rcases hat5 with h | h
              · exact HV.out (by rw [← h, e])
              · omega)
            have hG5 : G < w5.heap.size := Nat.lt_of_lt_of_le hGi hgrow.size
            clear hown5 hgrow hat5 hg5 hg5l hcap5 ci0 hsn hsn2 hov
            go_wp2_with fail
            go_roundw
            case rel => exact ⟨k + 1, by omega, by go_num, Lib.hid ⟨m + 1, by rw [lnJ_some rds exs k hk2 (by rw [← HDe.out]; exact hD0), ← List.append_assoc, List.length_append, hm]; rfl, by rw [lnJ_some rds exs k hk2 (by rw [← HDe.out]; exact hD0), ← List.append_assoc]; exact HO5.out⟩, HV5, HC5, HB5, hG5⟩
            case measure => simp [intOf]; omega
    · obtain rfl : k = 2 := by omega
      obtain ⟨m, hm, hown⟩ := HO.out
      have hl1 : rds.length ≤ 1000 := by have := HIN.out.rr.1; omega
      have hl2 : exs.length ≤ 1000 := by have := HIN.out.rx.1; omega
      have hLJ : L0 ++ lnJ rds exs 2 = dtL t :: (opt1 hr (rrL (txOf fr hu un ct iv l dl wk)) ++ optD true rds ++ optD false exs) := by
        rw [HL0.out]
        simp [setLines, lnJ]
      rw [hLJ] at hown hm
      have hP := lines_joined t _ _ (says_start HS.out) (says_joined HS.out hl1 hl2) (itsJ_first hr (opOf fr hu un ct iv l dl wk) rds exs) (itsJ_good hr (opOf fr hu un ct iv l dl wk) rds exs) (by
        have h1 := opt1_len hr (rrL (txOf fr hu un ct iv l dl wk))
        have h2 := optD_len true rds
        have h3 := optD_len false exs
        simp only [List.length_append]
        omega) wr (HG.out.on hBw) u5 A m (by rw [← hm]; rfl) hown (by rw [itsJ_rule]; exact says_good HS.out) (by rw [(itsJ_dates hr _ rds exs).1]; exact hl1) (by rw [(itsJ_dates hr _ rds exs).2]; exact hl2)
      rw [itsJ_rule, (itsJ_dates hr _ rds exs).1, (itsJ_dates hr _ rds exs).2] at hP
      have HP := Lib.hid hP
      clear hP hown hm hLJ
      go_wp2_with fail
      refine HP.out.mono ?_; rintro e w9 ⟨S9, b9, f9, rd9, ex9, rfl, hrt, ho1, ho2, hb9⟩
      obtain ⟨q1, c1, rfl, -⟩ := own_slice ho1
      obtain ⟨q2, c2, rfl, -⟩ := own_slice ho2
      have hAr : A ≤ wr.heap.size := by have := HBr.out.size; rw [HAe.out]; exact this
      have HRT := Lib.hid hrt
      have hB9 : Below A w4 w9 := HBr.out.trans (hb9.mono hAr)
      obtain ⟨wA, hwA⟩ : ∃ W, W = w9.alloc (.cells (rowA 22 (toldF t b9 f9 (.slice q1 rds.length c1) (.slice q2 exs.length c2))) 38) := ⟨_, rfl⟩
      have hb9A : Below w9.heap.size w9 wA := by rw [hwA]; exact below_a1
      have HBA := Lib.hid (hB9.trans (hb9A.mono (Nat.le_trans hAr hb9.size)))
      have HRA := Lib.hid (show wA.rowIs w9.heap.size 38 22 (toldF t b9 f9 (.slice q1 rds.length c1) (.slice q2 exs.length c2)) by rw [hwA]; exact rowA_at 38 22 _ w9)
      have HWA := Lib.hid (HB4.out.trans (HBA.out.mono (by rw [HAe.out]; exact HB4.out.size)))
      have ho1A := own_below ho1 hb9A
      have ho2A := own_below ho2 hb9A
      have hrtA := hrt.below hb9A
      have HSA := Lib.hid (sameSet_any HS.out (HIN.out.below HWA.out) hrtA ho1A ho2A (List.Perm.refl _) (List.Perm.refl _))
      have HR4A := Lib.hid (below_row HR4.out HBA.out hw4)
      have HwA := Lib.hid hwA
      clear hrt ho1 ho2 hb9 hB9 ho1A ho2A hrtA hwA hb9A
      go_upto_region 24 with ((with_reducible refine gd_store 38 ?_); refine wpl_store_last rfl 38 _ _ rfl _ (rowA 22 (toldF t b9 f9 (.slice q1 rds.length c1) (.slice q2 exs.length c2))) rfl rfl (by rw [info38s, rowA_size]) (by rw [rowA_size]; rfl) (rowA_all fun i hi => toldF_one t b9 f9 HRT.out.one rfl rfl i hi) ?_)
      rw [← HwA.out]
      go_wp2_with (first
        | ((with_reducible refine gd_load 38 ?_); refine wpl_wanted (by rfl) ?_; refine wpl_load_row0 rfl 38 _ rfl w9.heap.size 38 22 22 _ rfl HRA.out (by decide) d38 HU38.out.1 HU38.out.2 info38s ?_)
        | ((with_reducible refine gd_load 28 ?_); refine wpl_wanted (by rfl) ?_; refine wpl_load_row0 rfl 28 _ rfl w.heap.size 28 22 22 _ rfl HR4A.out (by decide) d8 HU8.out.1 HU8.out.2 info28s ?_))
      refine HSA.out.mono ?_; rintro e w10 ⟨rfl, hb10⟩
      have HB10 := Lib.hid (HWA.out.trans (hb10.mono HWA.out.size))
      clear hb10
      go_wp2_with fail
      refine (HAW.out _ HB10.out).mono ?_; rintro e w11 ⟨rfl, hb11⟩
      have HB11 := Lib.hid (HB10.out.trans (hb11.mono HB10.out.size))
      clear hb11
      go_wp2_with fail
      go_ret
      exact ⟨rfl, HB11.out⟩
end Go.Proofs.YtnlpjncljbaapaaGreatDoor
