/- laws.FnSetWritten, walked. -/
import Derived.Test.YtnlpjncljbaapaaGreatDoorWj
namespace Go.Proofs.YtnlpjncljbaapaaGreatDoor
open Go.RowKit

set_option maxRecDepth 100000 in
set_option maxHeartbeats 16000000 in
theorem law_written (t : Int) (hr : Bool) (fr : Nat) (hs : Bool) (st iv wk ct : Int) (hu : Bool) (un : Int) (p : Nat → Option Addr) (n c : Nat → Nat) (pr : Option Addr) (nr cr : Nat) (px : Option Addr) (nx cx : Nat) (l : Nat → List Int) (dl : List (Int × Int)) (rds exs : List Int) (w : World) (hG : Glob w)
    (h : SetIn w p n c pr nr cr px nx cx l dl rds exs) :
    Calls Tryz.prog 7 #[.agg (sSetC t hr fr hs st iv wk ct hu un p n c pr nr cr px nx cx)] w fun e w' => e = .returned (.bool true) ∧ Below w.heap.size w w' := by
  have hB := below_a1 (w := w) (o := .cells (sSetC t hr fr hs st iv wk ct hu un p n c pr nr cr px nx cx) 28)
  have hR := sSet_at t hr fr hs st iv wk ct hu un p n c pr nr cr px nx cx w
  have HRC := Lib.hid (sSetF_row t hr fr hs st iv wk ct hu un p n c pr nr cr px nx cx)
  have HF := Lib.hid fun W : World => fits2_any t hr fr hs st iv wk ct hu un p n c pr nr cr px nx cx W
  have HAW := Lib.hid fun (W : World) (hW : Below w.heap.size w W) => awake_any W (hG.on hW)
  have HIN := Lib.hid h
  have HG := Lib.hid hG
  obtain ⟨d8, hud8⟩ := Go.Proofs.YtnlpjncljbaapaaGreatDoor.u28
  have HU8 := Lib.hid hud8
  obtain ⟨d38, hud38⟩ := Go.Proofs.YtnlpjncljbaapaaGreatDoor.u38
  have HU38 := Lib.hid hud38
  clear hud8 hud38 h hG
  go_enter Tryz.func7, Tryz.ntmps7
  unfold sSetC at *
  go_upto_region 1 with fail
  generalize hw1 : w.alloc (.cells #[_, _, _, _, _, _, _, _, _, _, _, _, _, _, _, _, _, _, _, _, _, _] 28) = w1 at *
  have HB := Lib.hid hB
  have HR := Lib.hid hR
  clear hw1 hB hR
  go_wp2_with ((with_reducible refine gd_load 28 ?_); refine wpl_load_row0 rfl 28 _ rfl w.heap.size 28 22 22 _ rfl HR.out (by decide) d8 HU8.out.1 HU8.out.2 info28s ?_; rw [HRC.out])
  refine (HF.out _).mono ?_; rintro e w2 ⟨⟨b, rfl, hfit⟩, hb2⟩
  have HB2 := Lib.hid (HB.out.trans (hb2.mono HB.out.size))
  have HR2 := Lib.hid (below_row HR.out hb2 HR.out.lt)
  clear hb2
  cases b with
  | false => go_wp2_with fail; go_ret; exact ⟨rfl, HB2.out⟩
  | true =>
  obtain ⟨hn, hnr, hnx⟩ := hfit rfl
  have HT := Lib.hid fun (W : World) (hW : Below w.heap.size w W) => textSet_any t hr fr hs st iv wk ct hu un p n c pr nr cr px nx cx l dl rds exs W (fun k a b e => (HIN.out.ro k a b e).below hW) (HIN.out.rd.below hW) hn HIN.out.nc (HIN.out.rr.below hW) (HIN.out.rx.below hW) hnr hnx HIN.out.px
  have HN := Lib.hid hn
  clear hfit hn
  unfold sSetC at HT
  go_wp2_with ((with_reducible refine gd_load 28 ?_); refine wpl_load_row0 rfl 28 _ rfl w.heap.size 28 22 22 _ rfl HR2.out (by decide) d8 HU8.out.1 HU8.out.2 info28s ?_; rw [HRC.out])
  refine (HT.out _ HB2.out).mono ?_; rintro e w3 ⟨f, b, rfl, hone, hsay, hb3⟩
  have HB3 := Lib.hid (HB2.out.trans (hb3.mono HB2.out.size))
  have HR3 := Lib.hid (below_row HR2.out hb3 HR2.out.lt)
  have HONE := Lib.hid hone
  have HSAY := Lib.hid hsay
  clear hb3 hone hsay
  cases b with
  | false =>
    go_wp2_with ((with_reducible refine gd_store 28 ?_); refine wpl_store_row rfl 28 _ _ rfl w.heap.size 0 28 22 _ (rowA 22 f) rfl rfl HR3.out (by simp [rowA_size]) (by rw [info28s, rowA_size]) (rowA_all HONE.out) ?_; intro w4 hR4 hg4)
    have HB4 := Lib.hid (HB3.out.grown hg4 HB3.out.size (fun k hk => by cases hk; exact Nat.le_refl _))
    refine (HAW.out _ HB4.out).mono ?_; rintro e w5 ⟨rfl, hb5⟩
    go_wp2_with fail
    go_ret
    exact ⟨rfl, HB4.out.trans (hb5.mono HB4.out.size)⟩
  | true =>
  have HS := Lib.hid (HSAY.out rfl)
  clear HSAY
  go_upto_region 4 with ((with_reducible refine gd_store 28 ?_); refine wpl_store_row rfl 28 _ _ rfl w.heap.size 0 28 22 _ (rowA 22 f) rfl rfl HR3.out (by simp [rowA_size]) (by rw [info28s, rowA_size]) (rowA_all HONE.out) ?_; intro w4 hR4 hg4)
  have HB4 := Lib.hid (HB3.out.grown hg4 HB3.out.size (fun k hk => by cases hk; exact Nat.le_refl _))
  have HR4 := Lib.hid (show w4.rowIs w.heap.size 28 22 f from hR4.congr fun i hi => by
    unfold updR
    rw [if_pos ⟨Nat.zero_le _, by rw [rowA_size]; omega⟩, Nat.sub_zero, rowA_get hi]
    rfl)
  have hw4 : w.heap.size < w4.heap.size := HR4.out.lt
  clear hR4 hg4 HR HR2 HR3 HB2 HB3 HT HN HF HRC
  obtain ⟨ro, hro⟩ : ∃ ro, ro = (if hr then some (rwOf fr hu un ct iv l dl wk) else none) := ⟨_, rfl⟩
  have hl12 : rds.length ≤ 12 ∧ exs.length ≤ 12 := by have h1 := HIN.out.rr.1; have h2 := HIN.out.rx.1; have h3 := HS.out.2.1; have h4 := HS.out.2.2.1; omega
  have hgs := raw_says HS.out
  rw [← hro] at hgs
  have hwl := wLines_len t ro rds exs hl12.1 hl12.2
  have hsh := wLines_short t ro rds exs (fun o ho => (hgs o ho).2)
  have ht0 := says_start HS.out
  have hset : ∀ W (b : Bool) (f : Nat → Value) (sl : Nat → Value) (q1 q2 : Option Addr) (c1 c2 : Nat) (a1 a2 : Nat), Below w.heap.size w W → RuleIn W t b f sl ro → RowO W q1 a1 rds → RowO W q2 a2 exs → Calls Tryz.prog 22 #[.agg (rowA 22 (toldF t b f (.slice q1 a1 c1) (.slice q2 a2 c2)))] W fun e w' => e = .returned (.tuple #[.string ⟨(joinC 10 (wLines t ro rds exs)).toArray⟩, .bool true]) ∧ Below W.heap.size W w' := fun W b f sl q1 q2 c1 c2 a1 a2 hW hri h1 h2 =>
    setText_any t b f sl ro q1 q2 a1 c1 a2 c2 rds exs W (HG.out.on hW) ht0 hri h1 h2 hl12.1 hl12.2 (fun o ho => (hgs o ho).2) (says_dates HS.out).1 (says_dates HS.out).2
  have hlns : ∀ W (b : Bool) (f : Nat → Value) (sl : Nat → Value) (q1 q2 : Option Addr) (c1 c2 : Nat) (a1 a2 : Nat), Below w.heap.size w W → RuleIn W t b f sl ro → RowO W q1 a1 rds → RowO W q2 a2 exs → Calls Tryz.prog 20 #[.agg (rowA 22 (toldF t b f (.slice q1 a1 c1) (.slice q2 a2 c2)))] W fun e w' => ∃ B v m, e = .returned (.tuple #[v, .bool true]) ∧ W.heap.size ≤ B ∧ w'.ownsRow B 9 1 v m (strVs (wLines t ro rds exs)) ∧ (wLines t ro rds exs).length = m ∧ Below W.heap.size W w' := fun W b f sl q1 q2 c1 c2 a1 a2 hW hri h1 h2 =>
    setLines_any t b f sl ro q1 q2 a1 c1 a2 c2 rds exs W (HG.out.on hW) ht0 hri h1 h2 hl12.1 hl12.2 (fun o ho => (hgs o ho).2) (says_dates HS.out).1 (says_dates HS.out).2
  have hrd : ∀ (g cap m : Nat) (W : World), StrsAt W g (wLines t ro rds exs) → (wLines t ro rds exs).length = m → g < W.heap.size → Calls Tryz.prog 23 #[.slice (some ⟨g, 0, none⟩) m cap] W fun e w' => GivesSetS { start := t, started := true, rule := ruOf ro, rds := rds, exs := exs } W e w' := fun g cap m W h1 h2 h3 =>
    readLines_any t ro rds exs g cap m W h1 h2 h3 ⟨Int.le_of_lt ht0.1, ht0.2⟩ (fun o ho => (hgs o ho).2) (says_dates HS.out).1 (says_dates HS.out).2 hl12.1 hl12.2
  obtain ⟨ls, hls⟩ : ∃ ls, ls = wLines t ro rds exs := ⟨_, rfl⟩
  rw [← hls] at hset hlns hrd hwl hsh
  obtain ⟨txt, htxt⟩ : ∃ txt : ByteArray, txt = ⟨(joinC 10 ls).toArray⟩ := ⟨_, rfl⟩
  rw [← htxt] at hset
  have HTO := Lib.hid fun (W : World) (hW : Below w.heap.size w W) => toText_says W HS.out (HIN.out.below hW)
  rw [← hro] at HTO
  have HST := Lib.hid hset
  have HLN := Lib.hid hlns
  have HRD := Lib.hid hrd
  have HWL := Lib.hid hwl
  have HSH := Lib.hid hsh
  have HGS := Lib.hid hgs
  have HRO := Lib.hid hro
  have HTX := Lib.hid htxt
  clear hro hls hwl hsh hgs hset hlns hrd htxt ht0
  go_wp2_with ((with_reducible refine gd_load 28 ?_); refine wpl_load_row0 rfl 28 _ rfl w.heap.size 28 22 22 _ rfl HR4.out (by decide) d8 HU8.out.1 HU8.out.2 info28s ?_)
  refine (HTO.out _ HB4.out).mono ?_; rintro e w5 ⟨f5, sl5, q5, c5, q6, c6, rfl, hri, hr1, hr2, hb5⟩
  have HW5 := Lib.hid (HB4.out.trans (hb5.mono HB4.out.size))
  have HR5 := Lib.hid (below_row HR4.out hb5 HR4.out.lt)
  have HT5 := Lib.hid (HLN.out w5 _ _ _ _ _ c5 c6 _ _ HW5.out hri hr1 hr2)
  clear hri hr1 hr2 hb5
  go_wp2_with fail
  refine HT5.out.mono ?_; rintro e w6 ⟨B6, v6, m6, rfl, hB6, hown6, hm6, hb6⟩
  obtain ⟨q, c, rfl, hq⟩ := own_slice hown6
  obtain ⟨g, rfl, hgB, hgl⟩ : ∃ g, q = some ⟨g, 0, none⟩ ∧ B6 ≤ g ∧ g < w6.heap.size := by
    rcases hq with h | h
    · have := HWL.out.1; omega
    · exact h
  have HL6 := Lib.hid (StrsAt.of_own hown6)
  have HM6 := Lib.hid hm6
  have HW6 := Lib.hid (HW5.out.trans (hb6.mono HW5.out.size))
  have HR6 := Lib.hid (below_row HR5.out hb6 HR5.out.lt)
  clear hb6 HR5 HT5 hown6 hm6 hq hB6
  go_wp2_with ((with_reducible refine gd_load 28 ?_); refine wpl_load_row0 rfl 28 _ rfl w.heap.size 28 22 22 _ rfl HR6.out (by decide) d8 HU8.out.1 HU8.out.2 info28s ?_)
  refine (HTO.out _ HW6.out).mono ?_; rintro e w7 ⟨f7, sl7, q7, c7, q8, c8, rfl, hri, hr1, hr2, hb7⟩
  have HW7 := Lib.hid (HW6.out.trans (hb7.mono HW6.out.size))
  have HR7 := Lib.hid (below_row HR6.out hb7 HR6.out.lt)
  have HL7 := Lib.hid (HL6.out.below hb7 hgl)
  have hg7 := Nat.lt_of_lt_of_le hgl hb7.size
  have HT7 := Lib.hid (HST.out w7 _ _ _ _ _ c7 c8 _ _ HW7.out hri hr1 hr2)
  clear hri hr1 hr2 hb7 HR6 HL6 hgl hgB
  go_wp2_with fail
  refine HT7.out.mono ?_; rintro e w8 ⟨rfl, hb8⟩
  have HW8 := Lib.hid (HW7.out.trans (hb8.mono HW7.out.size))
  have HR8 := Lib.hid (below_row HR7.out hb8 HR7.out.lt)
  have HL8 := Lib.hid (HL7.out.below hb8 hg7)
  have hg8 := Nat.lt_of_lt_of_le hg7 hb8.size
  have HRDS := Lib.hid (HRD.out g c m6 w8 HL8.out HM6.out hg8)
  clear hb8 HR7 HL7 hg7 HT7
  go_wp2_with fail
  refine HRDS.out.mono ?_; rintro e w9 ⟨N9, Bs, b9, f9, rd9, ex9, rfl, hrb, ho1, ho2, hBs, hb9⟩
  obtain ⟨q1, c1, rfl, -⟩ := own_slice ho1
  obtain ⟨q2, c2, rfl, -⟩ := own_slice ho2
  have HONE := Lib.hid (show ∀ i, i < 22 → (toldF t b9 f9 (.slice q1 rds.length c1) (.slice q2 exs.length c2) i).oneCell' = true from fun i hi => toldF_one t b9 f9 hrb.one rfl rfl i hi)
  obtain ⟨wA, hwA⟩ : ∃ W, W = w9.alloc (.cells (rowA 22 (toldF t b9 f9 (.slice q1 rds.length c1) (.slice q2 exs.length c2))) 28) := ⟨_, rfl⟩
  have hb9A : Below w9.heap.size w9 wA := by rw [hwA]; exact below_a1
  have HRA := Lib.hid (show wA.rowIs w9.heap.size 28 22 (toldF t b9 f9 (.slice q1 rds.length c1) (.slice q2 exs.length c2)) by rw [hwA]; exact rowA_at 28 22 _ w9)
  have HO1 := Lib.hid (own_below ho1 hb9A)
  have HO2 := Lib.hid (own_below ho2 hb9A)
  have HRB := Lib.hid hrb
  have HBS := Lib.hid hBs
  have HB9A := Lib.hid hb9A
  have HB8A := Lib.hid (hb9.trans (hb9A.mono hb9.size))
  have HwA := Lib.hid hwA
  have HRS := Lib.hid (below_row HR8.out HB8A.out HR8.out.lt)
  have HLA := Lib.hid (HL8.out.below HB8A.out hg8)
  have HWA := Lib.hid (HW8.out.trans (HB8A.out.mono HW8.out.size))
  clear ho1 ho2 hb9 hwA hb9A HR8 HL8 hrb HRDS hBs
  go_upto_region 9 with ((with_reducible refine gd_store 28 ?_); refine wpl_store_last rfl 28 _ _ rfl _ (rowA 22 (toldF t b9 f9 (.slice q1 rds.length c1) (.slice q2 exs.length c2))) rfl rfl (by rw [info28s, rowA_size]) (by rw [rowA_size]; rfl) (rowA_all HONE.out) ?_)
  rw [← HwA.out]
  have HWH := Lib.hid (whole_any g c m6 ls wA HLA.out HM6.out.symm HSH.out (by have := HWL.out.2; have := HM6.out; omega))
  rw [← HTX.out] at HWH
  go_wp2_with fail
  refine HWH.out.mono ?_; rintro e w10 ⟨rfl, hw10⟩
  have hw10 := hw10.symm
  subst hw10
  have hN9 := HRA.out.lt
  have hN0 := HRS.out.lt
  have hb9e : b9 = hr := by
    have := HRB.out
    rw [HRO.out] at this
    cases hr with
    | false => exact this.1
    | true => exact this.1
  subst hb9e
  obtain ⟨hf20, hf21⟩ := says_cells HS.out
  have hf0 : f 0 = .int .i64 t := by
    cases hh : b9 with
    | false => exact HS.out.2.2.2.2.2 hh 0 (by omega)
    | true => exact (HS.out.2.2.2.2.1 hh).2.2 0 (by omega)
  have hf1 : f 1 = .bool b9 := by
    cases hh : b9 with
    | false => exact HS.out.2.2.2.2.2 hh 1 (by omega)
    | true => exact (HS.out.2.2.2.2.1 hh).2.2 1 (by omega)
  have HK := Lib.hid (show ∀ W : World, Below wA.heap.size wA W → (fun W : World => Below wA.heap.size wA W ∧ W.cell? ⟨w9.heap.size, 0, none⟩ = some (.int .i64 t) ∧ W.cell? ⟨w9.heap.size, 1, none⟩ = some (.bool b9) ∧ W.cell? ⟨w9.heap.size, 20, none⟩ = some (.slice q1 rds.length c1) ∧ W.cell? ⟨w9.heap.size, 21, none⟩ = some (.slice q2 exs.length c2) ∧ W.cell? ⟨w.heap.size, 0, none⟩ = some (.int .i64 t) ∧ W.cell? ⟨w.heap.size, 1, none⟩ = some (.bool b9) ∧ W.cell? ⟨w.heap.size, 20, none⟩ = some (.slice pr nr cr) ∧ W.cell? ⟨w.heap.size, 21, none⟩ = some (.slice px nx cx)) W from fun W hW => ⟨hW, (hW.cell (p := ⟨w9.heap.size, 0, none⟩) hN9).trans (HRA.out.cell (i := 0) (by omega)), (hW.cell (p := ⟨w9.heap.size, 1, none⟩) hN9).trans (HRA.out.cell (i := 1) (by omega)), (hW.cell (p := ⟨w9.heap.size, 20, none⟩) hN9).trans (HRA.out.cell (i := 20) (by omega)), (hW.cell (p := ⟨w9.heap.size, 21, none⟩) hN9).trans (HRA.out.cell (i := 21) (by omega)), (hW.cell (p := ⟨w.heap.size, 0, none⟩) hN0).trans ((HRS.out.cell (i := 0) (by omega)).trans (congrArg some hf0)), (hW.cell (p := ⟨w.heap.size, 1, none⟩) hN0).trans ((HRS.out.cell (i := 1) (by omega)).trans (congrArg some hf1)), (hW.cell (p := ⟨w.heap.size, 20, none⟩) hN0).trans ((HRS.out.cell (i := 20) (by omega)).trans (congrArg some hf20)), (hW.cell (p := ⟨w.heap.size, 21, none⟩) hN0).trans ((HRS.out.cell (i := 21) (by omega)).trans (congrArg some hf21))⟩)
  have hn1 := HIN.out.rr.1
  have hn2 := HIN.out.rx.1
  have HS1 := Lib.hid fun (W : World) (hW : Below wA.heap.size wA W) => sorted_any q1 rds.length c1 rds W ((rowO_of_own HO1.out).below hW) (by omega)
  have HS2 := Lib.hid fun (W : World) (hW : Below wA.heap.size wA W) => sorted_any pr nr cr rds W ((HIN.out.rr.below HWA.out).below hW) (by omega)
  have HS3 := Lib.hid fun (W : World) (hW : Below wA.heap.size wA W) => sorted_any q2 exs.length c2 exs W ((rowO_of_own HO2.out).below hW) (by omega)
  have HS4 := Lib.hid fun (W : World) (hW : Below wA.heap.size wA W) => sorted_any px nx cx exs W ((HIN.out.rx.below HWA.out).below hW) (by omega)
  have HRBW := Lib.hid fun (W : World) (hW : Below wA.heap.size wA W) => HRB.out.ch (X := fun _ => False) (.of_below (HB9A.out.trans (hW.mono HB9A.out.size)) (Nat.le_refl _)) HBS.out (fun _ hi => hi.elim)
  have HBW := Lib.hid fun (W : World) (hW : Below wA.heap.size wA W) => (Nat.le_trans HBS.out (Nat.le_trans HB9A.out.size hW.size) : Bs ≤ W.heap.size)
  have HRAW := Lib.hid fun (W : World) (hW : Below wA.heap.size wA W) => below_row HRA.out hW hN9
  have HRSW := Lib.hid fun (W : World) (hW : Below wA.heap.size wA W) => below_row HRS.out hW hN0
  have hm1 : nr ≤ 1000 ∧ nx ≤ 1000 := by omega
  clear hf0 hf1 hf20 hf21 hn1 hn2
  cases hh : b9 with
  | false =>
  subst hh
  go_upto_region 11 with fail
  refine wp_region_noPanic ?_
  refine wp_region_held_drew (S := (fun W : World => Below wA.heap.size wA W ∧ W.cell? ⟨w9.heap.size, 0, none⟩ = some (.int .i64 t) ∧ W.cell? ⟨w9.heap.size, 1, none⟩ = some (.bool false) ∧ W.cell? ⟨w9.heap.size, 20, none⟩ = some (.slice q1 rds.length c1) ∧ W.cell? ⟨w9.heap.size, 21, none⟩ = some (.slice q2 exs.length c2) ∧ W.cell? ⟨w.heap.size, 0, none⟩ = some (.int .i64 t) ∧ W.cell? ⟨w.heap.size, 1, none⟩ = some (.bool false) ∧ W.cell? ⟨w.heap.size, 20, none⟩ = some (.slice pr nr cr) ∧ W.cell? ⟨w.heap.size, 21, none⟩ = some (.slice px nx cx))) (by kernel_rfl) (HK.out _ ((Below.refl _ _).drew)) (fun hHeld => ?_)
  refine wpAnyH_take (i := 0) (v := ?_) (arr_at rfl) (by as_aux_lemma => kernel_rfl) (by as_aux_lemma => kernel_rfl) (by as_aux_lemma => kernel_rfl) (fun _ _ _ h => h) (Or.inl ⟨by rfl, ?_⟩) hHeld ?_
  rotate_left
  · intro w hSw
    (try dsimp only at hSw)
    go_simp
    all_goals with_reducible rfl
  try simp only [Act.put, List.setIfInBounds_toArray, List.set_cons_zero, List.set_cons_succ]
  refine wpAnyH_take (i := 1) (v := ?_) (arr_at rfl) (by as_aux_lemma => kernel_rfl) (by as_aux_lemma => kernel_rfl) (by as_aux_lemma => kernel_rfl) (fun _ _ _ h => h) (Or.inl ⟨by rfl, ?_⟩) hHeld ?_
  rotate_left
  · intro w hSw
    (try dsimp only at hSw)
    go_simp
    all_goals with_reducible rfl
  try simp only [Act.put, List.setIfInBounds_toArray, List.set_cons_zero, List.set_cons_succ]
  refine wpAnyH_take (i := 2) (v := ?_) (arr_at rfl) (by as_aux_lemma => kernel_rfl) (by as_aux_lemma => kernel_rfl) (by as_aux_lemma => kernel_rfl) (fun _ _ _ h => h) (Or.inl ⟨by rfl, ?_⟩) hHeld ?_
  rotate_left
  · intro w hSw
    (try dsimp only at hSw)
    go_simp
    all_goals with_reducible rfl
  try simp only [Act.put, List.setIfInBounds_toArray, List.set_cons_zero, List.set_cons_succ]
  refine wpAnyH_take (i := 3) (v := ?_) (arr_at rfl) (by as_aux_lemma => kernel_rfl) (by as_aux_lemma => kernel_rfl) (by as_aux_lemma => kernel_rfl) (fun _ _ _ h => h) (Or.inl ⟨by rfl, ?_⟩) hHeld ?_
  rotate_left
  · intro w hSw
    (try dsimp only at hSw)
    go_simp
    all_goals with_reducible rfl
  try simp only [Act.put, List.setIfInBounds_toArray, List.set_cons_zero, List.set_cons_succ]
  refine wpAnyH_take (i := 4) (v := ?_) (arr_at rfl) (by as_aux_lemma => kernel_rfl) (by as_aux_lemma => kernel_rfl) (by as_aux_lemma => kernel_rfl) (fun _ _ _ h => h) (Or.inl ⟨by rfl, ?_⟩) hHeld ?_
  rotate_left
  · intro w hSw
    (try dsimp only at hSw)
    go_simp
    all_goals with_reducible rfl
  try simp only [Act.put, List.setIfInBounds_toArray, List.set_cons_zero, List.set_cons_succ]
  refine wpAnyH_take (i := 5) (v := ?_) (arr_at rfl) (by as_aux_lemma => kernel_rfl) (by as_aux_lemma => kernel_rfl) (by as_aux_lemma => kernel_rfl) (fun _ _ _ h => h) (Or.inl ⟨by rfl, ?_⟩) hHeld ?_
  rotate_left
  · intro w hSw
    (try dsimp only at hSw)
    go_simp
    all_goals with_reducible rfl
  try simp only [Act.put, List.setIfInBounds_toArray, List.set_cons_zero, List.set_cons_succ]
  refine wpAnyH_take (i := 6) (v := ?_) (arr_at rfl) (by as_aux_lemma => kernel_rfl) (by as_aux_lemma => kernel_rfl) (by as_aux_lemma => kernel_rfl) (fun _ _ _ h => h) (Or.inl ⟨by rfl, ?_⟩) hHeld ?_
  rotate_left
  · intro w hSw
    (try dsimp only at hSw)
    go_simp
    all_goals with_reducible rfl
  try simp only [Act.put, List.setIfInBounds_toArray, List.set_cons_zero, List.set_cons_succ]
  refine wpAnyH_take (i := 7) (v := ?_) (arr_at rfl) (by as_aux_lemma => kernel_rfl) (by as_aux_lemma => kernel_rfl) (by as_aux_lemma => kernel_rfl) (fun _ _ _ h => h) (Or.inl ⟨by rfl, ?_⟩) hHeld ?_
  rotate_left
  · intro w hSw
    (try dsimp only at hSw)
    go_simp
    all_goals with_reducible rfl
  try simp only [Act.put, List.setIfInBounds_toArray, List.set_cons_zero, List.set_cons_succ]
  refine wpAnyH_take (i := 8) (v := ?_) (arr_at rfl) (by as_aux_lemma => kernel_rfl) (by as_aux_lemma => kernel_rfl) (by as_aux_lemma => kernel_rfl) (fun _ _ _ h => h) (Or.inl ⟨by rfl, ?_⟩) hHeld ?_
  rotate_left
  · intro w hSw
    (try dsimp only at hSw)
    go_simp
    all_goals with_reducible rfl
  try simp only [Act.put, List.setIfInBounds_toArray, List.set_cons_zero, List.set_cons_succ]
  refine wpAnyH_take (i := 9) (v := ?_) (arr_at rfl) (by as_aux_lemma => kernel_rfl) (by as_aux_lemma => kernel_rfl) (by as_aux_lemma => kernel_rfl) (fun _ _ _ h => h) (Or.inl ⟨by rfl, ?_⟩) hHeld ?_
  rotate_left
  · intro w hSw
    (try dsimp only at hSw)
    go_simp
    all_goals with_reducible rfl
  try simp only [Act.put, List.setIfInBounds_toArray, List.set_cons_zero, List.set_cons_succ]
  refine wpAnyH_take (i := 10) (v := ?_) (arr_at rfl) (by as_aux_lemma => kernel_rfl) (by as_aux_lemma => kernel_rfl) (by as_aux_lemma => kernel_rfl) (fun _ _ _ h => h) (Or.inl ⟨by rfl, ?_⟩) hHeld ?_
  rotate_left
  · intro w hSw
    (try dsimp only at hSw)
    go_simp
    all_goals with_reducible rfl
  try simp only [Act.put, List.setIfInBounds_toArray, List.set_cons_zero, List.set_cons_succ]
  refine wpAnyH_take (i := 11) (v := ?_) (arr_at rfl) (by as_aux_lemma => kernel_rfl) (by as_aux_lemma => kernel_rfl) (by as_aux_lemma => kernel_rfl) (fun _ _ _ h => h) (Or.inl ⟨by rfl, ?_⟩) hHeld ?_
  rotate_left
  · intro w hSw
    (try dsimp only at hSw)
    go_simp
    all_goals with_reducible rfl
  try simp only [Act.put, List.setIfInBounds_toArray, List.set_cons_zero, List.set_cons_succ]
  refine wpAnyH_take (i := 12) (v := ?_) (arr_at rfl) (by as_aux_lemma => kernel_rfl) (by as_aux_lemma => kernel_rfl) (by as_aux_lemma => kernel_rfl) (fun _ _ _ h => h) (Or.inl ⟨by rfl, ?_⟩) hHeld ?_
  rotate_left
  · intro w hSw
    (try dsimp only at hSw)
    go_simp
    all_goals with_reducible rfl
  try simp only [Act.put, List.setIfInBounds_toArray, List.set_cons_zero, List.set_cons_succ]
  refine wpAnyH_take (i := 13) (v := ?_) (arr_at rfl) (by as_aux_lemma => kernel_rfl) (by as_aux_lemma => kernel_rfl) (by as_aux_lemma => kernel_rfl) (fun _ _ _ h => h) (Or.inl ⟨by rfl, ?_⟩) hHeld ?_
  rotate_left
  · intro w hSw
    (try dsimp only at hSw)
    go_simp
    all_goals with_reducible rfl
  try simp only [Act.put, List.setIfInBounds_toArray, List.set_cons_zero, List.set_cons_succ]
  refine wpAnyH_take (i := 14) (v := ?_) (arr_at rfl) (by as_aux_lemma => kernel_rfl) (by as_aux_lemma => kernel_rfl) (by as_aux_lemma => kernel_rfl) (fun _ _ _ h => h) (Or.inl ⟨by rfl, ?_⟩) hHeld ?_
  rotate_left
  · intro w hSw
    (try dsimp only at hSw)
    go_simp
    all_goals with_reducible rfl
  try simp only [Act.put, List.setIfInBounds_toArray, List.set_cons_zero, List.set_cons_succ]
  refine wpAnyH_take (i := 15) (v := ?_) (arr_at rfl) (by as_aux_lemma => kernel_rfl) (by as_aux_lemma => kernel_rfl) (by as_aux_lemma => kernel_rfl) (fun _ _ _ h => h) (Or.inl ⟨by rfl, ?_⟩) hHeld ?_
  rotate_left
  · intro w hSw
    (try dsimp only at hSw)
    go_simp
    all_goals with_reducible rfl
  try simp only [Act.put, List.setIfInBounds_toArray, List.set_cons_zero, List.set_cons_succ]
  refine wpAnyH_take (i := 16) (v := ?_) (arr_at rfl) (by as_aux_lemma => kernel_rfl) (by as_aux_lemma => kernel_rfl) (by as_aux_lemma => kernel_rfl) (fun _ _ _ h => h) (Or.inl ⟨by rfl, ?_⟩) hHeld ?_
  rotate_left
  · intro w hSw
    (try dsimp only at hSw)
    go_simp
    all_goals with_reducible rfl
  try simp only [Act.put, List.setIfInBounds_toArray, List.set_cons_zero, List.set_cons_succ]
  refine wpAnyH_take (i := 17) (v := undef) (arr_at rfl) (by as_aux_lemma => kernel_rfl) (by as_aux_lemma => kernel_rfl) (by as_aux_lemma => kernel_rfl) (fun _ _ _ h => h) (Or.inr ⟨by rfl, rfl⟩) hHeld ?_
  try simp only [Act.put, List.setIfInBounds_toArray, List.set_cons_zero, List.set_cons_succ]
  refine wpAnyH_take (i := 18) (v := undef) (arr_at rfl) (by as_aux_lemma => kernel_rfl) (by as_aux_lemma => kernel_rfl) (by as_aux_lemma => kernel_rfl) (fun _ _ _ h => h) (Or.inr ⟨by rfl, rfl⟩) hHeld ?_
  try simp only [Act.put, List.setIfInBounds_toArray, List.set_cons_zero, List.set_cons_succ]
  refine wpAnyH_take (i := 19) (v := undef) (arr_at rfl) (by as_aux_lemma => kernel_rfl) (by as_aux_lemma => kernel_rfl) (by as_aux_lemma => kernel_rfl) (fun _ _ _ h => h) (Or.inr ⟨by rfl, rfl⟩) hHeld ?_
  try simp only [Act.put, List.setIfInBounds_toArray, List.set_cons_zero, List.set_cons_succ]
  refine wpAnyH_take (i := 20) (v := undef) (arr_at rfl) (by as_aux_lemma => kernel_rfl) (by as_aux_lemma => kernel_rfl) (by as_aux_lemma => kernel_rfl) (fun _ _ _ h => h) (Or.inr ⟨by rfl, rfl⟩) hHeld ?_
  try simp only [Act.put, List.setIfInBounds_toArray, List.set_cons_zero, List.set_cons_succ]
  refine wpAnyH_take (i := 21) (v := undef) (arr_at rfl) (by as_aux_lemma => kernel_rfl) (by as_aux_lemma => kernel_rfl) (by as_aux_lemma => kernel_rfl) (fun _ _ _ h => h) (Or.inr ⟨by rfl, rfl⟩) hHeld ?_
  try simp only [Act.put, List.setIfInBounds_toArray, List.set_cons_zero, List.set_cons_succ]
  refine wpAnyH_take (i := 22) (v := ?_) (arr_at rfl) (by as_aux_lemma => kernel_rfl) (by as_aux_lemma => kernel_rfl) (by as_aux_lemma => kernel_rfl) (fun _ _ _ h => h) (Or.inl ⟨by rfl, ?_⟩) hHeld ?_
  rotate_left
  · intro w hSw
    (try dsimp only at hSw)
    go_simp
    all_goals with_reducible rfl
  try simp only [Act.put, List.setIfInBounds_toArray, List.set_cons_zero, List.set_cons_succ]
  refine wpAnyH_take (i := 23) (v := ?_) (arr_at rfl) (by as_aux_lemma => kernel_rfl) (by as_aux_lemma => kernel_rfl) (by as_aux_lemma => kernel_rfl) (fun _ _ _ h => h) (Or.inl ⟨by rfl, ?_⟩) hHeld ?_
  rotate_left
  · intro w hSw
    (try dsimp only at hSw)
    go_simp
    all_goals with_reducible rfl
  try simp only [Act.put, List.setIfInBounds_toArray, List.set_cons_zero, List.set_cons_succ]
  refine wpAnyH_take (i := 24) (v := ?_) (arr_at rfl) (by as_aux_lemma => kernel_rfl) (by as_aux_lemma => kernel_rfl) (by as_aux_lemma => kernel_rfl) (fun _ _ _ h => h) (Or.inl ⟨by rfl, ?_⟩) hHeld ?_
  rotate_left
  · intro w hSw
    (try dsimp only at hSw)
    go_simp
    all_goals with_reducible rfl
  try simp only [Act.put, List.setIfInBounds_toArray, List.set_cons_zero, List.set_cons_succ]
  refine wpAnyH_take (i := 25) (v := ?_) (arr_at rfl) (by as_aux_lemma => kernel_rfl) (by as_aux_lemma => kernel_rfl) (by as_aux_lemma => kernel_rfl) (fun _ _ _ h => h) (Or.inl ⟨by rfl, ?_⟩) hHeld ?_
  rotate_left
  · intro w hSw
    (try dsimp only at hSw)
    go_simp
    all_goals with_reducible rfl
  try simp only [Act.put, List.setIfInBounds_toArray, List.set_cons_zero, List.set_cons_succ]
  refine wpAnyH_take (i := 26) (v := ?_) (arr_at rfl) (by as_aux_lemma => kernel_rfl) (by as_aux_lemma => kernel_rfl) (by as_aux_lemma => kernel_rfl) (fun _ _ _ h => h) (Or.inl ⟨by rfl, ?_⟩) hHeld ?_
  rotate_left
  · intro w hSw
    (try dsimp only at hSw)
    go_simp
    all_goals with_reducible rfl
  try simp only [Act.put, List.setIfInBounds_toArray, List.set_cons_zero, List.set_cons_succ]
  refine wpAnyH_take (i := 28) (v := ?_) (arr_at rfl) (by as_aux_lemma => kernel_rfl) (by as_aux_lemma => kernel_rfl) (by as_aux_lemma => kernel_rfl) (fun _ _ _ h => h) (Or.inl ⟨by rfl, ?_⟩) hHeld ?_
  rotate_left
  · intro w hSw
    (try dsimp only at hSw)
    go_simp
    all_goals with_reducible rfl
  try simp only [Act.put, List.setIfInBounds_toArray, List.set_cons_zero, List.set_cons_succ]
  refine wpAnyH_take (i := 29) (v := ?_) (arr_at rfl) (by as_aux_lemma => kernel_rfl) (by as_aux_lemma => kernel_rfl) (by as_aux_lemma => kernel_rfl) (fun _ _ _ h => h) (Or.inl ⟨by rfl, ?_⟩) hHeld ?_
  rotate_left
  · intro w hSw
    (try dsimp only at hSw)
    go_simp
    all_goals with_reducible rfl
  try simp only [Act.put, List.setIfInBounds_toArray, List.set_cons_zero, List.set_cons_succ]
  refine wpAnyH_ready (rs := [27]) (by as_aux_lemma => kernel_rfl) (by simp) ?_
  refine AllReadyH.cons (arr_at rfl) (fun K hK => ?_) ?_
  ·
    go_simp
    go_at_call 26; refine (HS1.out _ hHeld.1).mono ?_; rintro e w3 ⟨va1, rfl, oa1, hb2⟩
    obtain ⟨qa1, ca1, rfl, -⟩ := own_slice oa1
    have oa1 := Joins.ownsRow_le oa1 hHeld.1.size
    try go_wp2_with fail
    refine hK.out _ _ ?_ (fun hNew => ?_)
    · exact HK.out _ (Below.trans hHeld.1 (hb2.mono hHeld.1.size))
    clear hK K hHeld
    have hHeld := hNew
    clear hNew
    clear hb2
    try simp only [Act.put, List.setIfInBounds_toArray, List.set_cons_zero, List.set_cons_succ]
    refine wpAnyH_ready (rs := [30]) (by as_aux_lemma => kernel_rfl) (by simp) ?_
    refine AllReadyH.cons (arr_at rfl) (fun K hK => ?_) ?_
    ·
      go_simp
      go_at_call 26; refine (HS2.out _ hHeld.1).mono ?_; rintro e w3 ⟨va2, rfl, oa2, hb2⟩
      obtain ⟨qa2, ca2, rfl, -⟩ := own_slice oa2
      have oa2 := Joins.ownsRow_le oa2 hHeld.1.size
      have oa1 := own_below oa1 hb2
      try go_wp2_with fail
      refine hK.out _ _ ?_ (fun hNew => ?_)
      · exact HK.out _ (Below.trans hHeld.1 (hb2.mono hHeld.1.size))
      clear hK K hHeld
      have hHeld := hNew
      clear hNew
      clear hb2
      try simp only [Act.put, List.setIfInBounds_toArray, List.set_cons_zero, List.set_cons_succ]
      refine wpAnyH_ready (rs := [31]) (by as_aux_lemma => kernel_rfl) (by simp) ?_
      refine AllReadyH.cons (arr_at rfl) (fun K hK => ?_) ?_
      ·
        go_simp
        go_at_call 25; refine (equal25_rows qa1 _ ca1 qa2 _ ca2 (sortL rds) _ (rowO_of_own oa1) (rowO_of_own oa2) (by omega)).mono ?_; rintro e w3 ⟨rfl, hb2⟩
        try go_wp2_with fail
        refine hK.out _ _ ?_ (fun hNew => ?_)
        · exact HK.out _ (Below.trans hHeld.1 (hb2.mono hHeld.1.size))
        clear hK K hHeld
        have hHeld := hNew
        clear hNew
        clear hb2
        try simp only [Act.put, List.setIfInBounds_toArray, List.set_cons_zero, List.set_cons_succ]
        refine wpAnyH_take (i := 32) (v := ?_) (arr_at rfl) (by as_aux_lemma => kernel_rfl) (by as_aux_lemma => kernel_rfl) (by as_aux_lemma => kernel_rfl) (fun _ _ _ h => h) (Or.inl ⟨by rfl, ?_⟩) hHeld ?_
        rotate_left
        · intro w hSw
          (try dsimp only at hSw)
          go_simp
          all_goals with_reducible rfl
        try simp only [Act.put, List.setIfInBounds_toArray, List.set_cons_zero, List.set_cons_succ]
        refine wpAnyH_take (i := 33) (v := ?_) (arr_at rfl) (by as_aux_lemma => kernel_rfl) (by as_aux_lemma => kernel_rfl) (by as_aux_lemma => kernel_rfl) (fun _ _ _ h => h) (Or.inl ⟨by rfl, ?_⟩) hHeld ?_
        rotate_left
        · intro w hSw
          (try dsimp only at hSw)
          go_simp
          all_goals with_reducible rfl
        try simp only [Act.put, List.setIfInBounds_toArray, List.set_cons_zero, List.set_cons_succ]
        refine wpAnyH_take (i := 34) (v := ?_) (arr_at rfl) (by as_aux_lemma => kernel_rfl) (by as_aux_lemma => kernel_rfl) (by as_aux_lemma => kernel_rfl) (fun _ _ _ h => h) (Or.inl ⟨by rfl, ?_⟩) hHeld ?_
        rotate_left
        · intro w hSw
          (try dsimp only at hSw)
          go_simp
          all_goals with_reducible rfl
        try simp only [Act.put, List.setIfInBounds_toArray, List.set_cons_zero, List.set_cons_succ]
        refine wpAnyH_take (i := 35) (v := ?_) (arr_at rfl) (by as_aux_lemma => kernel_rfl) (by as_aux_lemma => kernel_rfl) (by as_aux_lemma => kernel_rfl) (fun _ _ _ h => h) (Or.inl ⟨by rfl, ?_⟩) hHeld ?_
        rotate_left
        · intro w hSw
          (try dsimp only at hSw)
          go_simp
          all_goals with_reducible rfl
        try simp only [Act.put, List.setIfInBounds_toArray, List.set_cons_zero, List.set_cons_succ]
        refine wpAnyH_take (i := 37) (v := ?_) (arr_at rfl) (by as_aux_lemma => kernel_rfl) (by as_aux_lemma => kernel_rfl) (by as_aux_lemma => kernel_rfl) (fun _ _ _ h => h) (Or.inl ⟨by rfl, ?_⟩) hHeld ?_
        rotate_left
        · intro w hSw
          (try dsimp only at hSw)
          go_simp
          all_goals with_reducible rfl
        try simp only [Act.put, List.setIfInBounds_toArray, List.set_cons_zero, List.set_cons_succ]
        refine wpAnyH_take (i := 38) (v := ?_) (arr_at rfl) (by as_aux_lemma => kernel_rfl) (by as_aux_lemma => kernel_rfl) (by as_aux_lemma => kernel_rfl) (fun _ _ _ h => h) (Or.inl ⟨by rfl, ?_⟩) hHeld ?_
        rotate_left
        · intro w hSw
          (try dsimp only at hSw)
          go_simp
          all_goals with_reducible rfl
        try simp only [Act.put, List.setIfInBounds_toArray, List.set_cons_zero, List.set_cons_succ]
        refine wpAnyH_ready (rs := [36]) (by as_aux_lemma => kernel_rfl) (by simp) ?_
        refine AllReadyH.cons (arr_at rfl) (fun K hK => ?_) ?_
        ·
          go_simp
          go_at_call 26; refine (HS3.out _ hHeld.1).mono ?_; rintro e w3 ⟨va3, rfl, oa3, hb2⟩
          obtain ⟨qa3, ca3, rfl, -⟩ := own_slice oa3
          have oa3 := Joins.ownsRow_le oa3 hHeld.1.size
          try go_wp2_with fail
          refine hK.out _ _ ?_ (fun hNew => ?_)
          · exact HK.out _ (Below.trans hHeld.1 (hb2.mono hHeld.1.size))
          clear hK K hHeld
          have hHeld := hNew
          clear hNew
          clear hb2
          try simp only [Act.put, List.setIfInBounds_toArray, List.set_cons_zero, List.set_cons_succ]
          refine wpAnyH_ready (rs := [39]) (by as_aux_lemma => kernel_rfl) (by simp) ?_
          refine AllReadyH.cons (arr_at rfl) (fun K hK => ?_) ?_
          ·
            go_simp
            go_at_call 26; refine (HS4.out _ hHeld.1).mono ?_; rintro e w3 ⟨va4, rfl, oa4, hb2⟩
            obtain ⟨qa4, ca4, rfl, -⟩ := own_slice oa4
            have oa4 := Joins.ownsRow_le oa4 hHeld.1.size
            have oa3 := own_below oa3 hb2
            try go_wp2_with fail
            refine hK.out _ _ ?_ (fun hNew => ?_)
            · exact HK.out _ (Below.trans hHeld.1 (hb2.mono hHeld.1.size))
            clear hK K hHeld
            have hHeld := hNew
            clear hNew
            clear hb2
            try simp only [Act.put, List.setIfInBounds_toArray, List.set_cons_zero, List.set_cons_succ]
            refine wpAnyH_ready (rs := [40]) (by as_aux_lemma => kernel_rfl) (by simp) ?_
            refine AllReadyH.cons (arr_at rfl) (fun K hK => ?_) ?_
            ·
              go_simp
              go_at_call 25; refine (equal25_rows qa3 _ ca3 qa4 _ ca4 (sortL exs) _ (rowO_of_own oa3) (rowO_of_own oa4) (by omega)).mono ?_; rintro e w3 ⟨rfl, hb2⟩
              try go_wp2_with fail
              refine hK.out _ _ ?_ (fun hNew => ?_)
              · exact HK.out _ (Below.trans hHeld.1 (hb2.mono hHeld.1.size))
              clear hK K hHeld
              have hHeld := hNew
              clear hNew
              clear hb2
              try simp only [Act.put, List.setIfInBounds_toArray, List.set_cons_zero, List.set_cons_succ]
              refine wpAnyH_take (i := 41) (v := ?_) (arr_at rfl) (by as_aux_lemma => kernel_rfl) (by as_aux_lemma => kernel_rfl) (by as_aux_lemma => kernel_rfl) (fun _ _ _ h => h) (Or.inl ⟨by rfl, ?_⟩) hHeld ?_
              rotate_left
              · intro w hSw
                (try dsimp only at hSw)
                go_simp
                all_goals with_reducible rfl
              try simp only [Act.put, List.setIfInBounds_toArray, List.set_cons_zero, List.set_cons_succ]
              refine wpAnyH_take (i := 42) (v := ?_) (arr_at rfl) (by as_aux_lemma => kernel_rfl) (by as_aux_lemma => kernel_rfl) (by as_aux_lemma => kernel_rfl) (fun _ _ _ h => h) (Or.inl ⟨by rfl, ?_⟩) hHeld ?_
              rotate_left
              · intro w hSw
                (try dsimp only at hSw)
                go_simp
                all_goals with_reducible rfl
              try simp only [Act.put, List.setIfInBounds_toArray, List.set_cons_zero, List.set_cons_succ]
              refine wpAnyH_ready (rs := [43]) (by as_aux_lemma => kernel_rfl) (by simp) ?_
              refine AllReadyH.cons (arr_at rfl) (fun K hK => ?_) ?_
              ·
                go_simp
                go_at_call 11; refine (HAW.out _ (HWA.out.trans (hHeld.1.mono HWA.out.size))).mono ?_; rintro e w3 ⟨rfl, hb2⟩
                try go_wp2_with fail
                refine hK.out _ _ ?_ (fun hNew => ?_)
                · exact HK.out _ (Below.trans hHeld.1 (hb2.mono hHeld.1.size))
                clear hK K hHeld
                have hHeld := hNew
                clear hNew
                clear hb2
                try simp only [Act.put, List.setIfInBounds_toArray, List.set_cons_zero, List.set_cons_succ]
                refine wpAnyH_take (i := 44) (v := ?_) (arr_at rfl) (by as_aux_lemma => kernel_rfl) (by as_aux_lemma => kernel_rfl) (by as_aux_lemma => kernel_rfl) (fun _ _ _ h => h) (Or.inl ⟨by rfl, ?_⟩) hHeld ?_
                rotate_left
                · intro w hSw
                  (try dsimp only at hSw)
                  go_simp
                  all_goals with_reducible rfl
                try simp only [Act.put, List.setIfInBounds_toArray, List.set_cons_zero, List.set_cons_succ]
                refine wpAnyH_take (i := 45) (v := ?_) (arr_at rfl) (by as_aux_lemma => kernel_rfl) (by as_aux_lemma => kernel_rfl) (by as_aux_lemma => kernel_rfl) (fun _ _ _ h => h) (Or.inl ⟨by rfl, ?_⟩) hHeld ?_
                rotate_left
                · intro w hSw
                  (try dsimp only at hSw)
                  go_simp
                  all_goals with_reducible rfl
                try simp only [Act.put, List.setIfInBounds_toArray, List.set_cons_zero, List.set_cons_succ]
                refine wpAnyH_done (by as_aux_lemma => kernel_rfl) ?_ _
                refine NoPanic.normal ?_
                as_aux_lemma =>
                  go_wp2_with fail
                  go_ret
                  exact ⟨rfl, (HWA.out.trans (hHeld.1.mono HWA.out.size))⟩
              exact AllReadyH.nil
            exact AllReadyH.nil
          exact AllReadyH.nil
        exact AllReadyH.nil
      exact AllReadyH.nil
    exact AllReadyH.nil
  exact AllReadyH.nil
  | true =>
  subst hh
  have HTS := Lib.hid fun (W : World) (hW : Below wA.heap.size wA W) => (show Calls Tryz.prog 24 #[.agg #[f9 0, f9 1, f9 2, f9 3, f9 4, f9 5, f9 6, f9 7, f9 8, f9 9, f9 10, f9 11, f9 12, f9 13, f9 14, f9 15, f9 16, f9 17], .agg #[f 2, f 3, f 4, f 5, f 6, f 7, f 8, f 9, f 10, f 11, f 12, f 13, f 14, f 15, f 16, f 17, f 18, f 19]] W fun e w' => e = .returned (.bool true) ∧ Below W.heap.size W w' from same_read rfl HS.out ((HIN.out.below HWA.out).below hW) (by have := HRBW.out W hW; rw [HRO.out] at this; exact this) (HBW.out W hW))
  go_upto_region 11 with fail
  refine wp_region_noPanic ?_
  refine wp_region_held_drew (S := (fun W : World => Below wA.heap.size wA W ∧ W.cell? ⟨w9.heap.size, 0, none⟩ = some (.int .i64 t) ∧ W.cell? ⟨w9.heap.size, 1, none⟩ = some (.bool true) ∧ W.cell? ⟨w9.heap.size, 20, none⟩ = some (.slice q1 rds.length c1) ∧ W.cell? ⟨w9.heap.size, 21, none⟩ = some (.slice q2 exs.length c2) ∧ W.cell? ⟨w.heap.size, 0, none⟩ = some (.int .i64 t) ∧ W.cell? ⟨w.heap.size, 1, none⟩ = some (.bool true) ∧ W.cell? ⟨w.heap.size, 20, none⟩ = some (.slice pr nr cr) ∧ W.cell? ⟨w.heap.size, 21, none⟩ = some (.slice px nx cx))) (by kernel_rfl) (HK.out _ ((Below.refl _ _).drew)) (fun hHeld => ?_)
  refine wpAnyH_take (i := 0) (v := ?_) (arr_at rfl) (by as_aux_lemma => kernel_rfl) (by as_aux_lemma => kernel_rfl) (by as_aux_lemma => kernel_rfl) (fun _ _ _ h => h) (Or.inl ⟨by rfl, ?_⟩) hHeld ?_
  rotate_left
  · intro w hSw
    (try dsimp only at hSw)
    go_simp
    all_goals with_reducible rfl
  try simp only [Act.put, List.setIfInBounds_toArray, List.set_cons_zero, List.set_cons_succ]
  refine wpAnyH_take (i := 1) (v := ?_) (arr_at rfl) (by as_aux_lemma => kernel_rfl) (by as_aux_lemma => kernel_rfl) (by as_aux_lemma => kernel_rfl) (fun _ _ _ h => h) (Or.inl ⟨by rfl, ?_⟩) hHeld ?_
  rotate_left
  · intro w hSw
    (try dsimp only at hSw)
    go_simp
    all_goals with_reducible rfl
  try simp only [Act.put, List.setIfInBounds_toArray, List.set_cons_zero, List.set_cons_succ]
  refine wpAnyH_take (i := 2) (v := ?_) (arr_at rfl) (by as_aux_lemma => kernel_rfl) (by as_aux_lemma => kernel_rfl) (by as_aux_lemma => kernel_rfl) (fun _ _ _ h => h) (Or.inl ⟨by rfl, ?_⟩) hHeld ?_
  rotate_left
  · intro w hSw
    (try dsimp only at hSw)
    go_simp
    all_goals with_reducible rfl
  try simp only [Act.put, List.setIfInBounds_toArray, List.set_cons_zero, List.set_cons_succ]
  refine wpAnyH_take (i := 3) (v := ?_) (arr_at rfl) (by as_aux_lemma => kernel_rfl) (by as_aux_lemma => kernel_rfl) (by as_aux_lemma => kernel_rfl) (fun _ _ _ h => h) (Or.inl ⟨by rfl, ?_⟩) hHeld ?_
  rotate_left
  · intro w hSw
    (try dsimp only at hSw)
    go_simp
    all_goals with_reducible rfl
  try simp only [Act.put, List.setIfInBounds_toArray, List.set_cons_zero, List.set_cons_succ]
  refine wpAnyH_take (i := 4) (v := ?_) (arr_at rfl) (by as_aux_lemma => kernel_rfl) (by as_aux_lemma => kernel_rfl) (by as_aux_lemma => kernel_rfl) (fun _ _ _ h => h) (Or.inl ⟨by rfl, ?_⟩) hHeld ?_
  rotate_left
  · intro w hSw
    (try dsimp only at hSw)
    go_simp
    all_goals with_reducible rfl
  try simp only [Act.put, List.setIfInBounds_toArray, List.set_cons_zero, List.set_cons_succ]
  refine wpAnyH_take (i := 5) (v := ?_) (arr_at rfl) (by as_aux_lemma => kernel_rfl) (by as_aux_lemma => kernel_rfl) (by as_aux_lemma => kernel_rfl) (fun _ _ _ h => h) (Or.inl ⟨by rfl, ?_⟩) hHeld ?_
  rotate_left
  · intro w hSw
    (try dsimp only at hSw)
    go_simp
    all_goals with_reducible rfl
  try simp only [Act.put, List.setIfInBounds_toArray, List.set_cons_zero, List.set_cons_succ]
  refine wpAnyH_take (i := 6) (v := ?_) (arr_at rfl) (by as_aux_lemma => kernel_rfl) (by as_aux_lemma => kernel_rfl) (by as_aux_lemma => kernel_rfl) (fun _ _ _ h => h) (Or.inl ⟨by rfl, ?_⟩) hHeld ?_
  rotate_left
  · intro w hSw
    (try dsimp only at hSw)
    go_simp
    all_goals with_reducible rfl
  try simp only [Act.put, List.setIfInBounds_toArray, List.set_cons_zero, List.set_cons_succ]
  refine wpAnyH_take (i := 7) (v := ?_) (arr_at rfl) (by as_aux_lemma => kernel_rfl) (by as_aux_lemma => kernel_rfl) (by as_aux_lemma => kernel_rfl) (fun _ _ _ h => h) (Or.inl ⟨by rfl, ?_⟩) hHeld ?_
  rotate_left
  · intro w hSw
    (try dsimp only at hSw)
    go_simp
    all_goals with_reducible rfl
  try simp only [Act.put, List.setIfInBounds_toArray, List.set_cons_zero, List.set_cons_succ]
  refine wpAnyH_take (i := 8) (v := ?_) (arr_at rfl) (by as_aux_lemma => kernel_rfl) (by as_aux_lemma => kernel_rfl) (by as_aux_lemma => kernel_rfl) (fun _ _ _ h => h) (Or.inl ⟨by rfl, ?_⟩) hHeld ?_
  rotate_left
  · intro w hSw
    (try dsimp only at hSw)
    go_simp
    all_goals with_reducible rfl
  try simp only [Act.put, List.setIfInBounds_toArray, List.set_cons_zero, List.set_cons_succ]
  refine wpAnyH_take (i := 9) (v := ?_) (arr_at rfl) (by as_aux_lemma => kernel_rfl) (by as_aux_lemma => kernel_rfl) (by as_aux_lemma => kernel_rfl) (fun _ _ _ h => h) (Or.inl ⟨by rfl, ?_⟩) hHeld ?_
  rotate_left
  · intro w hSw
    (try dsimp only at hSw)
    go_simp
    all_goals with_reducible rfl
  try simp only [Act.put, List.setIfInBounds_toArray, List.set_cons_zero, List.set_cons_succ]
  refine wpAnyH_take (i := 10) (v := ?_) (arr_at rfl) (by as_aux_lemma => kernel_rfl) (by as_aux_lemma => kernel_rfl) (by as_aux_lemma => kernel_rfl) (fun _ _ _ h => h) (Or.inl ⟨by rfl, ?_⟩) hHeld ?_
  rotate_left
  · intro w hSw
    (try dsimp only at hSw)
    go_simp
    all_goals with_reducible rfl
  try simp only [Act.put, List.setIfInBounds_toArray, List.set_cons_zero, List.set_cons_succ]
  refine wpAnyH_take (i := 11) (v := ?_) (arr_at rfl) (by as_aux_lemma => kernel_rfl) (by as_aux_lemma => kernel_rfl) (by as_aux_lemma => kernel_rfl) (fun _ _ _ h => h) (Or.inl ⟨by rfl, ?_⟩) hHeld ?_
  rotate_left
  · intro w hSw
    (try dsimp only at hSw)
    go_simp
    all_goals with_reducible rfl
  try simp only [Act.put, List.setIfInBounds_toArray, List.set_cons_zero, List.set_cons_succ]
  refine wpAnyH_take (i := 12) (v := ?_) (arr_at rfl) (by as_aux_lemma => kernel_rfl) (by as_aux_lemma => kernel_rfl) (by as_aux_lemma => kernel_rfl) (fun _ _ _ h => h) (Or.inl ⟨by rfl, ?_⟩) hHeld ?_
  rotate_left
  · intro w hSw
    (try dsimp only at hSw)
    go_simp
    all_goals with_reducible rfl
  try simp only [Act.put, List.setIfInBounds_toArray, List.set_cons_zero, List.set_cons_succ]
  refine wpAnyH_take (i := 13) (v := ?_) (arr_at rfl) (by as_aux_lemma => kernel_rfl) (by as_aux_lemma => kernel_rfl) (by as_aux_lemma => kernel_rfl) (fun _ _ _ h => h) (Or.inl ⟨by rfl, ?_⟩) hHeld ?_
  rotate_left
  · intro w hSw
    (try dsimp only at hSw)
    go_simp
    all_goals with_reducible rfl
  try simp only [Act.put, List.setIfInBounds_toArray, List.set_cons_zero, List.set_cons_succ]
  refine wpAnyH_take (i := 14) (v := ?_) (arr_at rfl) (by as_aux_lemma => kernel_rfl) (by as_aux_lemma => kernel_rfl) (by as_aux_lemma => kernel_rfl) (fun _ _ _ h => h) (Or.inl ⟨by rfl, ?_⟩) hHeld ?_
  rotate_left
  · intro w hSw
    (try dsimp only at hSw)
    go_simp
    all_goals with_reducible rfl
  try simp only [Act.put, List.setIfInBounds_toArray, List.set_cons_zero, List.set_cons_succ]
  refine wpAnyH_take (i := 15) (v := ?_) (arr_at rfl) (by as_aux_lemma => kernel_rfl) (by as_aux_lemma => kernel_rfl) (by as_aux_lemma => kernel_rfl) (fun _ _ _ h => h) (Or.inl ⟨by rfl, ?_⟩) hHeld ?_
  rotate_left
  · intro w hSw
    (try dsimp only at hSw)
    go_simp
    all_goals with_reducible rfl
  try simp only [Act.put, List.setIfInBounds_toArray, List.set_cons_zero, List.set_cons_succ]
  refine wpAnyH_take (i := 16) (v := ?_) (arr_at rfl) (by as_aux_lemma => kernel_rfl) (by as_aux_lemma => kernel_rfl) (by as_aux_lemma => kernel_rfl) (fun _ _ _ h => h) (Or.inl ⟨by rfl, ?_⟩) hHeld ?_
  rotate_left
  · intro w hSw
    (try dsimp only at hSw)
    go_simp
    all_goals with_reducible rfl
  try simp only [Act.put, List.setIfInBounds_toArray, List.set_cons_zero, List.set_cons_succ]
  refine wpAnyH_take (i := 17) (v := ?_) (arr_at rfl) (by as_aux_lemma => kernel_rfl) (by as_aux_lemma => kernel_rfl) (by as_aux_lemma => kernel_rfl) (fun _ _ _ h => h) (Or.inl ⟨by rfl, ?_⟩) hHeld ?_
  rotate_left
  · intro w hSw
    (try dsimp only at hSw)
    go_simp
    all_goals with_reducible rfl
  try simp only [Act.put, List.setIfInBounds_toArray, List.set_cons_zero, List.set_cons_succ]
  refine wpAnyH_take (i := 18) (arr_at rfl) (by as_aux_lemma => kernel_rfl) (by as_aux_lemma => kernel_rfl) (by as_aux_lemma => kernel_rfl) (fun _ _ _ h => h) (yieldsIf_load_mid (by rfl) 25 _ rfl w9.heap.size 2 rfl [f9 0, f9 1, f9 2, f9 3, f9 4, f9 5, f9 6, f9 7, f9 8, f9 9, f9 10, f9 11, f9 12, f9 13, f9 14, f9 15, f9 16, f9 17] _ (fun W hS => by have := rowIs_range (HRAW.out W hS.1) 2 18 (by omega); exact this) Tryz.underlying25 rfl info25s) hHeld ?_
  try simp only [Act.put, List.setIfInBounds_toArray, List.set_cons_zero, List.set_cons_succ]
  refine wpAnyH_take (i := 19) (v := ?_) (arr_at rfl) (by as_aux_lemma => kernel_rfl) (by as_aux_lemma => kernel_rfl) (by as_aux_lemma => kernel_rfl) (fun _ _ _ h => h) (Or.inl ⟨by rfl, ?_⟩) hHeld ?_
  rotate_left
  · intro w hSw
    (try dsimp only at hSw)
    go_simp
    all_goals with_reducible rfl
  try simp only [Act.put, List.setIfInBounds_toArray, List.set_cons_zero, List.set_cons_succ]
  refine wpAnyH_take (i := 20) (arr_at rfl) (by as_aux_lemma => kernel_rfl) (by as_aux_lemma => kernel_rfl) (by as_aux_lemma => kernel_rfl) (fun _ _ _ h => h) (yieldsIf_load_mid (by rfl) 25 _ rfl w.heap.size 2 rfl [f 2, f 3, f 4, f 5, f 6, f 7, f 8, f 9, f 10, f 11, f 12, f 13, f 14, f 15, f 16, f 17, f 18, f 19] _ (fun W hS => by have := rowIs_range (HRSW.out W hS.1) 2 18 (by omega); exact this) Tryz.underlying25 rfl info25s) hHeld ?_
  try simp only [Act.put, List.setIfInBounds_toArray, List.set_cons_zero, List.set_cons_succ]
  refine wpAnyH_ready (rs := [21]) (by as_aux_lemma => kernel_rfl) (by simp) ?_
  refine AllReadyH.cons (arr_at rfl) (fun K hK => ?_) ?_
  ·
    go_simp
    go_at_call 24; refine (HTS.out _ hHeld.1).mono ?_; rintro e w3 ⟨rfl, hb2⟩
    try go_wp2_with fail
    refine hK.out _ _ ?_ (fun hNew => ?_)
    · exact HK.out _ (Below.trans hHeld.1 (hb2.mono hHeld.1.size))
    clear hK K hHeld
    have hHeld := hNew
    clear hNew
    clear hb2
    try simp only [Act.put, List.setIfInBounds_toArray, List.set_cons_zero, List.set_cons_succ]
    refine wpAnyH_take (i := 22) (v := ?_) (arr_at rfl) (by as_aux_lemma => kernel_rfl) (by as_aux_lemma => kernel_rfl) (by as_aux_lemma => kernel_rfl) (fun _ _ _ h => h) (Or.inl ⟨by rfl, ?_⟩) hHeld ?_
    rotate_left
    · intro w hSw
      (try dsimp only at hSw)
      go_simp
      all_goals with_reducible rfl
    try simp only [Act.put, List.setIfInBounds_toArray, List.set_cons_zero, List.set_cons_succ]
    refine wpAnyH_take (i := 23) (v := ?_) (arr_at rfl) (by as_aux_lemma => kernel_rfl) (by as_aux_lemma => kernel_rfl) (by as_aux_lemma => kernel_rfl) (fun _ _ _ h => h) (Or.inl ⟨by rfl, ?_⟩) hHeld ?_
    rotate_left
    · intro w hSw
      (try dsimp only at hSw)
      go_simp
      all_goals with_reducible rfl
    try simp only [Act.put, List.setIfInBounds_toArray, List.set_cons_zero, List.set_cons_succ]
    refine wpAnyH_take (i := 24) (v := ?_) (arr_at rfl) (by as_aux_lemma => kernel_rfl) (by as_aux_lemma => kernel_rfl) (by as_aux_lemma => kernel_rfl) (fun _ _ _ h => h) (Or.inl ⟨by rfl, ?_⟩) hHeld ?_
    rotate_left
    · intro w hSw
      (try dsimp only at hSw)
      go_simp
      all_goals with_reducible rfl
    try simp only [Act.put, List.setIfInBounds_toArray, List.set_cons_zero, List.set_cons_succ]
    refine wpAnyH_take (i := 25) (v := ?_) (arr_at rfl) (by as_aux_lemma => kernel_rfl) (by as_aux_lemma => kernel_rfl) (by as_aux_lemma => kernel_rfl) (fun _ _ _ h => h) (Or.inl ⟨by rfl, ?_⟩) hHeld ?_
    rotate_left
    · intro w hSw
      (try dsimp only at hSw)
      go_simp
      all_goals with_reducible rfl
    try simp only [Act.put, List.setIfInBounds_toArray, List.set_cons_zero, List.set_cons_succ]
    refine wpAnyH_take (i := 26) (v := ?_) (arr_at rfl) (by as_aux_lemma => kernel_rfl) (by as_aux_lemma => kernel_rfl) (by as_aux_lemma => kernel_rfl) (fun _ _ _ h => h) (Or.inl ⟨by rfl, ?_⟩) hHeld ?_
    rotate_left
    · intro w hSw
      (try dsimp only at hSw)
      go_simp
      all_goals with_reducible rfl
    try simp only [Act.put, List.setIfInBounds_toArray, List.set_cons_zero, List.set_cons_succ]
    refine wpAnyH_take (i := 28) (v := ?_) (arr_at rfl) (by as_aux_lemma => kernel_rfl) (by as_aux_lemma => kernel_rfl) (by as_aux_lemma => kernel_rfl) (fun _ _ _ h => h) (Or.inl ⟨by rfl, ?_⟩) hHeld ?_
    rotate_left
    · intro w hSw
      (try dsimp only at hSw)
      go_simp
      all_goals with_reducible rfl
    try simp only [Act.put, List.setIfInBounds_toArray, List.set_cons_zero, List.set_cons_succ]
    refine wpAnyH_take (i := 29) (v := ?_) (arr_at rfl) (by as_aux_lemma => kernel_rfl) (by as_aux_lemma => kernel_rfl) (by as_aux_lemma => kernel_rfl) (fun _ _ _ h => h) (Or.inl ⟨by rfl, ?_⟩) hHeld ?_
    rotate_left
    · intro w hSw
      (try dsimp only at hSw)
      go_simp
      all_goals with_reducible rfl
    try simp only [Act.put, List.setIfInBounds_toArray, List.set_cons_zero, List.set_cons_succ]
    refine wpAnyH_ready (rs := [27]) (by as_aux_lemma => kernel_rfl) (by simp) ?_
    refine AllReadyH.cons (arr_at rfl) (fun K hK => ?_) ?_
    ·
      go_simp
      go_at_call 26; refine (HS1.out _ hHeld.1).mono ?_; rintro e w3 ⟨va1, rfl, oa1, hb2⟩
      obtain ⟨qa1, ca1, rfl, -⟩ := own_slice oa1
      have oa1 := Joins.ownsRow_le oa1 hHeld.1.size
      try go_wp2_with fail
      refine hK.out _ _ ?_ (fun hNew => ?_)
      · exact HK.out _ (Below.trans hHeld.1 (hb2.mono hHeld.1.size))
      clear hK K hHeld
      have hHeld := hNew
      clear hNew
      clear hb2
      try simp only [Act.put, List.setIfInBounds_toArray, List.set_cons_zero, List.set_cons_succ]
      refine wpAnyH_ready (rs := [30]) (by as_aux_lemma => kernel_rfl) (by simp) ?_
      refine AllReadyH.cons (arr_at rfl) (fun K hK => ?_) ?_
      ·
        go_simp
        go_at_call 26; refine (HS2.out _ hHeld.1).mono ?_; rintro e w3 ⟨va2, rfl, oa2, hb2⟩
        obtain ⟨qa2, ca2, rfl, -⟩ := own_slice oa2
        have oa2 := Joins.ownsRow_le oa2 hHeld.1.size
        have oa1 := own_below oa1 hb2
        try go_wp2_with fail
        refine hK.out _ _ ?_ (fun hNew => ?_)
        · exact HK.out _ (Below.trans hHeld.1 (hb2.mono hHeld.1.size))
        clear hK K hHeld
        have hHeld := hNew
        clear hNew
        clear hb2
        try simp only [Act.put, List.setIfInBounds_toArray, List.set_cons_zero, List.set_cons_succ]
        refine wpAnyH_ready (rs := [31]) (by as_aux_lemma => kernel_rfl) (by simp) ?_
        refine AllReadyH.cons (arr_at rfl) (fun K hK => ?_) ?_
        ·
          go_simp
          go_at_call 25; refine (equal25_rows qa1 _ ca1 qa2 _ ca2 (sortL rds) _ (rowO_of_own oa1) (rowO_of_own oa2) (by omega)).mono ?_; rintro e w3 ⟨rfl, hb2⟩
          try go_wp2_with fail
          refine hK.out _ _ ?_ (fun hNew => ?_)
          · exact HK.out _ (Below.trans hHeld.1 (hb2.mono hHeld.1.size))
          clear hK K hHeld
          have hHeld := hNew
          clear hNew
          clear hb2
          try simp only [Act.put, List.setIfInBounds_toArray, List.set_cons_zero, List.set_cons_succ]
          refine wpAnyH_take (i := 32) (v := ?_) (arr_at rfl) (by as_aux_lemma => kernel_rfl) (by as_aux_lemma => kernel_rfl) (by as_aux_lemma => kernel_rfl) (fun _ _ _ h => h) (Or.inl ⟨by rfl, ?_⟩) hHeld ?_
          rotate_left
          · intro w hSw
            (try dsimp only at hSw)
            go_simp
            all_goals with_reducible rfl
          try simp only [Act.put, List.setIfInBounds_toArray, List.set_cons_zero, List.set_cons_succ]
          refine wpAnyH_take (i := 33) (v := ?_) (arr_at rfl) (by as_aux_lemma => kernel_rfl) (by as_aux_lemma => kernel_rfl) (by as_aux_lemma => kernel_rfl) (fun _ _ _ h => h) (Or.inl ⟨by rfl, ?_⟩) hHeld ?_
          rotate_left
          · intro w hSw
            (try dsimp only at hSw)
            go_simp
            all_goals with_reducible rfl
          try simp only [Act.put, List.setIfInBounds_toArray, List.set_cons_zero, List.set_cons_succ]
          refine wpAnyH_take (i := 34) (v := ?_) (arr_at rfl) (by as_aux_lemma => kernel_rfl) (by as_aux_lemma => kernel_rfl) (by as_aux_lemma => kernel_rfl) (fun _ _ _ h => h) (Or.inl ⟨by rfl, ?_⟩) hHeld ?_
          rotate_left
          · intro w hSw
            (try dsimp only at hSw)
            go_simp
            all_goals with_reducible rfl
          try simp only [Act.put, List.setIfInBounds_toArray, List.set_cons_zero, List.set_cons_succ]
          refine wpAnyH_take (i := 35) (v := ?_) (arr_at rfl) (by as_aux_lemma => kernel_rfl) (by as_aux_lemma => kernel_rfl) (by as_aux_lemma => kernel_rfl) (fun _ _ _ h => h) (Or.inl ⟨by rfl, ?_⟩) hHeld ?_
          rotate_left
          · intro w hSw
            (try dsimp only at hSw)
            go_simp
            all_goals with_reducible rfl
          try simp only [Act.put, List.setIfInBounds_toArray, List.set_cons_zero, List.set_cons_succ]
          refine wpAnyH_take (i := 37) (v := ?_) (arr_at rfl) (by as_aux_lemma => kernel_rfl) (by as_aux_lemma => kernel_rfl) (by as_aux_lemma => kernel_rfl) (fun _ _ _ h => h) (Or.inl ⟨by rfl, ?_⟩) hHeld ?_
          rotate_left
          · intro w hSw
            (try dsimp only at hSw)
            go_simp
            all_goals with_reducible rfl
          try simp only [Act.put, List.setIfInBounds_toArray, List.set_cons_zero, List.set_cons_succ]
          refine wpAnyH_take (i := 38) (v := ?_) (arr_at rfl) (by as_aux_lemma => kernel_rfl) (by as_aux_lemma => kernel_rfl) (by as_aux_lemma => kernel_rfl) (fun _ _ _ h => h) (Or.inl ⟨by rfl, ?_⟩) hHeld ?_
          rotate_left
          · intro w hSw
            (try dsimp only at hSw)
            go_simp
            all_goals with_reducible rfl
          try simp only [Act.put, List.setIfInBounds_toArray, List.set_cons_zero, List.set_cons_succ]
          refine wpAnyH_ready (rs := [36]) (by as_aux_lemma => kernel_rfl) (by simp) ?_
          refine AllReadyH.cons (arr_at rfl) (fun K hK => ?_) ?_
          ·
            go_simp
            go_at_call 26; refine (HS3.out _ hHeld.1).mono ?_; rintro e w3 ⟨va3, rfl, oa3, hb2⟩
            obtain ⟨qa3, ca3, rfl, -⟩ := own_slice oa3
            have oa3 := Joins.ownsRow_le oa3 hHeld.1.size
            try go_wp2_with fail
            refine hK.out _ _ ?_ (fun hNew => ?_)
            · exact HK.out _ (Below.trans hHeld.1 (hb2.mono hHeld.1.size))
            clear hK K hHeld
            have hHeld := hNew
            clear hNew
            clear hb2
            try simp only [Act.put, List.setIfInBounds_toArray, List.set_cons_zero, List.set_cons_succ]
            refine wpAnyH_ready (rs := [39]) (by as_aux_lemma => kernel_rfl) (by simp) ?_
            refine AllReadyH.cons (arr_at rfl) (fun K hK => ?_) ?_
            ·
              go_simp
              go_at_call 26; refine (HS4.out _ hHeld.1).mono ?_; rintro e w3 ⟨va4, rfl, oa4, hb2⟩
              obtain ⟨qa4, ca4, rfl, -⟩ := own_slice oa4
              have oa4 := Joins.ownsRow_le oa4 hHeld.1.size
              have oa3 := own_below oa3 hb2
              try go_wp2_with fail
              refine hK.out _ _ ?_ (fun hNew => ?_)
              · exact HK.out _ (Below.trans hHeld.1 (hb2.mono hHeld.1.size))
              clear hK K hHeld
              have hHeld := hNew
              clear hNew
              clear hb2
              try simp only [Act.put, List.setIfInBounds_toArray, List.set_cons_zero, List.set_cons_succ]
              refine wpAnyH_ready (rs := [40]) (by as_aux_lemma => kernel_rfl) (by simp) ?_
              refine AllReadyH.cons (arr_at rfl) (fun K hK => ?_) ?_
              ·
                go_simp
                go_at_call 25; refine (equal25_rows qa3 _ ca3 qa4 _ ca4 (sortL exs) _ (rowO_of_own oa3) (rowO_of_own oa4) (by omega)).mono ?_; rintro e w3 ⟨rfl, hb2⟩
                try go_wp2_with fail
                refine hK.out _ _ ?_ (fun hNew => ?_)
                · exact HK.out _ (Below.trans hHeld.1 (hb2.mono hHeld.1.size))
                clear hK K hHeld
                have hHeld := hNew
                clear hNew
                clear hb2
                try simp only [Act.put, List.setIfInBounds_toArray, List.set_cons_zero, List.set_cons_succ]
                refine wpAnyH_take (i := 41) (v := ?_) (arr_at rfl) (by as_aux_lemma => kernel_rfl) (by as_aux_lemma => kernel_rfl) (by as_aux_lemma => kernel_rfl) (fun _ _ _ h => h) (Or.inl ⟨by rfl, ?_⟩) hHeld ?_
                rotate_left
                · intro w hSw
                  (try dsimp only at hSw)
                  go_simp
                  all_goals with_reducible rfl
                try simp only [Act.put, List.setIfInBounds_toArray, List.set_cons_zero, List.set_cons_succ]
                refine wpAnyH_take (i := 42) (v := ?_) (arr_at rfl) (by as_aux_lemma => kernel_rfl) (by as_aux_lemma => kernel_rfl) (by as_aux_lemma => kernel_rfl) (fun _ _ _ h => h) (Or.inl ⟨by rfl, ?_⟩) hHeld ?_
                rotate_left
                · intro w hSw
                  (try dsimp only at hSw)
                  go_simp
                  all_goals with_reducible rfl
                try simp only [Act.put, List.setIfInBounds_toArray, List.set_cons_zero, List.set_cons_succ]
                refine wpAnyH_ready (rs := [43]) (by as_aux_lemma => kernel_rfl) (by simp) ?_
                refine AllReadyH.cons (arr_at rfl) (fun K hK => ?_) ?_
                ·
                  go_simp
                  go_at_call 11; refine (HAW.out _ (HWA.out.trans (hHeld.1.mono HWA.out.size))).mono ?_; rintro e w3 ⟨rfl, hb2⟩
                  try go_wp2_with fail
                  refine hK.out _ _ ?_ (fun hNew => ?_)
                  · exact HK.out _ (Below.trans hHeld.1 (hb2.mono hHeld.1.size))
                  clear hK K hHeld
                  have hHeld := hNew
                  clear hNew
                  clear hb2
                  try simp only [Act.put, List.setIfInBounds_toArray, List.set_cons_zero, List.set_cons_succ]
                  refine wpAnyH_take (i := 44) (v := ?_) (arr_at rfl) (by as_aux_lemma => kernel_rfl) (by as_aux_lemma => kernel_rfl) (by as_aux_lemma => kernel_rfl) (fun _ _ _ h => h) (Or.inl ⟨by rfl, ?_⟩) hHeld ?_
                  rotate_left
                  · intro w hSw
                    (try dsimp only at hSw)
                    go_simp
                    all_goals with_reducible rfl
                  try simp only [Act.put, List.setIfInBounds_toArray, List.set_cons_zero, List.set_cons_succ]
                  refine wpAnyH_take (i := 45) (v := ?_) (arr_at rfl) (by as_aux_lemma => kernel_rfl) (by as_aux_lemma => kernel_rfl) (by as_aux_lemma => kernel_rfl) (fun _ _ _ h => h) (Or.inl ⟨by rfl, ?_⟩) hHeld ?_
                  rotate_left
                  · intro w hSw
                    (try dsimp only at hSw)
                    go_simp
                    all_goals with_reducible rfl
                  try simp only [Act.put, List.setIfInBounds_toArray, List.set_cons_zero, List.set_cons_succ]
                  refine wpAnyH_done (by as_aux_lemma => kernel_rfl) ?_ _
                  refine NoPanic.normal ?_
                  as_aux_lemma =>
                    go_wp2_with fail
                    go_ret
                    exact ⟨rfl, (HWA.out.trans (hHeld.1.mono HWA.out.size))⟩
                exact AllReadyH.nil
              exact AllReadyH.nil
            exact AllReadyH.nil
          exact AllReadyH.nil
        exact AllReadyH.nil
      exact AllReadyH.nil
    exact AllReadyH.nil
  exact AllReadyH.nil
end Go.Proofs.YtnlpjncljbaapaaGreatDoor
