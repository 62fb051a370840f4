/- laws.FnSetBack, walked. -/
import Derived.Test.YtnlpjncljbaapaaGreatDoorRa
import Derived.Test.YtnlpjncljbaapaaGreatDoorWs
import Derived.Test.YtnlpjncljbaapaaGreatDoorWz
import Derived.Test.YtnlpjncljbaapaaGreatDoorRl
namespace Go.Proofs.YtnlpjncljbaapaaGreatDoor
open Go.RowKit

theorem wLines_cons (t : Int) (hr : Bool) (o : Opt) (rds exs : List Int) : wLines t (if hr then some o else none) rds exs = dtL t :: restL hr (rrTx o) rds exs := by
  cases hr <;> simp [wLines, restL, opt1, rLine]
theorem zero_good : OptGood (rawOf 0 0 0 0 (fun _ => []) [] 0) where
  fr := by decide
  len := fun k => by
    show (optL (fun _ => []) k).length ≤ 1000
    match k with
    | 0 | 1 | 2 | 3 | 4 | 5 | 6 | 7 | 8 | 9 | 10 | 11 | 12 | 13 | 14 | 15 | 16 | 17 | 18 => exact Nat.zero_le _
    | k + 19 => simp [optL]
  dlen := by decide
  prod := by decide
  bd := fun k hk x hx => by
    have hk : k = 0 ∨ k = 1 ∨ k = 2 ∨ k = 3 ∨ k = 4 ∨ k = 5 ∨ k = 6 ∨ k = 7 := by omega
    rcases hk with e | e | e | e | e | e | e | e <;> subst e <;> cases hx
  dbd := fun d hd => by cases hd
  iv := by decide
section
variable {t : Int} {hr : Bool} {fr : Nat} {hs : Bool} {st iv wk ct : Int} {hu : Bool} {un : Int} {p : Nat → Option Addr} {n c : Nat → Nat} {pr : Option Addr} {nr cr : Nat} {px : Option Addr} {nx cx : Nat} {l : Nat → List Int} {dl : List (Int × Int)} {rds exs : List Int} {f : Nat → Value}
/-- toTextSet of the set that was asked. -/
theorem toText_says (w : World) (h : TextSays t hr fr hs st iv wk ct hu un p n c pr nr cr px nx cx l dl rds exs f) (hin : SetIn w p n c pr nr cr px nx cx l dl rds exs) :
    Calls Tryz.prog 21 #[.agg (rowA 22 f)] w fun e w' => ∃ f' sl q1 c1 q2 c2, e = .returned (.agg (rowA 22 (toldF t hr f' (.slice q1 nr c1) (.slice q2 nx c2)))) ∧ RuleIn w' t hr f' sl (if hr then some (rwOf fr hu un ct iv l dl wk) else none) ∧ RowO w' q1 nr rds ∧ RowO w' q2 nx exs ∧ Below w.heap.size w w' := by
  have ht := (says_start h).1
  have h12 := h.2.1
  have h13 := h.2.2.1
  cases hr with
  | false =>
    have e : rowA 22 f = sSetC t false 0 false 0 0 0 0 false 0 (fun _ => none) (fun _ => 0) (fun _ => 0) pr nr cr px nx cx := by
      rw [rowA_congr (h.2.2.2.2.2 rfl), sSetF_row]
    rw [e]
    refine (toTextSet_any t false 0 0 0 0 false 0 (fun _ => none) (fun _ => 0) (fun _ => 0) pr nr cr px nx cx (fun _ => []) [] rds exs w (fun e => by cases e) hin.rr hin.rx (by omega) (fun e => by cases e) (fun _ => rfl) (fun e => by cases e) (by omega) (by omega)).mono ?_
    rintro e w' ⟨f', sl, q1, c1, q2, c2, he, hri, h1, h2, hb⟩
    exact ⟨f', sl, q1, c1, q2, c2, he, hri zero_good, h1, h2, hb⟩
  | true =>
    obtain ⟨hc, hu0, he⟩ := h.2.2.2.2.1 rfl
    have e : rowA 22 f = sSetC t true fr false 0 iv wk ct hu (unOf hu un) p n c pr nr cr px nx cx := by
      rw [rowA_congr he, sSetF_row]; rfl
    rw [e]
    have hS := raw_small (wk := wk) hc
    refine (toTextSet_any t true fr iv wk ct hu (unOf hu un) p n c pr nr cr px nx cx l dl rds exs w (fun _ => hin) hin.rr hin.rx (by omega) (fun _ => ?_) (fun e => by cases e) (fun _ k h1 h2 => ?_) (by omega) (by omega)).mono ?_
    · cases hu with
      | false => rfl
      | true => simp [unOf, hu0 rfl]
    · by_cases hk : k = 13
      · subst hk
        have := hin.rd.1
        have := hc.h_dl.1
        omega
      · have h3 := (hin.ro k h1 h2 hk).1
        have h4 : (l k).length ≤ 12 := by
          have h9 : k = 8 ∨ k = 9 ∨ k = 10 ∨ k = 11 ∨ k = 12 ∨ k = 14 ∨ k = 15 ∨ k = 16 ∨ k = 17 := by omega
          rcases h9 with e | e | e | e | e | e | e | e | e <;> subst e
          · exact hc.h_l8.1
          · exact hc.h_l9.1
          · exact hc.h_l10.1
          · exact hc.h_l11.1
          · exact hc.h_l12.1
          · exact hc.h_l14.1
          · exact hc.h_l15.1
          · exact hc.h_l16.1
          · exact hc.h_l17.1
        omega
    · rintro e w' ⟨f', sl, q1, c1, q2, c2, he, hri, h1, h2, hb⟩
      exact ⟨f', sl, q1, c1, q2, c2, he, hri (raw_good hc _), h1, h2, hb⟩
end
theorem RuleTold.rin {w : World} {S B : Nat} {t : Int} {b : Bool} {f : Nat → Value} {r : Option Opt} (h : RuleTold w S B t b f r) (hg : ∀ o, r = some o → OptGood o) : ∃ sl, RuleIn w t b f sl r := by
  cases r with
  | none => exact ⟨fun _ => .slice none 0 0, h⟩
  | some o =>
    obtain ⟨hb, sl, v, hf, hr, -, ho⟩ := h
    exact ⟨sl, hb, v, B, hf, hr.ints, ho, hg o rfl⟩
set_option maxRecDepth 100000 in
set_option maxHeartbeats 16000000 in
theorem law_back (t : Int) (hr : Bool) (fr : Nat) (hs : Bool) (st iv wk ct : Int) (hu : Bool) (un : Int) (p : Nat → Option Addr) (n c : Nat → Nat) (pr : Option Addr) (nr cr : Nat) (px : Option Addr) (nx cx : Nat) (l : Nat → List Int) (dl : List (Int × Int)) (rds exs : List Int) (w : World) (hG : Glob w)
    (h : SetIn w p n c pr nr cr px nx cx l dl rds exs) :
    Calls Tryz.prog 8 #[.agg (sSetC t hr fr hs st iv wk ct hu un p n c pr nr cr px nx cx)] w fun e w' => e = .returned (.bool true) ∧ Below w.heap.size w w' := by
  have hB := below_a1 (w := w) (o := .cells (sSetC t hr fr hs st iv wk ct hu un p n c pr nr cr px nx cx) 28)
  have hR := sSet_at t hr fr hs st iv wk ct hu un p n c pr nr cr px nx cx w
  have HRC := Lib.hid (sSetF_row t hr fr hs st iv wk ct hu un p n c pr nr cr px nx cx)
  have HF := Lib.hid fun W : World => fits2_any t hr fr hs st iv wk ct hu un p n c pr nr cr px nx cx W
  have HAW := Lib.hid fun (W : World) (hW : Below w.heap.size w W) => awake_any W (hG.on hW)
  have HIN := Lib.hid h
  have HG := Lib.hid hG
  obtain ⟨d8, hud8⟩ := Go.Proofs.YtnlpjncljbaapaaGreatDoor.u28
  have HU8 := Lib.hid hud8
  obtain ⟨d38, hud38⟩ := Go.Proofs.YtnlpjncljbaapaaGreatDoor.u38
  have HU38 := Lib.hid hud38
  clear hud8 hud38 h hG
  go_enter Tryz.func8, Tryz.ntmps8
  unfold sSetC at *
  go_upto_region 1 with fail
  generalize hw1 : w.alloc (.cells #[_, _, _, _, _, _, _, _, _, _, _, _, _, _, _, _, _, _, _, _, _, _] 28) = w1 at *
  have HB := Lib.hid hB
  have HR := Lib.hid hR
  clear hw1 hB hR
  go_wp2_with ((with_reducible refine gd_load 28 ?_); refine wpl_load_row0 rfl 28 _ rfl w.heap.size 28 22 22 _ rfl HR.out (by decide) d8 HU8.out.1 HU8.out.2 info28s ?_; rw [HRC.out])
  refine (HF.out _).mono ?_; rintro e w2 ⟨⟨b, rfl, hfit⟩, hb2⟩
  have HB2 := Lib.hid (HB.out.trans (hb2.mono HB.out.size))
  have HR2 := Lib.hid (below_row HR.out hb2 HR.out.lt)
  clear hb2
  cases b with
  | false => go_wp2_with fail; go_ret; exact ⟨rfl, HB2.out⟩
  | true =>
  obtain ⟨hn, hnr, hnx⟩ := hfit rfl
  have HT := Lib.hid fun (W : World) (hW : Below w.heap.size w W) => textSet_any t hr fr hs st iv wk ct hu un p n c pr nr cr px nx cx l dl rds exs W (fun k a b e => (HIN.out.ro k a b e).below hW) (HIN.out.rd.below hW) hn HIN.out.nc (HIN.out.rr.below hW) (HIN.out.rx.below hW) hnr hnx HIN.out.px
  have HN := Lib.hid hn
  clear hfit hn
  unfold sSetC at HT
  go_wp2_with ((with_reducible refine gd_load 28 ?_); refine wpl_load_row0 rfl 28 _ rfl w.heap.size 28 22 22 _ rfl HR2.out (by decide) d8 HU8.out.1 HU8.out.2 info28s ?_; rw [HRC.out])
  refine (HT.out _ HB2.out).mono ?_; rintro e w3 ⟨f, b, rfl, hone, hsay, hb3⟩
  have HB3 := Lib.hid (HB2.out.trans (hb3.mono HB2.out.size))
  have HR3 := Lib.hid (below_row HR2.out hb3 HR2.out.lt)
  have HONE := Lib.hid hone
  have HSAY := Lib.hid hsay
  clear hb3 hone hsay
  cases b with
  | false =>
    go_wp2_with ((with_reducible refine gd_store 28 ?_); refine wpl_store_row rfl 28 _ _ rfl w.heap.size 0 28 22 _ (rowA 22 f) rfl rfl HR3.out (by simp [rowA_size]) (by rw [info28s, rowA_size]) (rowA_all HONE.out) ?_; intro w4 hR4 hg4)
    have HB4 := Lib.hid (HB3.out.grown hg4 HB3.out.size (fun k hk => by cases hk; exact Nat.le_refl _))
    refine (HAW.out _ HB4.out).mono ?_; rintro e w5 ⟨rfl, hb5⟩
    go_wp2_with fail
    go_ret
    exact ⟨rfl, HB4.out.trans (hb5.mono HB4.out.size)⟩
  | true =>
  have HS := Lib.hid (HSAY.out rfl)
  clear HSAY
  go_upto_region 4 with ((with_reducible refine gd_store 28 ?_); refine wpl_store_row rfl 28 _ _ rfl w.heap.size 0 28 22 _ (rowA 22 f) rfl rfl HR3.out (by simp [rowA_size]) (by rw [info28s, rowA_size]) (rowA_all HONE.out) ?_; intro w4 hR4 hg4)
  have HB4 := Lib.hid (HB3.out.grown hg4 HB3.out.size (fun k hk => by cases hk; exact Nat.le_refl _))
  have HR4 := Lib.hid (show w4.rowIs w.heap.size 28 22 f from hR4.congr fun i hi => by
    unfold updR
    rw [if_pos ⟨Nat.zero_le _, by rw [rowA_size]; omega⟩, Nat.sub_zero, rowA_get hi]
    rfl)
  have hw4 : w.heap.size < w4.heap.size := HR4.out.lt
  clear hR4 hg4 HR HR2 HR3 HB2 HB3 HT HN HF HRC
  obtain ⟨ro, hro⟩ : ∃ ro, ro = (if hr then some (rwOf fr hu un ct iv l dl wk) else none) := ⟨_, rfl⟩
  obtain ⟨its, hits⟩ : ∃ its, its = itsOf hr (rwOf fr hu un ct iv l dl wk) rds exs := ⟨_, rfl⟩
  obtain ⟨ls, hls⟩ : ∃ ls, ls = restL hr (rrTx (rwOf fr hu un ct iv l dl wk)) rds exs := ⟨_, rfl⟩
  have hl12 : rds.length ≤ 12 ∧ exs.length ≤ 12 := by have h1 := HIN.out.rr.1; have h2 := HIN.out.rx.1; have h3 := HS.out.2.1; have h4 := HS.out.2.2.1; omega
  have hm26 : ls.length ≤ 25 := by have := restL_len hr (rrTx (rwOf fr hu un ct iv l dl wk)) rds exs; rw [hls]; omega
  have HLA := Lib.hid (show LinesAre ls its by rw [hits, hls]; exact says_raw HS.out)
  have hvis := lines_vis t hr (rrTx (rwOf fr hu un ct iv l dl wk)) rds exs (fun hb => raw_vis HS.out hb)
  have hsh := lines_short t hr (rrTx (rwOf fr hu un ct iv l dl wk)) rds exs (fun hb => raw_len HS.out hb)
  have hwl := wLines_cons t hr (rwOf fr hu un ct iv l dl wk) rds exs
  rw [setLines_cons, ← hls] at hvis hsh
  rw [← hro, ← hls] at hwl
  have hd1 := itsOf_datesOf hr (rwOf fr hu un ct iv l dl wk) rds exs
  have hr1 := itsOf_ruleIn hr (rwOf fr hu un ct iv l dl wk) rds exs
  have hbad := itsOf_good hr (rwOf fr hu un ct iv l dl wk) rds exs
  have hfst := itsOf_first hr (rwOf fr hu un ct iv l dl wk) rds exs
  have hgs := raw_says HS.out
  rw [← hits] at hd1 hr1 hbad hfst
  rw [← hro] at hr1 hgs
  have h55 := fun (g cap : Nat) (W : World) (hGW : Glob W) (hst : StrsAt W g (dtL t :: ls)) (hg : g < W.heap.size) (hcap : (dtL t :: ls).length ≤ cap) => (lines_any ls its (dtL t) ⟨(dateL t).toArray⟩ t g cap W hGW hst hg hcap (by omega) (dt_named t) (says_start HS.out) (fun W => dtStart_ok t W (by have := (says_start HS.out).1; omega) (says_start HS.out).2) HLA.out.1.symm HLA.out.2 (fun j k o o' a b => (hfst j o a).trans (hfst k o' b).symm)).mono fun e w' h => h.2 hbad
  have hpair : ∀ W, Below w.heap.size w W → Calls Tryz.prog 18 #[.string ⟨(joinC 10 (dtL t :: ls)).toArray⟩] W fun e w' => GivesSet2 t (ruleIn its) (datesOf true its) (datesOf false its) W e w' := fun W hW =>
    parseSet_ok _ t its W (fun W2 h2 => set40_ok (joinC 10 (dtL t :: ls)) (dtL t :: ls) t its W2 ((HG.out.on hW).on h2) (whole_clean _ hvis (by simp)) (whole_pos _ hvis (by simp)) (whole_len _ hsh (by simp; omega)) (whole_split _ hvis (by simp)) (fun g cap W3 a b c d => h55 g cap W3 a b c d))
      (by rw [hr1]; exact fun o ho => ⟨(hgs o ho).1.fr, (hgs o ho).1.dlen⟩) (by rw [hd1.1]; omega) (by rw [hd1.2]; omega)
  rw [hr1, hd1.1, hd1.2] at hpair
  have hset : ∀ W (b : Bool) (f : Nat → Value) (sl : Nat → Value) (q1 q2 : Option Addr) (c1 c2 : Nat) (a1 a2 : Nat), Below w.heap.size w W → RuleIn W t b f sl ro → RowO W q1 a1 rds → RowO W q2 a2 exs → Calls Tryz.prog 22 #[.agg (rowA 22 (toldF t b f (.slice q1 a1 c1) (.slice q2 a2 c2)))] W fun e w' => e = .returned (.tuple #[.string ⟨(joinC 10 (dtL t :: ls)).toArray⟩, .bool true]) ∧ Below W.heap.size W w' := fun W b f sl q1 q2 c1 c2 a1 a2 hW hri h1 h2 => by
    have := setText_any t b f sl ro q1 q2 a1 c1 a2 c2 rds exs W (HG.out.on hW) (says_start HS.out) hri h1 h2 hl12.1 hl12.2 (fun o ho => (hgs o ho).2) (says_dates HS.out).1 (says_dates HS.out).2
    rw [hwl] at this
    exact this
  obtain ⟨txt, htxt⟩ : ∃ txt : ByteArray, txt = ⟨(joinC 10 (dtL t :: ls)).toArray⟩ := ⟨_, rfl⟩
  rw [← htxt] at hpair hset
  have HTO := Lib.hid fun (W : World) (hW : Below w.heap.size w W) => toText_says W HS.out (HIN.out.below hW)
  rw [← hro] at HTO
  have HP18 := Lib.hid hpair
  have HST := Lib.hid hset
  have HGS := Lib.hid hgs
  have HRO := Lib.hid hro
  clear hro hits hls hm26 HLA hvis hsh hwl hd1 hr1 hbad hfst hgs h55 hpair hset htxt
  go_wp2_with ((with_reducible refine gd_load 28 ?_); refine wpl_load_row0 rfl 28 _ rfl w.heap.size 28 22 22 _ rfl HR4.out (by decide) d8 HU8.out.1 HU8.out.2 info28s ?_)
  refine (HTO.out _ HB4.out).mono ?_; rintro e w5 ⟨f5, sl5, q5, c5, q6, c6, rfl, hri, hr1, hr2, hb5⟩
  have HW5 := Lib.hid (HB4.out.trans (hb5.mono HB4.out.size))
  have HR5 := Lib.hid (below_row HR4.out hb5 HR4.out.lt)
  have HT5 := Lib.hid (HST.out w5 _ _ _ _ _ c5 c6 _ _ HW5.out hri hr1 hr2)
  clear hri hr1 hr2 hb5
  go_wp2_with fail
  refine HT5.out.mono ?_; rintro e w6 ⟨rfl, hb6⟩
  have HW6 := Lib.hid (HW5.out.trans (hb6.mono HW5.out.size))
  have HR6 := Lib.hid (below_row HR5.out hb6 HR5.out.lt)
  clear hb6 HR5 HT5
  go_wp2_with fail
  refine (HP18.out _ HW6.out).mono ?_; rintro e w8 ⟨S8, b8, f8, rd8, ex8, rfl, hrt, ho1, ho2, hb8⟩
  obtain ⟨q1, c1, rfl, -⟩ := own_slice ho1
  obtain ⟨q2, c2, rfl, -⟩ := own_slice ho2
  have HRT8 := Lib.hid hrt
  obtain ⟨wA, hwA⟩ : ∃ W, W = w8.alloc (.cells (rowA 22 (toldF t b8 f8 (.slice q1 rds.length c1) (.slice q2 exs.length c2))) 38) := ⟨_, rfl⟩
  have hb8A : Below w8.heap.size w8 wA := by rw [hwA]; exact below_a1
  have HRA := Lib.hid (show wA.rowIs w8.heap.size 38 22 (toldF t b8 f8 (.slice q1 rds.length c1) (.slice q2 exs.length c2)) by rw [hwA]; exact rowA_at 38 22 _ w8)
  have HO1 := Lib.hid (own_below ho1 hb8A)
  have HO2 := Lib.hid (own_below ho2 hb8A)
  have HRTA := Lib.hid (hrt.below hb8A)
  have HB6A := Lib.hid (hb8.trans (hb8A.mono hb8.size))
  have HwA := Lib.hid hwA
  have HR8 := Lib.hid (below_row HR6.out HB6A.out HR6.out.lt)
  clear hrt ho1 ho2 hb8 hwA hb8A HR6
  go_upto_region 8 with ((with_reducible refine gd_store 38 ?_); refine wpl_store_last rfl 38 _ _ rfl _ (rowA 22 (toldF t b8 f8 (.slice q1 rds.length c1) (.slice q2 exs.length c2))) rfl rfl (by rw [info38s, rowA_size]) (by rw [rowA_size]; rfl) (rowA_all fun i hi => toldF_one t b8 f8 HRT8.out.one rfl rfl i hi) ?_)
  rw [← HwA.out]
  have HWA := Lib.hid (HW6.out.trans (HB6A.out.mono HW6.out.size))
  obtain ⟨sl8, hri8⟩ := HRTA.out.rin fun o ho => (HGS.out o ho).1
  have HT8 := Lib.hid (HST.out wA _ _ _ _ _ c1 c2 _ _ HWA.out hri8 (rowO_of_own HO1.out) (rowO_of_own HO2.out))
  clear hri8
  go_wp2_with ((with_reducible refine gd_load 38 ?_); refine wpl_load_row0 rfl 38 _ rfl w8.heap.size 38 22 22 _ rfl HRA.out (by decide) d38 HU38.out.1 HU38.out.2 info38s ?_)
  refine HT8.out.mono ?_; rintro e w9 ⟨rfl, hb9⟩
  have HW9 := Lib.hid (HWA.out.trans (hb9.mono HWA.out.size))
  have HRA9 := Lib.hid (below_row HRA.out hb9 HRA.out.lt)
  have HR9 := Lib.hid (below_row HR8.out hb9 HR8.out.lt)
  have HSA := Lib.hid (sameSet_raw HS.out (HIN.out.below HW9.out) (by rw [← HRO.out]; exact HRTA.out.below hb9) (own_below HO1.out hb9) (own_below HO2.out hb9) (List.Perm.refl _) (List.Perm.refl _))
  clear hb9 HT8
  go_wp2_with (first
    | ((with_reducible refine gd_load 38 ?_); refine wpl_wanted (by rfl) ?_; refine wpl_load_row0 rfl 38 _ rfl w8.heap.size 38 22 22 _ rfl HRA9.out (by decide) d38 HU38.out.1 HU38.out.2 info38s ?_)
    | ((with_reducible refine gd_load 28 ?_); refine wpl_wanted (by rfl) ?_; refine wpl_load_row0 rfl 28 _ rfl w.heap.size 28 22 22 _ rfl HR9.out (by decide) d8 HU8.out.1 HU8.out.2 info28s ?_))
  refine HSA.out.mono ?_; rintro e w10 ⟨rfl, hb10⟩
  have HW10 := Lib.hid (HW9.out.trans (hb10.mono HW9.out.size))
  clear hb10
  go_wp2_with fail
  refine (HAW.out _ HW10.out).mono ?_; rintro e w12 ⟨rfl, hb12⟩
  have HW12 := Lib.hid (HW10.out.trans (hb12.mono HW10.out.size))
  clear hb12
  go_wp2_with fail
  go_ret
  exact ⟨rfl, HW12.out⟩
end Go.Proofs.YtnlpjncljbaapaaGreatDoor
