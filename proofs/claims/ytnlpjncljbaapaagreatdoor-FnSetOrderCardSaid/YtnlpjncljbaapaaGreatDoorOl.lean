/- laws.FnSetOrder, walked. -/
import Derived.Test.YtnlpjncljbaapaaGreatDoorOd
import Derived.Test.YtnlpjncljbaapaaGreatDoorAw
import Derived.Test.YtnlpjncljbaapaaGreatDoorJn
namespace Go.Proofs.YtnlpjncljbaapaaGreatDoor
open Go.RowKit

set_option maxRecDepth 100000 in
set_option maxHeartbeats 16000000 in
theorem law_order (t : Int) (hr : Bool) (fr : Nat) (hs : Bool) (st iv wk ct : Int) (hu : Bool) (un : Int) (p : Nat → Option Addr) (n c : Nat → Nat) (pr : Option Addr) (nr cr : Nat) (px : Option Addr) (nx cx : Nat) (l : Nat → List Int) (dl : List (Int × Int)) (rds exs : List Int) (po : Option Addr) (no co : Nat) (ord : List Int) (w : World) (hG : Glob w)
    (h : SetIn w p n c pr nr cr px nx cx l dl rds exs) (hor : RowB w po no ord) :
    Calls Tryz.prog 5 #[.agg (sSetC t hr fr hs st iv wk ct hu un p n c pr nr cr px nx cx), .slice po no co] w fun e w' => e = .returned (.bool true) ∧ Below w.heap.size w w' := by
  have hB := below_a1 (w := w) (o := .cells (sSetC t hr fr hs st iv wk ct hu un p n c pr nr cr px nx cx) 28)
  have hR := sSet_at t hr fr hs st iv wk ct hu un p n c pr nr cr px nx cx w
  have HRC := Lib.hid (sSetF_row t hr fr hs st iv wk ct hu un p n c pr nr cr px nx cx)
  have HF := Lib.hid fun W : World => fits2_any t hr fr hs st iv wk ct hu un p n c pr nr cr px nx cx W
  have HAW := Lib.hid fun (W : World) (hW : Below w.heap.size w W) => awake_any W (hG.on hW)
  have HIN := Lib.hid h
  have HOR := Lib.hid hor
  have HG := Lib.hid hG
  obtain ⟨d8, hud8⟩ := Go.Proofs.YtnlpjncljbaapaaGreatDoor.u28
  have HU8 := Lib.hid hud8
  obtain ⟨d38, hud38⟩ := Go.Proofs.YtnlpjncljbaapaaGreatDoor.u38
  have HU38 := Lib.hid hud38
  clear hud8 hud38 h hG hor
  go_enter Tryz.func5, Tryz.ntmps5
  unfold sSetC at *
  go_upto_region 1 with fail
  generalize hw1 : w.alloc (.cells #[_, _, _, _, _, _, _, _, _, _, _, _, _, _, _, _, _, _, _, _, _, _] 28) = w1 at *
  have HB := Lib.hid hB
  have HR := Lib.hid hR
  clear hw1 hB hR
  go_wp2_with ((with_reducible refine gd_load 28 ?_); refine wpl_load_row0 rfl 28 _ rfl w.heap.size 28 22 22 _ rfl HR.out (by decide) d8 HU8.out.1 HU8.out.2 info28s ?_; rw [HRC.out])
  refine (HF.out _).mono ?_; rintro e w2 ⟨⟨b, rfl, hfit⟩, hb2⟩
  have HB2 := Lib.hid (HB.out.trans (hb2.mono HB.out.size))
  have HR2 := Lib.hid (below_row HR.out hb2 HR.out.lt)
  clear hb2
  cases b with
  | false => go_wp2_with fail; go_ret; exact ⟨rfl, HB2.out⟩
  | true =>
  by_cases hno : no ≤ 2147483647
  case neg =>
    have hnoi : (2147483647 : Int) < (no : Int) := by omega
    go_wp2_with fail
    go_ret
    exact ⟨rfl, HB2.out⟩
  have hnoi : ¬ (2147483647 : Int) < (no : Int) := by omega
  have hnob : decide ((2147483647 : Int) < (no : Int)) = false := by simp; omega
  obtain ⟨hn, hnr, hnx⟩ := hfit rfl
  have HT := Lib.hid fun (W : World) (hW : Below w.heap.size w W) => textSet_any t hr fr hs st iv wk ct hu un p n c pr nr cr px nx cx l dl rds exs W (fun k a b e => (HIN.out.ro k a b e).below hW) (HIN.out.rd.below hW) hn HIN.out.nc (HIN.out.rr.below hW) (HIN.out.rx.below hW) hnr hnx HIN.out.px
  have HN := Lib.hid hn
  clear hfit hn
  unfold sSetC at HT
  go_wp2_with ((with_reducible refine gd_load 28 ?_); refine wpl_load_row0 rfl 28 _ rfl w.heap.size 28 22 22 _ rfl HR2.out (by decide) d8 HU8.out.1 HU8.out.2 info28s ?_; rw [HRC.out])
  refine (HT.out _ HB2.out).mono ?_; rintro e w3 ⟨f, b, rfl, hone, hsay, hb3⟩
  have HB3 := Lib.hid (HB2.out.trans (hb3.mono HB2.out.size))
  have HR3 := Lib.hid (below_row HR2.out hb3 HR2.out.lt)
  have HONE := Lib.hid hone
  have HSAY := Lib.hid hsay
  clear hb3 hone hsay
  cases b with
  | false =>
    go_wp2_with ((with_reducible refine gd_store 28 ?_); refine wpl_store_row rfl 28 _ _ rfl w.heap.size 0 28 22 _ (rowA 22 f) rfl rfl HR3.out (by simp [rowA_size]) (by rw [info28s, rowA_size]) (rowA_all HONE.out) ?_; intro w4 hR4 hg4)
    have HB4 := Lib.hid (HB3.out.grown hg4 HB3.out.size (fun k hk => by cases hk; exact Nat.le_refl _))
    refine (HAW.out _ HB4.out).mono ?_; rintro e w5 ⟨rfl, hb5⟩
    go_wp2_with fail
    go_ret
    exact ⟨rfl, HB4.out.trans (hb5.mono HB4.out.size)⟩
  | true =>
  have HS := Lib.hid (HSAY.out rfl)
  clear HSAY
  go_upto_region 4 with ((with_reducible refine gd_store 28 ?_); refine wpl_store_row rfl 28 _ _ rfl w.heap.size 0 28 22 _ (rowA 22 f) rfl rfl HR3.out (by simp [rowA_size]) (by rw [info28s, rowA_size]) (rowA_all HONE.out) ?_; intro w4 hR4 hg4)
  have HB4 := Lib.hid (HB3.out.grown hg4 HB3.out.size (fun k hk => by cases hk; exact Nat.le_refl _))
  have HR4 := Lib.hid (show w4.rowIs w.heap.size 28 22 f from hR4.congr fun i hi => by
    unfold updR
    rw [if_pos ⟨Nat.zero_le _, by rw [rowA_size]; omega⟩, Nat.sub_zero, rowA_get hi]
    rfl)
  have hw4 : w.heap.size < w4.heap.size := HR4.out.lt
  clear hR4 hg4 HR HR2 HR3 HB2 HB3 HT HN HF HRC
  by_cases h30 : no ≤ 30
  case neg =>
    have h30i : (30 : Int) < (no : Int) := by omega
    go_wp2_with fail
    refine (HAW.out _ HB4.out).mono ?_; rintro e w5 ⟨rfl, hb5⟩
    go_wp2_with fail
    go_ret
    exact ⟨rfl, HB4.out.trans (hb5.mono HB4.out.size)⟩
  have h30i : ¬ (30 : Int) < (no : Int) := by omega
  have HC13 := Lib.hid fun (W : World) (hW : Below w.heap.size w W) => texts_any W (HG.out.on hW) (HIN.out.below hW) HS.out
  go_wp2_with ((with_reducible refine gd_load 28 ?_); refine wpl_load_row0 rfl 28 _ rfl w.heap.size 28 22 22 _ rfl HR4.out (by decide) d8 HU8.out.1 HU8.out.2 info28s ?_)
  refine (HC13.out _ HB4.out).mono ?_; rintro e w6 ⟨B6, v6, m6, rfl, hB6, hown, hm6, hb6⟩
  obtain ⟨tx, htx⟩ : ∃ tx, tx = txOf fr hu un ct iv l dl wk := ⟨_, rfl⟩
  rw [← htx] at hown hm6
  obtain ⟨A, hA⟩ : ∃ A, A = w4.heap.size := ⟨_, rfl⟩
  obtain ⟨ls, hls⟩ : ∃ ls, ls = restL hr tx rds exs := ⟨_, rfl⟩
  obtain ⟨m, hm⟩ : ∃ m, m = ls.length := ⟨_, rfl⟩
  have hm26 : m ≤ 26 := by
    have := restL_len hr tx rds exs
    have h1 := HIN.out.rr.1
    have h2 := HIN.out.rx.1
    have h3 := HS.out.2.1
    have h4 := HS.out.2.2.1
    rw [hm, hls]
    omega
  rw [setLines_cons, ← hls, List.length_cons, ← hm] at hm6
  rw [setLines_cons, ← hls] at hown
  subst hm6
  rcases hown.2 with ⟨_, h0⟩ | ⟨g, cap, cur, rfl, hg, hh, hcap, hcm, hcs, htk⟩
  · omega
  have HB6 := Lib.hid (hb6 : Below w4.heap.size w4 w6)
  have hg6 : g < w6.heap.size := (Array.getElem?_eq_some_iff.1 hh).1
  have hgA : w4.heap.size ≤ g := Nat.le_trans hB6 hg
  have HST := Lib.hid (StrsAt.of_own hown)
  have hcap1 : 1 ≤ cap := by omega
  have HLS := Lib.hid hls
  have HM := Lib.hid hm
  have HTX := Lib.hid htx
  have h46 : w4.heap.size ≤ w6.heap.size := hb6.size
  simp only [maxLen] at hcm
  clear hown hg hh hcs htk hB6 hb6 hls hm htx HC13
  have hcapi : (1 : Int) ≤ (cap : Int) := by omega
  have hc2 : ¬ (cap : Int) < 1 := by omega
  have hm1i : ¬ ((m : Int) + 1 < 1) := by omega
  have HAe := Lib.hid hA
  have HB6A : Hid (Below A w4 w6) := by rw [hA]; exact HB6
  rw [← hA] at hgA h46
  clear hA HB6
  go_upto_region 8 with fail
  go_cut [8] from 38 to 40 (fun v8 wc => ∃ q c, v8 = .slice q m c ∧ Hid (wc.ownsRow A 9 1 v8 m (strVs ls)) ∧ Hid (v8.ownBlock ≠ some g) ∧ Hid (Below w6.heap.size w6 wc))
  case first =>
    go_wp2_with fail
    case inl h =>
      subst h
      obtain rfl : m = 0 := by omega
      refine (clone_rest (dtL t) ls g 0 0 0 w6 HST.out HM.out (.inl rfl) (by omega)).mono ?_; rintro e w8 ⟨v8, rfl, ho, hb⟩
      obtain ⟨q8, c8, rfl, -⟩ := own_slice ho
      have HO8 := Lib.hid (Joins.ownsRow_le ho h46)
      have HN8 := Lib.hid (show (Value.slice q8 0 c8).ownBlock ≠ some g from fun e => by have := (ho.lt _ e).1; omega)
      have HBB := Lib.hid hb
      clear ho hb
      go_wp2_with fail
      go_meet
      exact ⟨q8, c8, rfl, HO8, HN8, HBB⟩
    case inr h =>
      refine (clone_rest (dtL t) ls g 1 m (cap - 1) w6 HST.out HM.out (.inr rfl) (by omega)).mono ?_; rintro e w8 ⟨v8, rfl, ho, hb⟩
      obtain ⟨q8, c8, rfl, -⟩ := own_slice ho
      have HO8 := Lib.hid (Joins.ownsRow_le ho h46)
      have HN8 := Lib.hid (show (Value.slice q8 m c8).ownBlock ≠ some g from fun e => by have := (ho.lt _ e).1; omega)
      have HBB := Lib.hid hb
      clear ho hb
      go_wp2_with fail
      go_meet
      exact ⟨q8, c8, rfl, HO8, HN8, HBB⟩
  case rest =>
    obtain ⟨q8, c8, rfl, HL8, HN8, HB8⟩ := hcut
    obtain ⟨its, hits⟩ : ∃ its, its = itsOf hr (opOf fr hu un ct iv l dl wk) rds exs := ⟨_, rfl⟩
    have HITS := Lib.hid hits
    have HLA := Lib.hid (show LinesAre ls its by rw [hits, HLS.out, HTX.out]; exact says_rest HS.out)
    have HT8 := Lib.hid (show TurnedAt wc A g 1 1 (strVs [dtL t]) from .inr ⟨rfl, rfl, _, rfl, (HB8.out.cell (p := ⟨g, 0, none⟩) hg6).trans (HST.out 0 _ rfl), Nat.lt_of_lt_of_le hg6 HB8.out.size, hgA⟩)
    have HB8A := Lib.hid (HB6A.out.trans (HB8.out.mono h46))
    clear hits
    go_wp2_with fail
    go_loopw [7, 8, 9, 10] (fun v7 v8 v9 _ wr => ∃ (k g7 c7 d : Nat) (q : Option Addr) (c : Nat) (ys left : List (List UInt8)) (yi li : List Item), k + d = m ∧ v9 = .int .i64 k ∧ v7 = .slice (some ⟨g7, 0, none⟩) (k + 1) c7 ∧ v8 = .slice q d c ∧ Hid (k = ys.length ∧ d = left.length) ∧ Hid (TurnedAt wr A g7 c7 (k + 1) (strVs (dtL t :: ys))) ∧ Hid (wr.ownsRow A 9 1 (.slice q d c) d (strVs left)) ∧ Hid ((Value.slice q d c).ownBlock ≠ some g7) ∧ Hid (LinesAre ys yi ∧ LinesAre left li ∧ (yi ++ li).Perm its) ∧ Hid (Below A w4 wr)) (fun _ v8 _ _ _ => lenV v8)
    case atStart => exact ⟨0, g, 1, m, q8, c8, [], ls, [], its, by omega, rfl, rfl, rfl, Lib.hid ⟨rfl, HM.out⟩, HT8, HL8, HN8, Lib.hid ⟨.nil, HLA.out, List.Perm.refl _⟩, HB8A⟩
    case round =>
      clear HT8 HL8 HN8 HB8 HB8A HB6A
      obtain ⟨k, g7, c7, d, q, c, ys, left, yi, li, hkd, rfl, rfl, rfl, HY, HT, HL, HN, HP, HBr⟩ := hrel
      have hBw : Below w.heap.size w wr := HB4.out.trans (HBr.out.mono (by rw [HAe.out]; exact HB4.out.size))
      have hAr : A ≤ wr.heap.size := by have := HBr.out.size; rw [HAe.out]; exact this
      by_cases hd0 : 0 < d
      · have hd0i : (0 : Int) < (d : Int) := by omega
        have hdz : ¬ (d : Int) = 0 := by omega
        obtain ⟨g8, hq8, hA8⟩ : ∃ g8, q = some ⟨g8, 0, none⟩ ∧ g8 < wr.heap.size := by
          rcases (own_slice HL.out) with ⟨q', c', e, h0⟩
          injection e with e1 e2 e3
          subst e1
          rcases h0 with h0 | ⟨g8, e, _, hlt⟩
          · omega
          · exact ⟨g8, e, hlt⟩
        subst hq8
        have h78 : g8 ≠ g7 := fun e => HN.out (by rw [e]; rfl)
        go_upto_if 49 with fail
        go_cut [10] from 49 to 57 (fun v10 wc => ∃ j : Nat, v10 = .int .i64 j ∧ j < d ∧ wc = wr)
        case first =>
          by_cases hkn : k < no
          · have hkl : k < ord.length := by have := HOR.out.1; omega
            obtain ⟨hx, go, oo, rfl, hgo, hco⟩ := HOR.out.2 k _ (List.getElem?_eq_getElem hkl)
            have hco := (hBw.cell (p := ⟨go, oo + k, none⟩) hgo).trans hco
            generalize ord[k] = x at *
            have hki : (k : Int) < (no : Int) := by omega
            have hk0 : (0 : Int) ≤ (k : Int) := by omega
            have hww : IntKind.i64.wrap x = x := by simp [IntKind.wrap, IntKind.bits, IntKind.signed]; omega
            obtain ⟨j, hj⟩ : ∃ j : Nat, x.tmod (d : Int) = (j : Int) := ⟨(x.tmod d).toNat, by rw [Int.tmod_eq_emod_of_nonneg hx.1]; have := Int.emod_nonneg x hdz; omega⟩
            have hjd : j < d := by rw [Int.tmod_eq_emod_of_nonneg hx.1] at hj; have := Int.emod_lt_of_pos x hd0i; omega
            go_wp2_with fail
            go_meet
            exact ⟨j, by first | rfl | exact congrArg (Value.int .i64) hj, hjd, rfl⟩
          · have hki : ¬ (k : Int) < (no : Int) := by omega
            go_wp2_with fail
            go_meet
            exact ⟨0, rfl, hd0, rfl⟩
        case rest =>
          obtain ⟨j, rfl, hj, hwc⟩ := hcut
          obtain rfl := hwc.symm
          have hjl : j < left.length := by have := HY.out.2; omega
          have hjc : wr.cell? ⟨g8, j, none⟩ = some (.string ⟨left[j].toArray⟩) := StrsAt.of_own HL.out j _ (List.getElem?_eq_getElem hjl)
          have HX := Lib.hid (List.getElem?_eq_getElem hjl)
          obtain ⟨z, hz⟩ : ∃ z : ByteArray, z = ⟨left[j].toArray⟩ := ⟨_, rfl⟩
          rw [← hz] at hjc
          have HZ := Lib.hid hz
          generalize left[j] = xl at *
          have hjd : (j : Int) < (d : Int) := by omega
          have hj0 : (0 : Int) ≤ (j : Int) := by omega
          clear hz
          go_wp2_with (at_builtin; refine app_turned A rfl _ _ rfl g7 c7 (k + 1) _ (.string z) rfl rfl rfl HT.out (by omega) ?_)
          intro g5 c5 w5 hown5 hg5 hgrow hat5
          have HL5 := Lib.hid (own_ne HL.out hgrow (fun e => HN.out e))
          have HO5 := Lib.hid hown5
          have HB5 := Lib.hid (HBr.out.grown hgrow hAr (fun i hi => by injection hi with hi; rw [← hi]; exact HT.out.lt.1))
          have hA5 : A ≤ w5.heap.size := Nat.le_trans hAr hgrow.size
          have hne5 : g8 ≠ g5 := fun e => by rcases hat5 with h | h <;> omega
          clear hown5 hgrow hat5 hjc
          go_wp2_with fail
          refine (del_own HL5.out hj (by omega)).mono ?_; rintro e w9 ⟨g', c', hv, rfl, hown9, hg9⟩
          obtain ⟨rfl, rfl⟩ : g8 = g' ∧ c = c' := by injection hv with e1 e2 e3; injection e1 with e1; injection e1 with e1; exact ⟨e1, e3⟩
          have HO9 := Lib.hid (show TurnedAt w9 A g5 c5 (k + 1 + 1) (strVs (dtL t :: (ys ++ [xl]))) from (TurnedAt.ne (.inl (by
            have := HO5.out
            rw [HZ.out] at this
            simpa [strVs, strV] using this)) hg9 hne5.symm))
          have HL9 := Lib.hid hown9
          have HB9 := Lib.hid (HB5.out.grown hg9 hA5 (fun i hi => by injection hi with hi; rw [← hi]; exact (HL5.out.lt g8 rfl).1))
          obtain ⟨xi, hxi⟩ : ∃ xi, li[j]? = some xi := ⟨_, List.getElem?_eq_getElem (by rw [← HP.out.2.1.1]; exact hjl)⟩
          have HP9 := Lib.hid (show LinesAre (ys ++ [xl]) (yi ++ [xi]) ∧ LinesAre (left.eraseIdx j) (li.eraseIdx j) ∧ ((yi ++ [xi]) ++ li.eraseIdx j).Perm its from ⟨HP.out.1.app (.one (HP.out.2.1.2 j xl xi HX.out hxi)), HP.out.2.1.erase j, perm_step HP.out.2.2 hxi⟩)
          have HY9 := Lib.hid (show k + 1 = (ys ++ [xl]).length ∧ d - 1 = (left.eraseIdx j).length by
            refine ⟨by rw [List.length_append, ← HY.out.1]; rfl, ?_⟩
            rw [List.length_eraseIdx, if_pos hjl, ← HY.out.2])
          have HN9 := Lib.hid (show (Value.slice (some ⟨g8, 0, none⟩) (d - 1) c).ownBlock ≠ some g5 from fun e => hne5 (by injection e))
          clear hown9 hg9 hv
          go_wp2_with fail
          go_roundw
          case rel => exact ⟨k + 1, g5, c5, d - 1, some ⟨g8, 0, none⟩, c, ys ++ [xl], left.eraseIdx j, yi ++ [xi], li.eraseIdx j, by omega, by go_num, rfl, rfl, HY9, HO9, HL9, HN9, HP9, HB9⟩
          case measure => simp [lenV]; omega
      · obtain rfl : d = 0 := by omega
        have hl0 : left = [] := by rw [← List.length_eq_zero_iff]; exact HY.out.2.symm
        have hli : li = [] := by rw [← List.length_eq_zero_iff, ← HP.out.2.1.1, hl0]; rfl
        have HPE := Lib.hid (show yi.Perm (itsOf hr (opOf fr hu un ct iv l dl wk) rds exs) by have := HP.out.2.2; rw [hli, List.append_nil, HITS.out] at this; exact this)
        have hd1 := itsOf_dates hr (opOf fr hu un ct iv l dl wk) rds exs
        obtain ⟨R1, hR1⟩ : ∃ R1, R1 = datesOf true yi := ⟨_, rfl⟩
        obtain ⟨R2, hR2⟩ : ∃ R2, R2 = datesOf false yi := ⟨_, rfl⟩
        have HE1 := Lib.hid (show R1.Perm rds by rw [hR1]; have := datesOf_perm true HPE.out; rw [hd1.1] at this; exact this)
        have HE2 := Lib.hid (show R2.Perm exs by rw [hR2]; have := datesOf_perm false HPE.out; rw [hd1.2] at this; exact this)
        have hk1 : ys.length + 1 ≤ c7 := by
          have := HY.out.1
          rcases HT.out with h | ⟨h1, h2, _⟩
          · rcases h.2 with ⟨h, _⟩ | ⟨_, _, _, e, _, _, hc, _⟩
            · cases h
            · injection e with e1 e2 e3; omega
          · omega
        have hP := lines_order t ys yi (says_start HS.out) HP.out.1 (fun j k o o' a b => perm_one HPE.out j k o o' a b) (fun hb => itsOf_good _ _ _ _ (HPE.out.mem_iff.1 hb)) (by have := HY.out.1; omega) wr (HG.out.on hBw) g7 c7 HT.out.strs HT.out.lt.2 hk1 (by rw [perm_rule HPE.out]; exact says_good HS.out) (by rw [← hR1, HE1.out.length_eq]; have := HIN.out.rr.1; have := HS.out.2.1; omega) (by rw [← hR2, HE2.out.length_eq]; have := HIN.out.rx.1; have := HS.out.2.2.1; omega)
        rw [perm_rule HPE.out, ← hR1, ← hR2, ← HY.out.1] at hP
        have HP12 := Lib.hid hP
        clear hP hR1 hR2 hk1 hd1 hl0 hli
        go_wp2_with fail
        refine HP12.out.mono ?_; rintro e w9 ⟨S9, b9, f9, rd9, ex9, rfl, hrt, ho1, ho2, hb9⟩
        obtain ⟨q1, c1, rfl, -⟩ := own_slice ho1
        obtain ⟨q2, c2, rfl, -⟩ := own_slice ho2
        have HRT := Lib.hid hrt
        have hB9 : Below A w4 w9 := HBr.out.trans (hb9.mono hAr)
        obtain ⟨wA, hwA⟩ : ∃ W, W = w9.alloc (.cells (rowA 22 (toldF t b9 f9 (.slice q1 R1.length c1) (.slice q2 R2.length c2))) 38) := ⟨_, rfl⟩
        have hb9A : Below w9.heap.size w9 wA := by rw [hwA]; exact below_a1
        have HBA := Lib.hid (hB9.trans (hb9A.mono (Nat.le_trans hAr hb9.size)))
        have HRA := Lib.hid (show wA.rowIs w9.heap.size 38 22 (toldF t b9 f9 (.slice q1 R1.length c1) (.slice q2 R2.length c2)) by rw [hwA]; exact rowA_at 38 22 _ w9)
        have HWA := Lib.hid (HB4.out.trans (HBA.out.mono (by rw [HAe.out]; exact HB4.out.size)))
        have ho1A := own_below ho1 hb9A
        have ho2A := own_below ho2 hb9A
        have hrtA := hrt.below hb9A
        have HSA := Lib.hid (sameSet_any HS.out (HIN.out.below HWA.out) hrtA ho1A ho2A HE1.out HE2.out)
        have HR4A := Lib.hid (below_row HR4.out HBA.out (by rw [HAe.out]; exact hw4))
        have HwA := Lib.hid hwA
        clear hrt ho1 ho2 hb9 hB9 ho1A ho2A hrtA hwA hb9A
        go_upto_region 17 with ((with_reducible refine gd_store 38 ?_); refine wpl_store_last rfl 38 _ _ rfl _ (rowA 22 (toldF t b9 f9 (.slice q1 R1.length c1) (.slice q2 R2.length c2))) rfl rfl (by rw [info38s, rowA_size]) (by rw [rowA_size]; rfl) (rowA_all fun i hi => toldF_one t b9 f9 HRT.out.one rfl rfl i hi) ?_)
        rw [← HwA.out]
        go_wp2_with (first
          | ((with_reducible refine gd_load 38 ?_); refine wpl_wanted (by rfl) ?_; refine wpl_load_row0 rfl 38 _ rfl w9.heap.size 38 22 22 _ rfl HRA.out (by decide) d38 HU38.out.1 HU38.out.2 info38s ?_)
          | ((with_reducible refine gd_load 28 ?_); refine wpl_wanted (by rfl) ?_; refine wpl_load_row0 rfl 28 _ rfl w.heap.size 28 22 22 _ rfl HR4A.out (by decide) d8 HU8.out.1 HU8.out.2 info28s ?_))
        refine HSA.out.mono ?_; rintro e w10 ⟨rfl, hb10⟩
        have HB10 := Lib.hid (HWA.out.trans (hb10.mono HWA.out.size))
        clear hb10
        go_wp2_with fail
        refine (HAW.out _ HB10.out).mono ?_; rintro e w11 ⟨rfl, hb11⟩
        have HB11 := Lib.hid (HB10.out.trans (hb11.mono HB10.out.size))
        clear hb11
        go_wp2_with fail
        go_ret
        exact ⟨rfl, HB11.out⟩
end Go.Proofs.YtnlpjncljbaapaaGreatDoor
