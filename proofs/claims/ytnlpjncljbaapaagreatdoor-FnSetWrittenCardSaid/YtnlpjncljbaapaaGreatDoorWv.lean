/- RRuleString, walked: the package's own text of a rule. -/
import Derived.Test.YtnlpjncljbaapaaGreatDoorLr
namespace Go.Proofs.YtnlpjncljbaapaaGreatDoor
open Go.RowKit

theorem PS.own {B k : Nat} {w1 w : World} {v : Value} {xs : List (List UInt8)} (h : PS B w1 v w k xs) : w.ownsRow B 9 1 v xs.length (strVs xs) := by
  obtain ⟨m, h1, -, h3, -⟩ := h
  rw [h1]; exact h3
theorem own_cap {w : World} {base n c g size : Nat} {e : TypeId} {xs : List Value} (h : w.ownsRow base e size (.slice (some ⟨g, 0, none⟩) n c) n xs) : n ≤ c := by
  rcases h.2 with ⟨h1, _⟩ | ⟨g', cap, cur, h1, hb, hh, h5, _⟩
  · cases h1
  · injection h1 with _ _ h3
    subst h3
    exact h5
theorem ints_stage {B k : Nat} {w w' : World} {xs : List (List UInt8)} {o : Opt} {sl : Nat → Value} (j : Nat) (hj : 9 ≤ j ∧ j < 19 ∧ j ≠ 14) (v : Value) (hP : PS B w v w' k xs) (hR : OptRows w' o sl) (hG : Glob w') (hB : B ≤ w.heap.size) (hS : OptSmall o) (hk : k ≤ 100) (hn : (oNm j).length ≤ 20) :
    Calls Tryz.prog 122 #[v, .string ⟨(oNm j).toArray⟩, .slice (slP (sl j)) (o.l j).length (slC (sl j))] w' fun e w2 => ∃ v', e = .returned v' ∧ PS B w v' w2 (k + 1) (xs ++ numO o j) :=
  ints_any v (oNm j) _ _ _ (o.l j) w' hP (hR.1 j hj.1 hj.2.1 hj.2.2) hG hB (by have := (hS.l j hj.1 hj.2.1 hj.2.2).1; omega) (hS.l j hj.1 hj.2.1 hj.2.2).2 hn hk
theorem iv_pos {o : Opt} {x : Int} (h : x = o.interval) (h0 : ¬ x = 0) : ivO o = [pInterval x] := by rw [h] at h0 ⊢; exact opt1_pos (decide_eq_true h0)
theorem iv_neg {o : Opt} (h : 0 = o.interval) : ivO o = [] := opt1_neg (by simp [← h])
theorem wk_pos {o : Opt} {x : Int} (h : x = o.wk) (h0 : ¬ x = 0) : wkO o = [pWkst x] := by rw [h] at h0 ⊢; exact opt1_pos (decide_eq_true h0)
theorem wk_neg {o : Opt} (h : 0 = o.wk) : wkO o = [] := opt1_neg (by simp [← h])
theorem ct_pos {o : Opt} {x : Int} (h : x = o.count) (h0 : ¬ x = 0) : ctO o = [pCount x] := by rw [h] at h0 ⊢; exact opt1_pos (decide_eq_true h0)
theorem ct_neg {o : Opt} (h : 0 = o.count) : ctO o = [] := opt1_neg (by simp [← h])
theorem un_pos {o : Opt} {x : Int} (h : x = o.till) (h0 : ¬ x = 0) : unO o = [pTill x] := by rw [h] at h0 ⊢; exact opt1_pos (decide_eq_true h0)
theorem un_neg {o : Opt} (h : 0 = o.till) : unO o = [] := opt1_neg (by simp [← h])
theorem dy_pos {o : Opt} (h : 0 < o.days.length) : dayO o = [dayP o.days] := opt1_pos (decide_eq_true h)
theorem dy_neg {o : Opt} (h : o.days.length = 0) : dayO o = [] := opt1_neg (by simp [h])
theorem cmp_if (x : Int) (W : World) : (if x = 0 then Result.ok (Next.value (Value.bool false)) W else Result.ok (Next.value (Value.bool true)) W) = (Result.ok (Next.value (Value.bool (x != 0))) W) := by
  by_cases h : x = 0
  · rw [if_pos h, h]; rfl
  · rw [if_neg h, bne_iff_ne.2 h]
theorem isZero_ne (x : Int) (W : World) : Calls Tryz.prog 77 #[.agg #[.int .i64 x, .int .i64 0]] W fun e w' => e = .returned (.bool (!(x != 0))) ∧ Below W.heap.size W w' :=
  (isZero_any x 0 W).mono fun e w' ⟨he, hb⟩ => ⟨by rw [he]; by_cases h : x = 0 <;> simp [h], hb⟩
theorem wstr0 (k : Int) : wstrL (k, 0) = wdNames[k.toNat]?.getD [] := by simp [wstrL]
set_option maxRecDepth 100000 in
set_option maxHeartbeats 40000000 in
theorem rrString_any (o : Opt) (t : Int) (sl : Nat → Value) (G : Nat) (w : World) (hG : Glob w) (hGl : G < w.heap.size) (hC : ∀ k, k < 19 → w.cell? ⟨G, k, none⟩ = some (optG o t sl k)) (hR : OptRows w o sl) (hS : OptSmall o) :
    Calls Tryz.prog 79 #[.pointer (some ⟨G, 0, none⟩)] w fun e w' => e = .returned (.string ⟨(rrTx o).toArray⟩) ∧ Below w.heap.size w w' := by
  obtain ⟨B, hB⟩ : ∃ B, B = w.heap.size := ⟨_, rfl⟩
  have hGB : G < B := by omega
  have hBle : B ≤ w.heap.size := by omega
  have HBE := Lib.hid hB
  have HX := Lib.hid fun k (hk : k < 19) (W : World) (hW : Below B w W) => (hW.cell (p := ⟨G, k, none⟩) hGB).trans (hC k hk)
  have HG := Lib.hid fun (W : World) (hW : Below B w W) => hG.on (show Below w.heap.size w W by rw [← hB]; exact hW)
  have HR := Lib.hid fun (W : World) (hW : Below B w W) => hR.below (show Below w.heap.size w W by rw [← hB]; exact hW)
  have HS := Lib.hid hS
  obtain ⟨fr, hfr, hfr6⟩ : ∃ fr : Nat, (fr : Int) = o.freq ∧ fr ≤ 6 := ⟨o.freq.toNat, by have := hS.fr; omega, by have := hS.fr; omega⟩
  have x0 : w.cell? ⟨G, 0, none⟩ = some (.int .i64 (fr : Int)) := by rw [hfr]; exact HX.out 0 (by omega) w (.refl _ _)
  have HF := Lib.hid fun W => fstr_any fr hfr6 W
  obtain ⟨fn, hfn, hfl, -⟩ := fr_at fr hfr6
  have hA0 : optA0 o = [pFreq fr] := by unfold optA0; rw [← hfr]; rfl
  have HA0 := Lib.hid hA0
  obtain ⟨z, hz⟩ : ∃ z : ByteArray, z = ⟨fn.toArray⟩ := ⟨_, rfl⟩
  have hzl : z.size ≤ 8 := by rw [hz, Lib.size_eq]; exact hfl
  rw [hfn, ← hz] at HF
  have hov : ¬ 9223372036854775807 < 5 + z.size := by omega
  have HZ := Lib.hid (show ((⟨#[70, 82, 69, 81, 61]⟩ : ByteArray) ++ z) = ⟨(pFreq fr).toArray⟩ by rw [hz]; apply ByteArray.ext; simp [pFreq, hfn])
  clear hB hG hC hR hS hA0 hz hfn hfl hfr hGl
  go_enter Tryz.func79, Tryz.ntmps79
  go_wp2_with fail
  refine (HF.out _).mono ?_; rintro e w2 ⟨rfl, h⟩
  have h := h.symm
  subst h
  have hb1 := (below_a1 (w := w) (o := .cells #[.string ((⟨#[70, 82, 69, 81, 61]⟩ : ByteArray) ++ z)] 9)).mono hBle
  obtain ⟨m, hm, hmk, hown, hb⟩ := (show PS B w (.slice (some ⟨w.heap.size, 0, none⟩) 1 1) (w.alloc (.cells #[.string ((⟨#[70, 82, 69, 81, 61]⟩ : ByteArray) ++ z)] 9)) 1 (optA0 o) from ⟨1, by rw [HA0.out]; rfl, Nat.le_refl _, by rw [HA0.out]; exact own_one hBle (pFreq fr) HZ.out, hb1⟩)
  have HM := Lib.hid hm
  have HB := Lib.hid hb
  have HOWN := Lib.hid hown
  have hbs : B ≤ (w.alloc (.cells #[.string ((⟨#[70, 82, 69, 81, 61]⟩ : ByteArray) ++ z)] 9)).heap.size := Nat.le_trans hBle hb.size
  clear hm hb hown hb1 x0 HF HA0 h
  have x3 : (w.alloc (.cells #[.string ((⟨#[70, 82, 69, 81, 61]⟩ : ByteArray) ++ z)] 9)).cell? ⟨G, 3, none⟩ = some (.int .i64 o.interval) := HX.out 3 (by omega) _ HB.out
  obtain ⟨x, hx⟩ : ∃ x, x = o.interval := ⟨_, rfl⟩
  rw [← hx] at x3
  have HE := Lib.hid hx
  clear hx
  go_upto_if 18 with fail
  generalize w.alloc (.cells #[.string ((⟨#[70, 82, 69, 81, 61]⟩ : ByteArray) ++ z)] 9) = wc at *
  clear hov HZ hzl

  go_cut [3] from 14 to 27 (fun v wc => PS B w v wc 2 (optA1 o))
  case first =>
    by_cases h0 : x = 0
    · subst h0
      have e1 : optA1 o = optA0 o := by show optA0 o ++ ivO o = _; rw [iv_neg HE.out, List.append_nil]
      go_wp2_with fail
      go_meet
      exact ⟨m, by rw [e1]; exact HM.out, by omega, by rw [e1]; exact HOWN.out, HB.out⟩
    · have hne : (x != 0) = true := bne_iff_ne.2 h0
      have e1 : optA1 o = optA0 o ++ [pInterval x] := by show optA0 o ++ ivO o = _; rw [iv_pos HE.out h0]
      have hsm := HS.out.iv
      rw [← HE.out] at hsm
      have HI := Lib.hid (itoa_any x (by omega) (by omega) wc (HG.out wc HB.out))
      have hzl : (⟨(Lib.itoa x).toArray⟩ : ByteArray).size ≤ 21 := by rw [Lib.size_eq]; exact Lib.itoa_length_le x (by omega) (by omega)
      obtain ⟨z, hz⟩ : ∃ z : ByteArray, z = ⟨(Lib.itoa x).toArray⟩ := ⟨_, rfl⟩
      rw [← hz] at HI hzl
      have HZ := Lib.hid hz
      have hov : ¬ 9223372036854775807 < 9 + z.size := by omega
      clear hz
      go_wp2_with fail
      refine HI.out.mono ?_; rintro e w2 ⟨rfl, hb2⟩
      have hown2 := own_below HOWN.out hb2
      have hb3 : Below B w w2 := HB.out.trans (hb2.mono hbs)
      have hz2 := hb2.size
      clear hb2
      go_wp2_with (at_builtin; refine app_own B rfl _ _ 41 9 (.string ⟨#[]⟩) 1 16 rfl Tryz.underlying41 info9 rfl (by decide) (by decide) _ _ _ [.string ((⟨#[73, 78, 84, 69, 82, 86, 65, 76, 61]⟩ : ByteArray) ++ z)] (by rfl) (by rfl) rfl (by simp [Value.oneCell']) hown2 (by omega) (by omega) ?_)
      intro g5 cap5 w5 hown5 hg5 hg6 hcap5 hgrow hat5
      have hb5 : Below B w w5 := hb3.grown hgrow (by omega) (own_base hown2)
      have e : ((⟨#[73, 78, 84, 69, 82, 86, 65, 76, 61]⟩ : ByteArray) ++ z) = ⟨(pInterval x).toArray⟩ := by
        rw [HZ.out]
        apply ByteArray.ext
        simp [pInterval]
      rw [e, ← strVs_snoc] at hown5
      go_wp2_with fail
      go_meet
      exact ⟨m + 1, by rw [e1, List.length_append, HM.out]; rfl, by omega, by rw [e1]; exact hown5, hb5⟩
  case rest =>
  clear x3 HB HM HOWN hbs HE hmk
  obtain ⟨m, hm, hmk, hown, hb⟩ := hcut
  have HM := Lib.hid hm
  have HB := Lib.hid hb
  have HOWN := Lib.hid hown
  have hbs : B ≤ wc.heap.size := Nat.le_trans hBle hb.size
  clear hm hb hown
  have x4 : wc.cell? ⟨G, 4, none⟩ = some (.int .i64 o.wk) := HX.out 4 (by omega) wc HB.out
  obtain ⟨x, hx⟩ : ∃ x, x = o.wk := ⟨_, rfl⟩
  rw [← hx] at x4
  have HE := Lib.hid hx
  clear hx
  have x5 : wc.cell? ⟨G, 5, none⟩ = some (.int .i64 0) := HX.out 5 (by omega) wc HB.out
  have d0 := ((HG.out wc HB.out).day 1 0 (by decide)).1
  have d1 := ((HG.out wc HB.out).day 1 0 (by decide)).2
  go_upto_region 4 with fail
  go_cut [33] from 28 to 33 (fun v wc => v = .bool (x != 0) ∧ PS B w u3 wc 2 (optA1 o))
  case first =>
    have hcmp := fun W : World => cmp_if x W
    go_region
    go_wp2_with fail
    go_meet
    exact ⟨rfl, m, HM.out, hmk, own_below HOWN.out ((Below.refl _ _).drew), HB.out.drew⟩
  case rest =>
  clear x4 x5 d0 d1 HB HM HOWN hbs hmk
  obtain ⟨rfl, m, hm, hmk, hown, hb⟩ := hcut
  have HM := Lib.hid hm
  have HB := Lib.hid hb
  have HOWN := Lib.hid hown
  have hbs : B ≤ wc.heap.size := Nat.le_trans hBle hb.size
  have x4 : wc.cell? ⟨G, 4, none⟩ = some (.int .i64 x) := by rw [HE.out]; exact HX.out 4 (by omega) wc hb
  have x5 : wc.cell? ⟨G, 5, none⟩ = some (.int .i64 0) := HX.out 5 (by omega) wc hb
  clear hm hb hown
  go_upto_if 33 with fail

  go_cut [3] from 28 to 42 (fun v wc => PS B w v wc 3 (optA2 o))
  case first =>
    by_cases h0 : x = 0
    · subst h0
      have e1 : optA2 o = optA1 o := by show optA1 o ++ wkO o = _; rw [wk_neg HE.out, List.append_nil]
      go_wp2_with fail
      go_meet
      exact ⟨m, by rw [e1]; exact HM.out, by omega, by rw [e1]; exact HOWN.out, HB.out⟩
    · have hne : (x != 0) = true := bne_iff_ne.2 h0
      have e1 : optA2 o = optA1 o ++ [pWkst x] := by show optA1 o ++ wkO o = _; rw [wk_pos HE.out h0]
      have hsm := HS.out.wk
      rw [← HE.out] at hsm
      have HI := Lib.hid (wstr_any x 0 hsm.1 hsm.2 (by unfold int64; omega) wc (HG.out wc HB.out))
      rw [wstr0] at HI
      obtain ⟨nm, hnm, hnl, -, -⟩ := wd_look x hsm.1 hsm.2
      have hzl : (⟨(wdNames[x.toNat]?.getD []).toArray⟩ : ByteArray).size ≤ 2 := by rw [Lib.size_eq, hnm]; exact Nat.le_of_eq hnl
      obtain ⟨z, hz⟩ : ∃ z : ByteArray, z = ⟨(wdNames[x.toNat]?.getD []).toArray⟩ := ⟨_, rfl⟩
      rw [← hz] at HI hzl
      clear hnm hnl
      have HZ := Lib.hid hz
      have hov : ¬ 9223372036854775807 < 5 + z.size := by omega
      clear hz
      go_wp2_with fail
      refine HI.out.mono ?_; rintro e w2 ⟨rfl, hb2⟩
      have hown2 := own_below HOWN.out hb2
      have hb3 : Below B w w2 := HB.out.trans (hb2.mono hbs)
      have hz2 := hb2.size
      clear hb2
      go_wp2_with (at_builtin; refine app_own B rfl _ _ 41 9 (.string ⟨#[]⟩) 1 16 rfl Tryz.underlying41 info9 rfl (by decide) (by decide) _ _ _ [.string ((⟨#[87, 75, 83, 84, 61]⟩ : ByteArray) ++ z)] (by rfl) (by rfl) rfl (by simp [Value.oneCell']) hown2 (by omega) (by omega) ?_)
      intro g5 cap5 w5 hown5 hg5 hg6 hcap5 hgrow hat5
      have hb5 : Below B w w5 := hb3.grown hgrow (by omega) (own_base hown2)
      have e : ((⟨#[87, 75, 83, 84, 61]⟩ : ByteArray) ++ z) = ⟨(pWkst x).toArray⟩ := by
        rw [HZ.out]
        apply ByteArray.ext
        simp [pWkst]
      rw [e, ← strVs_snoc] at hown5
      go_wp2_with fail
      go_meet
      exact ⟨m + 1, by rw [e1, List.length_append, HM.out]; rfl, by omega, by rw [e1]; exact hown5, hb5⟩
  case rest =>
  clear x4 x5 HB HM HOWN hbs HE hmk
  obtain ⟨m, hm, hmk, hown, hb⟩ := hcut
  have HM := Lib.hid hm
  have HB := Lib.hid hb
  have HOWN := Lib.hid hown
  have hbs : B ≤ wc.heap.size := Nat.le_trans hBle hb.size
  clear hm hb hown
  have x6 : wc.cell? ⟨G, 6, none⟩ = some (.int .i64 o.count) := HX.out 6 (by omega) wc HB.out
  obtain ⟨x, hx⟩ : ∃ x, x = o.count := ⟨_, rfl⟩
  rw [← hx] at x6
  have HE := Lib.hid hx
  clear hx
  go_upto_if 47 with fail

  go_cut [3] from 43 to 56 (fun v wc => PS B w v wc 4 (optA3 o))
  case first =>
    by_cases h0 : x = 0
    · subst h0
      have e1 : optA3 o = optA2 o := by show optA2 o ++ ctO o = _; rw [ct_neg HE.out, List.append_nil]
      go_wp2_with fail
      go_meet
      exact ⟨m, by rw [e1]; exact HM.out, by omega, by rw [e1]; exact HOWN.out, HB.out⟩
    · have hne : (x != 0) = true := bne_iff_ne.2 h0
      have e1 : optA3 o = optA2 o ++ [pCount x] := by show optA2 o ++ ctO o = _; rw [ct_pos HE.out h0]
      have hsm := HS.out.ct
      rw [← HE.out] at hsm
      have HI := Lib.hid (itoa_any x (by omega) (by omega) wc (HG.out wc HB.out))
      have hzl : (⟨(Lib.itoa x).toArray⟩ : ByteArray).size ≤ 21 := by rw [Lib.size_eq]; exact Lib.itoa_length_le x (by omega) (by omega)
      obtain ⟨z, hz⟩ : ∃ z : ByteArray, z = ⟨(Lib.itoa x).toArray⟩ := ⟨_, rfl⟩
      rw [← hz] at HI hzl
      have HZ := Lib.hid hz
      have hov : ¬ 9223372036854775807 < 6 + z.size := by omega
      clear hz
      go_wp2_with fail
      refine HI.out.mono ?_; rintro e w2 ⟨rfl, hb2⟩
      have hown2 := own_below HOWN.out hb2
      have hb3 : Below B w w2 := HB.out.trans (hb2.mono hbs)
      have hz2 := hb2.size
      clear hb2
      go_wp2_with (at_builtin; refine app_own B rfl _ _ 41 9 (.string ⟨#[]⟩) 1 16 rfl Tryz.underlying41 info9 rfl (by decide) (by decide) _ _ _ [.string ((⟨#[67, 79, 85, 78, 84, 61]⟩ : ByteArray) ++ z)] (by rfl) (by rfl) rfl (by simp [Value.oneCell']) hown2 (by omega) (by omega) ?_)
      intro g5 cap5 w5 hown5 hg5 hg6 hcap5 hgrow hat5
      have hb5 : Below B w w5 := hb3.grown hgrow (by omega) (own_base hown2)
      have e : ((⟨#[67, 79, 85, 78, 84, 61]⟩ : ByteArray) ++ z) = ⟨(pCount x).toArray⟩ := by
        rw [HZ.out]
        apply ByteArray.ext
        simp [pCount]
      rw [e, ← strVs_snoc] at hown5
      go_wp2_with fail
      go_meet
      exact ⟨m + 1, by rw [e1, List.length_append, HM.out]; rfl, by omega, by rw [e1]; exact hown5, hb5⟩
  case rest =>
  clear x6 HB HM HOWN hbs HE hmk
  obtain ⟨m, hm, hmk, hown, hb⟩ := hcut
  have HM := Lib.hid hm
  have HB := Lib.hid hb
  have HOWN := Lib.hid hown
  have hbs : B ≤ wc.heap.size := Nat.le_trans hBle hb.size
  clear hm hb hown
  have x7 : wc.cell? ⟨G, 7, none⟩ = some (.int .i64 o.till) := HX.out 7 (by omega) wc HB.out
  obtain ⟨x, hx⟩ : ∃ x, x = o.till := ⟨_, rfl⟩
  rw [← hx] at x7
  have HE := Lib.hid hx
  clear hx
  have x8 : wc.cell? ⟨G, 8, none⟩ = some (.int .i64 0) := HX.out 8 (by omega) wc HB.out
  go_wp2_with fail
  refine (isZero_ne x _).mono ?_; rintro e wn ⟨rfl, hb2⟩
  have HB2 := Lib.hid (HB.out.trans (hb2.mono hbs))
  have HO2 := Lib.hid (own_below HOWN.out hb2)
  clear x7 x8 HB HOWN hbs hb2
  generalize wn = wc at *
  have HB := HB2
  have HOWN := HO2
  have hbs : B ≤ wc.heap.size := Nat.le_trans hBle HB.out.size
  have x7 : wc.cell? ⟨G, 7, none⟩ = some (.int .i64 x) := by rw [HE.out]; exact HX.out 7 (by omega) wc HB.out
  have x8 : wc.cell? ⟨G, 8, none⟩ = some (.int .i64 0) := HX.out 8 (by omega) wc HB.out
  clear HB2 HO2
  go_upto_if 62 with fail

  go_cut [3] from 57 to 71 (fun v wc => PS B w v wc 5 (optA o))
  case first =>
    by_cases h0 : x = 0
    · subst h0
      have e1 : optA o = optA3 o := by show optA3 o ++ unO o = _; rw [un_neg HE.out, List.append_nil]
      go_wp2_with fail
      go_meet
      exact ⟨m, by rw [e1]; exact HM.out, by omega, by rw [e1]; exact HOWN.out, HB.out⟩
    · have hne : (x != 0) = true := bne_iff_ne.2 h0
      have e1 : optA o = optA3 o ++ [pTill x] := by show optA3 o ++ unO o = _; rw [un_pos HE.out h0]
      have hsm := HS.out.un
      rw [← HE.out] at hsm
      have HI := Lib.hid (tstr_any x hsm.1 hsm.2 wc (HG.out wc HB.out))
      have hzl : (⟨(dateL x).toArray⟩ : ByteArray).size ≤ 16 := by rw [Lib.size_eq, dateL_len]; exact Nat.le_refl _
      obtain ⟨z, hz⟩ : ∃ z : ByteArray, z = ⟨(dateL x).toArray⟩ := ⟨_, rfl⟩
      rw [← hz] at HI hzl
      have HZ := Lib.hid hz
      have hov : ¬ 9223372036854775807 < 6 + z.size := by omega
      clear hz
      go_wp2_with fail
      refine HI.out.mono ?_; rintro e w2 ⟨rfl, hb2⟩
      have hown2 := own_below HOWN.out hb2
      have hb3 : Below B w w2 := HB.out.trans (hb2.mono hbs)
      have hz2 := hb2.size
      clear hb2
      go_wp2_with (at_builtin; refine app_own B rfl _ _ 41 9 (.string ⟨#[]⟩) 1 16 rfl Tryz.underlying41 info9 rfl (by decide) (by decide) _ _ _ [.string ((⟨#[85, 78, 84, 73, 76, 61]⟩ : ByteArray) ++ z)] (by rfl) (by rfl) rfl (by simp [Value.oneCell']) hown2 (by omega) (by omega) ?_)
      intro g5 cap5 w5 hown5 hg5 hg6 hcap5 hgrow hat5
      have hb5 : Below B w w5 := hb3.grown hgrow (by omega) (own_base hown2)
      have e : ((⟨#[85, 78, 84, 73, 76, 61]⟩ : ByteArray) ++ z) = ⟨(pTill x).toArray⟩ := by
        rw [HZ.out]
        apply ByteArray.ext
        simp [pTill]
      rw [e, ← strVs_snoc] at hown5
      go_wp2_with fail
      go_meet
      exact ⟨m + 1, by rw [e1, List.length_append, HM.out]; rfl, by omega, by rw [e1]; exact hown5, hb5⟩
  case rest =>
  clear x7 x8 HB HM HOWN hbs HE hmk
  obtain ⟨m, hm, hmk, hown, hb⟩ := hcut
  have HM := Lib.hid hm
  have HB := Lib.hid hb
  have HOWN := Lib.hid hown
  have hbs : B ≤ wc.heap.size := Nat.le_trans hBle hb.size
  clear hm hb hown
  have HP := Lib.hid (show PS B w u3 wc 5 (optA o) from ⟨m, HM.out, hmk, HOWN.out, HB.out⟩)
  clear HM HOWN hmk hbs
  have x9 : wc.cell? ⟨G, 9, none⟩ = some (.slice (slP (sl 9)) (o.l 9).length (slC (sl 9))) := HX.out 9 (by omega) wc HB.out
  have HI := Lib.hid (ints_stage 9 (by decide) _ HP.out (HR.out wc HB.out) (HG.out wc HB.out) hBle HS.out (by decide) (by decide))
  clear HP HB
  go_wp2_with fail
  refine HI.out.mono ?_; rintro e w9 ⟨v9, rfl, hP⟩
  have HB := Lib.hid (show Below B w w9 from hP.choose_spec.2.2.2)
  have HP := Lib.hid hP
  clear hP x9 HI
  have x10 : w9.cell? ⟨G, 10, none⟩ = some (.slice (slP (sl 10)) (o.l 10).length (slC (sl 10))) := HX.out 10 (by omega) w9 HB.out
  have HI := Lib.hid (ints_stage 10 (by decide) _ HP.out (HR.out w9 HB.out) (HG.out w9 HB.out) hBle HS.out (by decide) (by decide))
  clear HP HB
  go_wp2_with fail
  refine HI.out.mono ?_; rintro e w10 ⟨v10, rfl, hP⟩
  have HB := Lib.hid (show Below B w w10 from hP.choose_spec.2.2.2)
  have HP := Lib.hid hP
  clear hP x10 HI
  have x11 : w10.cell? ⟨G, 11, none⟩ = some (.slice (slP (sl 11)) (o.l 11).length (slC (sl 11))) := HX.out 11 (by omega) w10 HB.out
  have HI := Lib.hid (ints_stage 11 (by decide) _ HP.out (HR.out w10 HB.out) (HG.out w10 HB.out) hBle HS.out (by decide) (by decide))
  clear HP HB
  go_wp2_with fail
  refine HI.out.mono ?_; rintro e w11 ⟨v11, rfl, hP⟩
  have HB := Lib.hid (show Below B w w11 from hP.choose_spec.2.2.2)
  have HP := Lib.hid hP
  clear hP x11 HI
  have x12 : w11.cell? ⟨G, 12, none⟩ = some (.slice (slP (sl 12)) (o.l 12).length (slC (sl 12))) := HX.out 12 (by omega) w11 HB.out
  have HI := Lib.hid (ints_stage 12 (by decide) _ HP.out (HR.out w11 HB.out) (HG.out w11 HB.out) hBle HS.out (by decide) (by decide))
  clear HP HB
  go_wp2_with fail
  refine HI.out.mono ?_; rintro e w12 ⟨v12, rfl, hP⟩
  have HB := Lib.hid (show Below B w w12 from hP.choose_spec.2.2.2)
  have HP := Lib.hid hP
  clear hP x12 HI
  have x13 : w12.cell? ⟨G, 13, none⟩ = some (.slice (slP (sl 13)) (o.l 13).length (slC (sl 13))) := HX.out 13 (by omega) w12 HB.out
  have HI := Lib.hid (ints_stage 13 (by decide) _ HP.out (HR.out w12 HB.out) (HG.out w12 HB.out) hBle HS.out (by decide) (by decide))
  clear HP HB
  go_wp2_with fail
  refine HI.out.mono ?_; rintro e w13 ⟨v13, rfl, hP⟩
  have HB := Lib.hid (show Below B w w13 from hP.choose_spec.2.2.2)
  have HP := Lib.hid hP
  clear hP x13 HI
  have hP : PS B w v13 w13 10 (optB o) := HP.out
  obtain ⟨m, hm, hmk, hown, -⟩ := hP
  have HM := Lib.hid hm
  have HOWN := Lib.hid hown
  have hbs : B ≤ w13.heap.size := Nat.le_trans hBle HB.out.size
  clear hm hown HP
  have x14 : w13.cell? ⟨G, 14, none⟩ = some (.slice (slP (sl 14)) o.days.length (slC (sl 14))) := HX.out 14 (by omega) w13 HB.out
  obtain ⟨l, hl⟩ : ∃ l, l = o.days := ⟨_, rfl⟩
  obtain ⟨n, hn⟩ : ∃ n, n = l.length := ⟨_, rfl⟩
  obtain ⟨p, hp⟩ : ∃ p, p = slP (sl 14) := ⟨_, rfl⟩
  obtain ⟨c, hc⟩ : ∃ c, c = slC (sl 14) := ⟨_, rfl⟩
  have hrd := (HR.out w13 HB.out).2
  have hdl := HS.out.dl
  rw [← hl] at hdl hrd x14
  rw [← hp] at hrd x14
  rw [← hn] at hrd hdl x14
  rw [← hc] at x14
  have HRD := Lib.hid hrd
  have hn12 : n ≤ 12 := hdl.1
  have HDL := Lib.hid hdl.2
  have HN := Lib.hid hn
  have HL := Lib.hid hl
  have HXN := Lib.hid fun (W : World) (hW : Below B w W) => show W.cell? ⟨G, 14, none⟩ = some (.slice p n c) from by have := HX.out 14 (by omega) W hW; rw [hn, hp, hc, hl]; exact this
  clear hn hp hc hl hrd hdl
  go_upto_if 107 with fail
  go_cut [3, 4, 5, 6] from 102 to 135 (fun v _ _ _ wc => PS B w v wc 11 (optB o ++ dayO o))
  case first =>
    by_cases hn0 : n = 0
    · subst hn0
      have e1 : optB o ++ dayO o = optB o := by rw [dy_neg (by rw [← HL.out]; exact HN.out.symm), List.append_nil]
      go_wp2_with fail
      go_meet
      exact ⟨m, by rw [e1]; exact HM.out, by omega, by rw [e1]; exact HOWN.out, HB.out⟩
    · have hnp : 0 < n := by omega
      have e1 : optB o ++ dayO o = optB o ++ [dayP l] := by rw [dy_pos (by rw [← HL.out, ← HN.out]; exact hnp), HL.out]
      have hz0 : 0 < l.length := by rw [← HN.out]; exact hnp
      obtain ⟨g, hpg, hgl, -⟩ := HRD.out.2 0 l[0].1 l[0].2 (List.getElem?_eq_getElem hz0)
      subst hpg
      have HC := Lib.hid (show ∀ (i : Nat) kd nd, l[i]? = some (kd, nd) → w13.cell? ⟨g, i * 2, none⟩ = some (.int .i64 kd) ∧ w13.cell? ⟨g, i * 2 + 1, none⟩ = some (.int .i64 nd) from fun i kd nd hx => by
        obtain ⟨g', e, _, hc⟩ := HRD.out.2 i kd nd hx
        injection e with e; injection e with e1; subst e1
        exact hc)
      have hmk' := fun W : World => run_make_row' (P := Tryz.prog) 41 9 (.string ⟨#[]⟩) 16 Tryz.underlying41 info9 rfl .i64 .i64 n (by omega) (by omega) W
      have hrow := World.rowIs_made w13 (.string ⟨#[]⟩) n 9
      have hb2 := below_a1 (w := w13) (o := .cells (madeCells #[.string ⟨#[]⟩] n) 9)
      have hz2 : (w13.alloc (.cells (madeCells #[.string ⟨#[]⟩] n) 9)).heap.size = w13.heap.size + 1 := by simp
      have HO2 := Lib.hid (HOWN.out.alloc (.cells (madeCells #[.string ⟨#[]⟩] n) 9))
      have x14b : (w13.alloc (.cells (madeCells #[.string ⟨#[]⟩] n) 9)).cell? ⟨G, 14, none⟩ = some (.slice (some ⟨g, 0, none⟩) n c) := HXN.out _ (HB.out.alloc hbs _)
      have HZ2 := Lib.hid hz2
      have hnb : ((n : Int) != 0) = true := by simp; omega
      rw [hnb]
      clear hz2
      go_wp2_with fail
      generalize w13.alloc (.cells (madeCells #[.string ⟨#[]⟩] n) 9) = w2 at *
      have HR0 := Lib.hid hrow
      have HB2 := Lib.hid hb2
      obtain ⟨Gs, hGe⟩ : ∃ Gs, Gs = w13.heap.size := ⟨_, rfl⟩
      rw [← hGe] at HR0 ⊢
      have hG1 : Gs ≤ w13.heap.size := by omega
      have hG2 : w13.heap.size ≤ Gs := by omega
      have hGlt : Gs < w2.heap.size := by have := HZ2.out; omega
      have hgG : g ≠ Gs := by omega
      have HB02 := Lib.hid (show Below B w w2 from HB.out.trans (HB2.out.mono hbs))
      clear hrow hb2 hmk' hGe x14 x14b
      go_loopw [5, 6, 119] (fun _ _ v wr => ∃ j : Nat, j ≤ n ∧ v = .int .i64 j ∧ Hid (wr.rowIs Gs 9 n (fun i => .string (if i < j then ⟨((l.map wstrL)[i]?.getD []).toArray⟩ else ⟨#[]⟩))) ∧ Hid (Ch (fun i => i = Gs) w2 wr)) (fun _ _ v _ => n - (intOf v).toNat)
      case atStart => exact ⟨0, Nat.zero_le _, rfl, Lib.hid (by simpa using HR0.out), Lib.hid (.refl _ _)⟩
      case round =>
        obtain ⟨j, hj, rfl, HRW, HCH⟩ := hrel
        have hwr := HCH.out.size
        by_cases hjn : j < n
        · have hjl : j < l.length := by have := HN.out; omega
          obtain ⟨kd, nd, hx⟩ : ∃ kd nd, l[j]? = some (kd, nd) := ⟨l[j].1, l[j].2, List.getElem?_eq_getElem hjl⟩
          have hxm := HDL.out (kd, nd) (List.mem_of_getElem? hx)
          have hcx := HC.out j kd nd hx
          have hc0 : wr.cell? ⟨g, j * 2, none⟩ = some (.int .i64 kd) := (HCH.out.cell (by have := HB2.out.size; omega) hgG).trans ((HB2.out.cell (p := ⟨g, j * 2, none⟩) hgl).trans hcx.1)
          have hc1 : wr.cell? ⟨g, j * 2 + 1, none⟩ = some (.int .i64 nd) := (HCH.out.cell (by have := HB2.out.size; omega) hgG).trans ((HB2.out.cell (p := ⟨g, j * 2 + 1, none⟩) hgl).trans hcx.2)
          have HBr := Lib.hid (show Below B w wr from HCH.out.below HB02.out (fun i hi => by omega) (by omega))
          have hBr : B ≤ wr.heap.size := by omega
          have HI := Lib.hid fun W hG => wstr_any kd nd hxm.1.1 hxm.1.2 (by have := hxm.2; unfold int64; omega) W hG
          have HJX := Lib.hid (show (l.map wstrL)[j]?.getD [] = wstrL (kd, nd) by rw [List.getElem?_map, hx]; rfl)
          obtain ⟨z, hz⟩ : ∃ z : ByteArray, z = ⟨(wstrL (kd, nd)).toArray⟩ := ⟨_, rfl⟩
          rw [← hz] at HI
          have HZ := Lib.hid hz
          have hki : (0 : Int) ≤ ((j : Nat) : Int) := by omega
          have hkni : ((j : Nat) : Int) < ((n : Nat) : Int) := by omega
          clear hx hz hxm hcx
          go_wp2_with fail
          refine (HI.out _ (HG.out _ (HBr.out.alloc hBr _))).mono ?_; rintro e w3 ⟨rfl, hb3⟩
          have hb13 : Below wr.heap.size wr w3 := below_a1.trans (hb3.mono (by simp))
          have hr3 := below_row HRW.out hb13 HRW.out.lt
          have hf := hr3.frozen j
          have hc2 := hr3.cell hjn
          have HR3 := Lib.hid hr3
          have HCH3 := Lib.hid (HCH.out.trans (Ch.of_below (X := fun i => i = Gs) hb13 (Nat.le_refl _)))
          clear hc0 hc1 hb3 hr3 hb13
          go_wp2_with fail
          go_roundw
          case rel =>
            refine ⟨j + 1, by omega, by go_num, Lib.hid ((HR3.out.set j (.string z)).congr fun i hi => ?_), Lib.hid (HCH3.out.trans (.set rfl))⟩
            have hnk := HJX.out
            by_cases hij : i = j
            · subst hij; simp only [if_pos (Nat.lt_succ_self _), if_true]; rw [hnk, HZ.out]
            · rw [if_neg hij]
              by_cases hlt : i < j
              · rw [if_pos hlt, if_pos (by omega)]
              · rw [if_neg hlt, if_neg (by omega)]
          case measure => simp [intOf]; omega
        · obtain rfl : j = n := by omega
          have hst : StrsAt wr Gs (l.map wstrL) := fun i y hy => by
            have hi : i < j := by have h := (List.getElem?_eq_some_iff.1 hy).1; rw [List.length_map] at h; rw [HN.out]; exact h
            rw [HRW.out.cell hi, if_pos hi, hy]
            rfl
          have hjl : (joinC 44 (l.map wstrL)).length ≤ 3000 := by
            have h1 := joinC_len 44 8 (l.map wstrL) (fun y hy => by
              obtain ⟨d, hd, rfl⟩ := List.mem_map.1 hy
              have := HDL.out d hd
              exact (wstr_len d this.1.1 this.1.2 (by omega)).2)
            rw [List.length_map, ← HN.out] at h1
            omega
          have HJ := Lib.hid (join_any Gs j j 44 (l.map wstrL) wr hst (by rw [List.length_map]; exact HN.out) (by omega) (Nat.le_refl _) (by omega) (by omega))
          have hsz : (⟨(joinC 44 (l.map wstrL)).toArray⟩ : ByteArray).size ≤ 3000 := by rw [Lib.size_eq]; exact hjl
          obtain ⟨z, hz⟩ : ∃ z : ByteArray, z = ⟨(joinC 44 (l.map wstrL)).toArray⟩ := ⟨_, rfl⟩
          rw [← hz] at HJ hsz
          have HZ := Lib.hid hz
          have hov2 : ¬ 9223372036854775807 < 6 + z.size := by omega
          have HBr := Lib.hid (show Below B w wr from HCH.out.below HB02.out (fun i hi => by omega) (by omega))
          clear hst hjl hz
          go_wp2_with fail
          refine HJ.out.mono ?_; rintro e w4 ⟨rfl, hb4⟩
          have hown4 := own_below (own_ch HO2.out HCH.out (fun g hg e => by have := (HOWN.out.lt g hg).2; omega)) hb4
          have HB4 := Lib.hid (HBr.out.trans (hb4.mono (by omega)))
          have hz4 := hb4.size
          clear hb4
          go_wp2_with (at_builtin; refine app_own B rfl _ _ 41 9 (.string ⟨#[]⟩) 1 16 rfl Tryz.underlying41 info9 rfl (by decide) (by decide) _ _ _ [.string ((⟨#[66, 89, 68, 65, 89, 61]⟩ : ByteArray) ++ z)] (by rfl) (by rfl) rfl (by simp [Value.oneCell']) hown4 (by omega) (by omega) ?_)
          intro g5 cap5 w5 hown5 hg5 hg6 hcap5 hgrow hat5
          have hb5 : Below B w w5 := HB4.out.grown hgrow (by omega) (own_base hown4)
          have e : ((⟨#[66, 89, 68, 65, 89, 61]⟩ : ByteArray) ++ z) = ⟨(dayP l).toArray⟩ := by
            rw [HZ.out]
            apply ByteArray.ext
            simp [dayP]
          rw [e, ← strVs_snoc] at hown5
          go_wp2_with fail
          go_meet
          exact ⟨m + 1, by rw [e1, List.length_append, HM.out]; rfl, by omega, by rw [e1]; exact hown5, hb5⟩
  case rest =>
  clear HB HM HOWN hbs hmk x14 HRD HDL HN HL HXN hn12
  have HB := Lib.hid (show Below B w wc from hcut.choose_spec.2.2.2)
  have HP := Lib.hid hcut
  clear hcut
  have x15 : wc.cell? ⟨G, 15, none⟩ = some (.slice (slP (sl 15)) (o.l 15).length (slC (sl 15))) := HX.out 15 (by omega) wc HB.out
  have HI := Lib.hid (ints_stage 15 (by decide) _ HP.out (HR.out wc HB.out) (HG.out wc HB.out) hBle HS.out (by decide) (by decide))
  clear HP HB
  go_wp2_with fail
  refine HI.out.mono ?_; rintro e w15 ⟨v15, rfl, hP⟩
  have HB := Lib.hid (show Below B w w15 from hP.choose_spec.2.2.2)
  have HP := Lib.hid hP
  clear hP x15 HI
  have x16 : w15.cell? ⟨G, 16, none⟩ = some (.slice (slP (sl 16)) (o.l 16).length (slC (sl 16))) := HX.out 16 (by omega) w15 HB.out
  have HI := Lib.hid (ints_stage 16 (by decide) _ HP.out (HR.out w15 HB.out) (HG.out w15 HB.out) hBle HS.out (by decide) (by decide))
  clear HP HB
  go_wp2_with fail
  refine HI.out.mono ?_; rintro e w16 ⟨v16, rfl, hP⟩
  have HB := Lib.hid (show Below B w w16 from hP.choose_spec.2.2.2)
  have HP := Lib.hid hP
  clear hP x16 HI
  have x17 : w16.cell? ⟨G, 17, none⟩ = some (.slice (slP (sl 17)) (o.l 17).length (slC (sl 17))) := HX.out 17 (by omega) w16 HB.out
  have HI := Lib.hid (ints_stage 17 (by decide) _ HP.out (HR.out w16 HB.out) (HG.out w16 HB.out) hBle HS.out (by decide) (by decide))
  clear HP HB
  go_wp2_with fail
  refine HI.out.mono ?_; rintro e w17 ⟨v17, rfl, hP⟩
  have HB := Lib.hid (show Below B w w17 from hP.choose_spec.2.2.2)
  have HP := Lib.hid hP
  clear hP x17 HI
  have x18 : w17.cell? ⟨G, 18, none⟩ = some (.slice (slP (sl 18)) (o.l 18).length (slC (sl 18))) := HX.out 18 (by omega) w17 HB.out
  have HI := Lib.hid (ints_stage 18 (by decide) _ HP.out (HR.out w17 HB.out) (HG.out w17 HB.out) hBle HS.out (by decide) (by decide))
  clear HP HB
  go_wp2_with fail
  refine HI.out.mono ?_; rintro e w18 ⟨v18, rfl, hP⟩
  have HB := Lib.hid (show Below B w w18 from hP.choose_spec.2.2.2)
  have HP := Lib.hid hP
  clear hP x18 HI
  have hP : PS B w v18 w18 15 (optTx o) := HP.out
  obtain ⟨m, hm, hmk, hown, -⟩ := hP
  obtain ⟨q, c, rfl, hq⟩ := own_slice hown
  have hlen := optTx_len o
  obtain ⟨r, hr⟩ := optTx_head o
  have hm0 : 0 < m := by rw [← hm, hr]; simp
  obtain ⟨g, rfl, -, hgl⟩ : ∃ g, q = some ⟨g, 0, none⟩ ∧ B ≤ g ∧ g < w18.heap.size := by
    rcases hq with h | h
    · omega
    · exact h
  have htl := rrTx_len HS.out
  have HJ := Lib.hid (join_any g c m 59 (optTx o) w18 (StrsAt.of_own hown) hm.symm hgl (own_cap hown) (by omega) (show (rrTx o).length ≤ _ by omega))
  clear hm hmk hown hq hlen hr hm0 htl HP hgl
  go_wp2_with fail
  refine HJ.out.mono ?_; rintro e w2 ⟨rfl, hb2⟩
  have HB2 := Lib.hid (HB.out.trans (hb2.mono (Nat.le_trans hBle HB.out.size)))
  clear hb2
  go_wp2_with fail
  go_ret
  exact ⟨rfl, by rw [← HBE.out]; exact HB2.out⟩
end Go.Proofs.YtnlpjncljbaapaaGreatDoor
