/- spec.SetTexts with no order, walked. -/
import Derived.Test.YtnlpjncljbaapaaGreatDoorFt
import Derived.Test.YtnlpjncljbaapaaGreatDoorTx
namespace Go.Proofs.YtnlpjncljbaapaaGreatDoor
open Go.RowKit

def dtL (t : Int) : List UInt8 := [68, 84, 83, 84, 65, 82, 84, 58] ++ dateL t
def rrL (tx : List UInt8) : List UInt8 := [82, 82, 85, 76, 69, 58] ++ tx
def rdL (t : Int) : List UInt8 := [82, 68, 65, 84, 69, 58] ++ dateL t
def exL (t : Int) : List UInt8 := [69, 88, 68, 65, 84, 69, 58] ++ dateL t
/-- The lines of a set. -/
def setLines (t : Int) (hr : Bool) (tx : List UInt8) (rds exs : List Int) : List (List UInt8) := [dtL t] ++ opt1 hr (rrL tx) ++ rds.map rdL ++ exs.map exL
/-- New texts in a row of the call's own. -/
def GivesOwn (xs : List (List UInt8)) (w : World) (e : Ending) (w' : World) : Prop :=
  ∃ B v m, e = .returned v ∧ w.heap.size ≤ B ∧ w'.ownsRow B 9 1 v m (strVs xs) ∧ xs.length = m ∧ Below w.heap.size w w'
def DateOk (l : List Int) : Prop := ∀ x ∈ l, 0 ≤ x ∧ x < 315537897600
set_option maxRecDepth 100000 in
set_option maxHeartbeats 8000000 in
theorem setTexts_ord (t : Int) (hr : Bool) (fr : Nat) (hs : Bool) (st iv wk ct : Int) (hu : Bool) (un : Int) (p : Nat → Option Addr) (n c : Nat → Nat) (pr : Option Addr) (nr cr : Nat) (px : Option Addr) (nx cx : Nat) (po : Option Addr) (no co : Nat) (tx : List UInt8) (rds exs : List Int) (w : World) (hG : Glob w)
    (ht : 0 < t ∧ t < 315537897600) (hT : hr = true → ∀ W, Below w.heap.size w W → Calls Tryz.prog 35 #[.agg (sRuleC fr hs st iv wk ct hu un p n c), .slice po no co] W fun e w' => e = .returned (.string ⟨tx.toArray⟩) ∧ Below W.heap.size W w') (htx : tx.length ≤ 100000)
    (hrd : RowO w pr nr rds) (hex : RowO w px nx exs) (hnr : nr ≤ 12) (hnx : nx ≤ 12) (hdr : DateOk rds) (hdx : DateOk exs) :
    Calls Tryz.prog 13 #[.agg (sSetC t hr fr hs st iv wk ct hu un p n c pr nr cr px nx cx), .slice po no co] w fun e w' => GivesOwn (setLines t hr tx rds exs) w e w' := by
  have hBw := below_a1 (w := w) (o := .cells (sSetC t hr fr hs st iv wk ct hu un p n c pr nr cr px nx cx) 28)
  have hR := sSet_at t hr fr hs st iv wk ct hu un p n c pr nr cr px nx cx w
  have HRC := Lib.hid (sSetF_rule t hr fr hs st iv wk ct hu un p n c pr nr cr px nx cx)
  have hsz : (w.alloc (.cells (sSetC t hr fr hs st iv wk ct hu un p n c pr nr cr px nx cx) 28)).heap.size = w.heap.size + 1 := by simp
  have HT := Lib.hid hT
  have HG := Lib.hid hG
  have HNr := Lib.hid hrd.1
  have HCr := Lib.hid hrd.2
  have HNx := Lib.hid hex.1
  have HCx := Lib.hid hex.2
  have HXr := Lib.hid hdr
  have HXx := Lib.hid hdx
  obtain ⟨d2, hud⟩ := Go.Proofs.YtnlpjncljbaapaaGreatDoor.u25
  have HU := Lib.hid hud
  clear hT hG hrd hex hdr hdx hud
  go_enter Tryz.func13, Tryz.ntmps13
  unfold sSetC at *
  unfold sRuleC at *
  go_upto_region 1 with fail
  generalize hw1 : w.alloc (.cells #[_, _, _, _, _, _, _, _, _, _, _, _, _, _, _, _, _, _, _, _, _, _] 28) = w1 at *
  obtain ⟨B, hB⟩ : ∃ B, B = w1.heap.size := ⟨_, rfl⟩
  have HBw := Lib.hid hBw
  have HR := Lib.hid hR
  have hBlt : w.heap.size < B := by omega
  have hBle : B ≤ w1.heap.size := by omega
  have hcell := Lib.hid fun i (hi : i < 22) (W : World) (hW : Below B w1 W) => (hW.cell (p := ⟨w.heap.size, i, none⟩) hBlt).trans (HR.out.cell (i := i) hi)
  have hRW := Lib.hid fun (W : World) (hW : Below B w1 W) => (below_row HR.out hW hBlt)
  have x0 := hcell.out 0 (by omega) w1 (.refl _ _)
  simp only [sSetF, sSetC, List.getElem?_toArray, List.getElem?_cons_zero, Option.getD_some] at x0
  have HD := Lib.hid fun W (hW : Glob W) => dateText_any t (by omega) ht.2 W hW
  have hds : (⟨(dateL t).toArray⟩ : ByteArray).size = 16 := rfl
  obtain ⟨z, hz⟩ : ∃ z : ByteArray, z = ⟨(dateL t).toArray⟩ := ⟨_, rfl⟩
  rw [← hz] at HD hds
  have HZ := Lib.hid hz
  have hov : ¬ 9223372036854775807 < 8 + z.size := by omega
  have ht0 : 0 < t := ht.1
  have hown0 := own_nil w1 B 9 1
  clear hz hw1 hBw hR hB ht
  go_wp2_with fail
  refine (HD.out _ (HG.out.on HBw.out)).mono ?_; rintro e w2 ⟨rfl, hb2⟩
  have hown2 := own_below hown0 hb2
  have hb3 : Below B w1 w2 := hb2.mono hBle
  have hz2 := hb2.size
  clear hb2
  go_wp2_with (at_builtin; refine app_own B rfl _ _ 41 9 (.string ⟨#[]⟩) 1 16 rfl Tryz.underlying41 info9 rfl (by decide) (by decide) _ _ _ [.string ((⟨#[68, 84, 83, 84, 65, 82, 84, 58]⟩ : ByteArray) ++ z)] (by rfl) (by rfl) rfl (by simp [Value.oneCell']) hown2 (by omega) (by omega) ?_)
  intro g5 cap5 w5 hown5 hg5 hg6 hcap5 hgrow hat5
  have hb5 : Below B w1 w5 := hb3.grown hgrow (by omega) (own_base hown2)
  have e : ((⟨#[68, 84, 83, 84, 65, 82, 84, 58]⟩ : ByteArray) ++ z) = ⟨(dtL t).toArray⟩ := by
    rw [HZ.out]
    apply ByteArray.ext
    simp [dtL]
  rw [e] at hown5
  have hown5 : w5.ownsRow B 9 1 (.slice (some ⟨g5, 0, none⟩) 1 cap5) 1 (strVs [dtL t]) := hown5
  have HB := Lib.hid hb5
  have HOWN := Lib.hid hown5
  have hbs : B ≤ w5.heap.size := Nat.le_trans hBle hb5.size
  have x1 := hcell.out 1 (by omega) w5 HB.out
  simp only [sSetF, sSetC, List.getElem?_toArray, List.getElem?_cons_succ, List.getElem?_cons_zero, Option.getD_some] at x1
  clear x0 hown2 hb3 hb5 hown5 hgrow hat5 hov hds e HZ HD hown0 hg5 hg6
  go_upto_if 21 with fail
  go_cut [5] from 13 to 29 (fun v wc => PS B w1 v wc 2 ([dtL t] ++ opt1 hr (rrL tx)))
  case first =>
    cases hr with
    | false =>
      go_wp2_with fail
      go_meet
      exact ⟨1, rfl, by omega, HOWN.out, HB.out⟩
    | true =>
      have hds : (⟨tx.toArray⟩ : ByteArray).size ≤ 100000 := by rw [Lib.size_eq]; exact htx
      obtain ⟨z, hz⟩ : ∃ z : ByteArray, z = ⟨tx.toArray⟩ := ⟨_, rfl⟩
      rw [← hz] at HT hds
      have HZ := Lib.hid hz
      have hov : ¬ 9223372036854775807 < 6 + z.size := by omega
      have HR5 := Lib.hid (hRW.out w5 HB.out)
      clear hz
      go_wp2_with (with_reducible refine gd_load 25 ?_; refine wpl_load_row rfl 25 _ rfl w.heap.size 2 28 22 18 _ rfl HR5.out (by decide) d2 HU.out.1 HU.out.2 info25s ?_; rw [HRC.out])
      refine (HT.out (by trivial) _ (HBw.out.trans (HB.out.mono (Nat.le_of_lt hBlt)))).mono ?_; rintro e w2 ⟨rfl, hb2⟩
      have hown2 := own_below HOWN.out hb2
      have hb3 : Below B w1 w2 := HB.out.trans (hb2.mono hbs)
      have hz2 := hb2.size
      clear hb2
      go_wp2_with (at_builtin; refine app_own B rfl _ _ 41 9 (.string ⟨#[]⟩) 1 16 rfl Tryz.underlying41 info9 rfl (by decide) (by decide) _ _ _ [.string ((⟨#[82, 82, 85, 76, 69, 58]⟩ : ByteArray) ++ z)] (by rfl) (by rfl) rfl (by simp [Value.oneCell']) hown2 (by omega) (by omega) ?_)
      intro g6x cap6 w6 hown6 hg6x hg6 hcap6 hgrow hat6
      have hb6 : Below B w1 w6 := hb3.grown hgrow (by omega) (own_base hown2)
      have e : ((⟨#[82, 82, 85, 76, 69, 58]⟩ : ByteArray) ++ z) = ⟨(rrL tx).toArray⟩ := by
        rw [HZ.out]
        apply ByteArray.ext
        simp [rrL]
      rw [e, ← strVs_snoc] at hown6
      go_wp2_with fail
      go_meet
      exact ⟨2, rfl, by omega, hown6, hb6⟩
  case rest =>
  clear HB HOWN x1 hbs
  obtain ⟨m, hm, hmk, hown, hb⟩ := hcut
  have HM := Lib.hid hm
  have HB := Lib.hid hb
  have HOWN := Lib.hid hown
  have hbs : B ≤ wc.heap.size := Nat.le_trans hBle hb.size
  have x20 := hcell.out 20 (by omega) wc hb
  simp only [sSetF, sSetC, List.getElem?_toArray, List.getElem?_cons_succ, List.getElem?_cons_zero, Option.getD_some] at x20
  clear hm hb hown
  go_wp2_with fail
  clear x20
  go_loopw [5, 33] (fun u v wr => ∃ k : Nat, k ≤ nr ∧ v = .int .i64 k ∧ PS B w1 u wr (2 + k) ([dtL t] ++ opt1 hr (rrL tx) ++ (rds.take k).map rdL)) (fun _ v _ => nr - (intOf v).toNat)
  case atStart => exact ⟨0, Nat.zero_le _, rfl, m, by rw [List.take_zero, List.map_nil, List.append_nil]; exact HM.out, by omega, by rw [List.take_zero, List.map_nil, List.append_nil]; exact HOWN.out, HB.out⟩
  case round =>
    clear HM HB HOWN hmk
    obtain ⟨k, hk, rfl, m, hm, hmk, hown, hb⟩ := hrel
    have HM := Lib.hid hm
    have HB := Lib.hid hb
    have HOWN := Lib.hid hown
    have hbs : B ≤ wr.heap.size := Nat.le_trans hBle hb.size
    clear hm hb hown
    by_cases hkn : k < nr
    · have hkl : k < rds.length := by have := HNr.out; omega
      obtain ⟨g, o, rfl, hg, hc⟩ := HCr.out k _ (List.getElem?_eq_getElem hkl)
      have hc := ((HBw.out.trans (HB.out.mono (Nat.le_of_lt hBlt))).cell (p := ⟨g, o + k, none⟩) hg).trans hc
      have HK := Lib.hid (List.getElem?_eq_getElem hkl)
      have HXk := Lib.hid (HXr.out _ (List.getElem_mem hkl))
      have HD := Lib.hid (dateText_any rds[k] HXk.out.1 HXk.out.2 wr (HG.out.on (HBw.out.trans (HB.out.mono (Nat.le_of_lt hBlt)))))
      have hds : (⟨(dateL rds[k]).toArray⟩ : ByteArray).size = 16 := rfl
      obtain ⟨z, hz⟩ : ∃ z : ByteArray, z = ⟨(dateL rds[k]).toArray⟩ := ⟨_, rfl⟩
      rw [← hz] at HD hds
      have HZ := Lib.hid hz
      generalize rds[k] = x at *
      have hov : ¬ 9223372036854775807 < 6 + z.size := by omega
      clear hz
      go_wp2_with fail
      refine HD.out.mono ?_; rintro e w2 ⟨rfl, hb2⟩
      have hown2 := own_below HOWN.out hb2
      have hb3 : Below B w1 w2 := HB.out.trans (hb2.mono hbs)
      have hz2 := hb2.size
      clear hb2
      go_wp2_with (at_builtin; refine app_own B rfl _ _ 41 9 (.string ⟨#[]⟩) 1 16 rfl Tryz.underlying41 info9 rfl (by decide) (by decide) _ _ _ [.string ((⟨#[82, 68, 65, 84, 69, 58]⟩ : ByteArray) ++ z)] (by rfl) (by rfl) rfl (by simp [Value.oneCell']) hown2 (by omega) (by omega) ?_)
      intro g5 cap5 w5 hown5 hg5 hg6 hcap5 hgrow hat5
      have hb5 : Below B w1 w5 := hb3.grown hgrow (by omega) (own_base hown2)
      have e : ((⟨#[82, 68, 65, 84, 69, 58]⟩ : ByteArray) ++ z) = ⟨(rdL x).toArray⟩ := by
        rw [HZ.out]
        apply ByteArray.ext
        simp [rdL]
      rw [e, ← strVs_snoc] at hown5
      go_wp2_with fail
      go_roundw
      case rel =>
        refine ⟨k + 1, by omega, by go_num, m + 1, ?_, by omega, ?_, hb5⟩
        · rw [map_take _ HK.out, ← List.append_assoc, List.length_append, HM.out]; rfl
        · rw [map_take _ HK.out]; simpa only [List.map_take, List.append_assoc, List.cons_append, List.nil_append] using hown5
      case measure => simp [intOf]; omega
    · obtain ⟨kk, hkk⟩ : ∃ kk, kk = nr := ⟨_, rfl⟩
      obtain rfl : k = kk := by omega
      have HL := Lib.hid (show rds.take k = rds from List.take_of_length_le (by have := HNr.out; omega))
      have hfk : ¬ ((k : Int) < ((nr : Nat) : Int)) := by omega
      rw [HL.out] at HM HOWN
      have HKK := Lib.hid hkk
      clear hkk hkn
      have x21 := hcell.out 21 (by omega) wr HB.out
      simp only [sSetF, sSetC, List.getElem?_toArray, List.getElem?_cons_succ, List.getElem?_cons_zero, Option.getD_some] at x21
      go_wp2_with fail
      clear x21
      go_loopw [5, 47] (fun u v wr => ∃ k : Nat, k ≤ nx ∧ v = .int .i64 k ∧ PS B w1 u wr (2 + nr + k) ([dtL t] ++ opt1 hr (rrL tx) ++ rds.map rdL ++ (exs.take k).map exL)) (fun _ v _ => nx - (intOf v).toNat)
      case atStart => exact ⟨0, Nat.zero_le _, rfl, m, by rw [List.take_zero, List.map_nil, List.append_nil]; exact HM.out, by omega, by rw [List.take_zero, List.map_nil, List.append_nil]; exact HOWN.out, HB.out⟩
      case round =>
        clear HM HB HOWN hmk
        obtain ⟨k, hk, rfl, m, hm, hmk, hown, hb⟩ := hrel
        have HM := Lib.hid hm
        have HB := Lib.hid hb
        have HOWN := Lib.hid hown
        have hbs : B ≤ wr.heap.size := Nat.le_trans hBle hb.size
        clear hm hb hown
        by_cases hkn : k < nx
        · have hkl : k < exs.length := by have := HNx.out; omega
          obtain ⟨g, o, rfl, hg, hc⟩ := HCx.out k _ (List.getElem?_eq_getElem hkl)
          have hc := ((HBw.out.trans (HB.out.mono (Nat.le_of_lt hBlt))).cell (p := ⟨g, o + k, none⟩) hg).trans hc
          have HK := Lib.hid (List.getElem?_eq_getElem hkl)
          have HXk := Lib.hid (HXx.out _ (List.getElem_mem hkl))
          have HD := Lib.hid (dateText_any exs[k] HXk.out.1 HXk.out.2 wr (HG.out.on (HBw.out.trans (HB.out.mono (Nat.le_of_lt hBlt)))))
          have hds : (⟨(dateL exs[k]).toArray⟩ : ByteArray).size = 16 := rfl
          obtain ⟨z, hz⟩ : ∃ z : ByteArray, z = ⟨(dateL exs[k]).toArray⟩ := ⟨_, rfl⟩
          rw [← hz] at HD hds
          have HZ := Lib.hid hz
          generalize exs[k] = x at *
          have hov : ¬ 9223372036854775807 < 7 + z.size := by omega
          clear hz
          go_wp2_with fail
          refine HD.out.mono ?_; rintro e w2 ⟨rfl, hb2⟩
          have hown2 := own_below HOWN.out hb2
          have hb3 : Below B w1 w2 := HB.out.trans (hb2.mono hbs)
          have hz2 := hb2.size
          clear hb2
          go_wp2_with (at_builtin; refine app_own B rfl _ _ 41 9 (.string ⟨#[]⟩) 1 16 rfl Tryz.underlying41 info9 rfl (by decide) (by decide) _ _ _ [.string ((⟨#[69, 88, 68, 65, 84, 69, 58]⟩ : ByteArray) ++ z)] (by rfl) (by rfl) rfl (by simp [Value.oneCell']) hown2 (by omega) (by omega) ?_)
          intro g5 cap5 w5 hown5 hg5 hg6 hcap5 hgrow hat5
          have hb5 : Below B w1 w5 := hb3.grown hgrow (by omega) (own_base hown2)
          have e : ((⟨#[69, 88, 68, 65, 84, 69, 58]⟩ : ByteArray) ++ z) = ⟨(exL x).toArray⟩ := by
            rw [HZ.out]
            apply ByteArray.ext
            simp [exL]
          rw [e, ← strVs_snoc] at hown5
          go_wp2_with fail
          go_roundw
          case rel =>
            refine ⟨k + 1, by omega, by go_num, m + 1, ?_, by omega, ?_, hb5⟩
            · rw [map_take _ HK.out, ← List.append_assoc, List.length_append, HM.out]; rfl
            · rw [map_take _ HK.out]; simpa only [List.map_take, List.append_assoc, List.cons_append, List.nil_append] using hown5
          case measure => simp [intOf]; omega
        · obtain ⟨kk, hkk⟩ : ∃ kk, kk = nx := ⟨_, rfl⟩
          obtain rfl : k = kk := by omega
          have HL := Lib.hid (show exs.take k = exs from List.take_of_length_le (by have := HNx.out; omega))
          have hfk : ¬ ((k : Int) < ((nx : Nat) : Int)) := by omega
          rw [HL.out] at HM HOWN
          have HKK := Lib.hid hkk
          clear hkk hkn
          go_wp2_with fail
          go_ret
          exact ⟨B, _, m, rfl, Nat.le_of_lt hBlt, HOWN.out, HM.out, HBw.out.trans (HB.out.mono (Nat.le_of_lt hBlt))⟩
theorem setTexts_nil (t : Int) (hr : Bool) (fr : Nat) (hs : Bool) (st iv wk ct : Int) (hu : Bool) (un : Int) (p : Nat → Option Addr) (n c : Nat → Nat) (pr : Option Addr) (nr cr : Nat) (px : Option Addr) (nx cx : Nat) (tx : List UInt8) (rds exs : List Int) (w : World) (hG : Glob w)
    (ht : 0 < t ∧ t < 315537897600) (hT : hr = true → ∀ W, Below w.heap.size w W → Calls Tryz.prog 35 #[.agg (sRuleC fr hs st iv wk ct hu un p n c), .slice none 0 0] W fun e w' => e = .returned (.string ⟨tx.toArray⟩) ∧ Below W.heap.size W w') (htx : tx.length ≤ 100000)
    (hrd : RowO w pr nr rds) (hex : RowO w px nx exs) (hnr : nr ≤ 12) (hnx : nx ≤ 12) (hdr : DateOk rds) (hdx : DateOk exs) :
    Calls Tryz.prog 13 #[.agg (sSetC t hr fr hs st iv wk ct hu un p n c pr nr cr px nx cx), .slice none 0 0] w fun e w' => GivesOwn (setLines t hr tx rds exs) w e w' :=
  setTexts_ord t hr fr hs st iv wk ct hu un p n c pr nr cr px nx cx none 0 0 tx rds exs w hG ht hT htx hrd hex hnr hnx hdr hdx
end Go.Proofs.YtnlpjncljbaapaaGreatDoor
