/- The parts of a rule, written. -/
import Derived.Test.YtnlpjncljbaapaaGreatDoorSf
namespace Go.Proofs.YtnlpjncljbaapaaGreatDoor
open Go.RowKit

/-- A rule of the specification as a value: its lists by their cells. -/
def sRuleC (fr : Nat) (hs : Bool) (st iv wk ct : Int) (hu : Bool) (un : Int) (p : Nat → Option Addr) (n c : Nat → Nat) : Array Value :=
  #[.int .u8 fr, .bool hs, .int .i64 st, .int .i64 iv, .int .i64 wk, .int .i64 ct, .bool hu, .int .i64 un, .slice (p 8) (n 8) (c 8), .slice (p 9) (n 9) (c 9), .slice (p 10) (n 10) (c 10), .slice (p 11) (n 11) (c 11), .slice (p 12) (n 12) (c 12), .slice (p 13) (n 13) (c 13), .slice (p 14) (n 14) (c 14), .slice (p 15) (n 15) (c 15), .slice (p 16) (n 16) (c 16), .slice (p 17) (n 17) (c 17)]
theorem own_one {W : World} {base : Nat} {x : ByteArray} (hb : base ≤ W.heap.size) (l : List UInt8) (hl : x = ⟨l.toArray⟩) : (W.alloc (.cells #[.string x] 9)).ownsRow base 9 1 (.slice (some ⟨W.heap.size, 0, none⟩) 1 1) 1 (strVs [l]) := by
  subst hl
  exact ⟨rfl, .inr ⟨W.heap.size, 1, _, rfl, hb, heap_alloc_new W _, Nat.le_refl _, by simp only [maxLen]; omega, rfl, rfl⟩⟩
theorem fr_at (fr : Nat) (h : fr ≤ 6) : ∃ b : List UInt8, frNames[fr]?.getD [] = b ∧ b.length ≤ 8 ∧ (strVs frNames)[fr]? = some (.string ⟨b.toArray⟩) := by
  have h : fr = 0 ∨ fr = 1 ∨ fr = 2 ∨ fr = 3 ∨ fr = 4 ∨ fr = 5 ∨ fr = 6 := by omega
  rcases h with h | h | h | h | h | h | h <;> subst h <;> exact ⟨_, rfl, by decide, rfl⟩
/-- The parts so far lie in a row of the call's own. -/
def PS (B : Nat) (w1 : World) (v : Value) (wc : World) (k : Nat) (xs : List (List UInt8)) : Prop := ∃ m, xs.length = m ∧ m ≤ k ∧ wc.ownsRow B 9 1 v m (strVs xs) ∧ Below B w1 wc
/-- A part that is there, if so. -/
def opt1 (b : Bool) (x : List UInt8) : List (List UInt8) := bif b then [x] else []
theorem opt1_pos {b : Bool} {x : List UInt8} (h : b = true) : opt1 b x = [x] := by subst h; rfl
theorem opt1_neg {b : Bool} {x : List UInt8} (h : b = false) : opt1 b x = [] := by subst h; rfl
def pFreq (fr : Nat) : List UInt8 := [70, 82, 69, 81, 61] ++ frNames[fr]?.getD []
def gCell : Nat → Nat
  | 0 => 16
  | 1 => 15
  | 2 => 14
  | 3 => 10
  | 4 => 11
  | 5 => 12
  | 6 => 9
  | 7 => 8
  | 8 => 17
  | _ => 8
def gNm : Nat → List UInt8
  | 0 => [66, 89, 83, 69, 67, 79, 78, 68]
  | 1 => [66, 89, 77, 73, 78, 85, 84, 69]
  | 2 => [66, 89, 72, 79, 85, 82]
  | 3 => [66, 89, 77, 79, 78, 84, 72, 68, 65, 89]
  | 4 => [66, 89, 89, 69, 65, 82, 68, 65, 89]
  | 5 => [66, 89, 87, 69, 69, 75, 78, 79]
  | 6 => [66, 89, 77, 79, 78, 84, 72]
  | 7 => [66, 89, 83, 69, 84, 80, 79, 83]
  | 8 => [66, 89, 69, 65, 83, 84, 69, 82]
  | _ => []
theorem gNm_len (k : Nat) : (gNm k).length ≤ 10 := by
  match k with
  | 0 | 1 | 2 | 3 | 4 | 5 | 6 | 7 | 8 => decide
  | k + 9 => simp [gNm]
def listP (l : Nat → List Int) (j : Nat) : List UInt8 := gNm j ++ 61 :: joinC 44 ((l (gCell j)).map Lib.itoa)
def lists (l : Nat → List Int) (k : Nat) : List (List UInt8) := (List.range k).flatMap fun j => opt1 (decide (0 < (l (gCell j)).length)) (listP l j)
theorem joinC_len (c : UInt8) (b : Nat) : ∀ xs : List (List UInt8), (∀ x ∈ xs, x.length ≤ b) → (joinC c xs).length ≤ (b + 1) * xs.length
  | [], _ => by simp [joinC]
  | [a], h => by
    have := h a (by simp)
    simp [joinC]
    omega
  | a :: d :: r, h => by
    have h1 := h a (by simp)
    have h2 := joinC_len c b (d :: r) (fun x hx => h x (by simp at hx ⊢; exact .inr hx))
    simp only [joinC, List.length_append, List.length_cons] at h2 ⊢
    rw [Nat.mul_succ]
    omega
theorem lists_succ (l : Nat → List Int) (k : Nat) : lists l (k + 1) = lists l k ++ opt1 (decide (0 < (l (gCell k)).length)) (listP l k) := by
  unfold lists
  rw [List.range_succ, List.flatMap_append]
  simp
structure TabC (w : World) (T : Nat) (p : Nat → Option Addr) (n c : Nat → Nat) : Prop where
  at_ : ∀ j, j < 9 → w.cell? ⟨T, j * 2, none⟩ = some (.string ⟨(gNm j).toArray⟩) ∧ w.cell? ⟨T, j * 2 + 1, none⟩ = some (.slice (p (gCell j)) (n (gCell j)) (c (gCell j)))
def gTab (p : Nat → Option Addr) (n c : Nat → Nat) : Array Value := #[.string ⟨#[66, 89, 83, 69, 67, 79, 78, 68]⟩, .slice (p 16) (n 16) (c 16), .string ⟨#[66, 89, 77, 73, 78, 85, 84, 69]⟩, .slice (p 15) (n 15) (c 15), .string ⟨#[66, 89, 72, 79, 85, 82]⟩, .slice (p 14) (n 14) (c 14), .string ⟨#[66, 89, 77, 79, 78, 84, 72, 68, 65, 89]⟩, .slice (p 10) (n 10) (c 10), .string ⟨#[66, 89, 89, 69, 65, 82, 68, 65, 89]⟩, .slice (p 11) (n 11) (c 11), .string ⟨#[66, 89, 87, 69, 69, 75, 78, 79]⟩, .slice (p 12) (n 12) (c 12), .string ⟨#[66, 89, 77, 79, 78, 84, 72]⟩, .slice (p 9) (n 9) (c 9), .string ⟨#[66, 89, 83, 69, 84, 80, 79, 83]⟩, .slice (p 8) (n 8) (c 8), .string ⟨#[66, 89, 69, 65, 83, 84, 69, 82]⟩, .slice (p 17) (n 17) (c 17)]
theorem gTab_at (w : World) (p : Nat → Option Addr) (n c : Nat → Nat) : TabC (w.alloc (.cells (gTab p n c) 167)) w.heap.size p n c := ⟨fun j hj => by
  match j, hj with
  | 0, _ => exact ⟨(cell_new rfl).trans rfl, (cell_new rfl).trans rfl⟩
  | 1, _ => exact ⟨(cell_new rfl).trans rfl, (cell_new rfl).trans rfl⟩
  | 2, _ => exact ⟨(cell_new rfl).trans rfl, (cell_new rfl).trans rfl⟩
  | 3, _ => exact ⟨(cell_new rfl).trans rfl, (cell_new rfl).trans rfl⟩
  | 4, _ => exact ⟨(cell_new rfl).trans rfl, (cell_new rfl).trans rfl⟩
  | 5, _ => exact ⟨(cell_new rfl).trans rfl, (cell_new rfl).trans rfl⟩
  | 6, _ => exact ⟨(cell_new rfl).trans rfl, (cell_new rfl).trans rfl⟩
  | 7, _ => exact ⟨(cell_new rfl).trans rfl, (cell_new rfl).trans rfl⟩
  | 8, _ => exact ⟨(cell_new rfl).trans rfl, (cell_new rfl).trans rfl⟩
  ⟩
def pTill (un : Int) : List UInt8 := [85, 78, 84, 73, 76, 61] ++ dateL un
def pCount (ct : Int) : List UInt8 := [67, 79, 85, 78, 84, 61] ++ Lib.itoa ct
def pInterval (iv : Int) : List UInt8 := [73, 78, 84, 69, 82, 86, 65, 76, 61] ++ Lib.itoa iv
def pDays (dl : List (Int × Int)) : List UInt8 := [66, 89, 68, 65, 89, 61] ++ joinC 44 (dl.map dayText)
theorem wd_at2 (kd : Int) (h0 : 0 ≤ kd) (h1 : kd ≤ 6) : ∃ b : List UInt8, wdNames[kd.toNat]? = some b ∧ b.length = 2 := by
  have h : kd = 0 ∨ kd = 1 ∨ kd = 2 ∨ kd = 3 ∨ kd = 4 ∨ kd = 5 ∨ kd = 6 := by omega
  rcases h with h | h | h | h | h | h | h <;> subst h <;> exact ⟨_, rfl, rfl⟩
theorem weekdays_w (w : World) : Calls Tryz.prog 105 #[] w fun e w' => ∃ g, e = .returned (.slice (some ⟨g, 0, none⟩) 7 7) ∧ StrsAt w' g wdNames ∧ w.heap.size ≤ g ∧ g < w'.heap.size ∧ Below w.heap.size w w' :=
  (weekdays_any w).mono fun e w' ⟨he, hw⟩ => ⟨_, he, fun j x hx => by rw [hw]; refine (cell_new rfl).trans ?_; simp [strVs, hx, strV], Nat.le_refl _, by rw [hw, World.size_alloc]; exact Nat.lt_succ_self _, by rw [hw]; exact below_a1⟩
/-- New texts in a row of the call's own, one at least. -/
def GivesRow (xs : List (List UInt8)) (w : World) (e : Ending) (w' : World) : Prop :=
  ∃ g cap, e = .returned (.slice (some ⟨g, 0, none⟩) xs.length cap) ∧ w'.ownsRow w.heap.size 9 1 (.slice (some ⟨g, 0, none⟩) xs.length cap) xs.length (strVs xs) ∧ Below w.heap.size w w'
theorem GivesRow.strs {xs : List (List UInt8)} {w w' : World} {e : Ending} (h : GivesRow xs w e w') (h0 : 0 < xs.length) : GivesStrs xs w e w' := by
  obtain ⟨g, cap, rfl, ho, hb⟩ := h
  rcases ho.2 with ⟨_, h1⟩ | ⟨g', cap', cur, e, hg, hh, hcap, _⟩
  · omega
  · cases e
    exact ⟨g, cap, rfl, hcap, StrsAt.of_own ho, hg, (Array.getElem?_eq_some_iff.1 hh).1, hb⟩
theorem strs_of_own {w wc : World} {B m : Nat} {v : Value} {xs : List (List UInt8)} (h : wc.ownsRow B 9 1 v m (strVs xs)) (hm : xs.length = m) (h1 : 0 < m) (hb : Below w.heap.size w wc) (hB : w.heap.size ≤ B) : GivesRow xs w (.returned v) wc := by
  rcases h.2 with ⟨_, h0⟩ | ⟨g, cap, cur, rfl, hg, hh, hcap, _⟩
  · omega
  · subst hm; exact ⟨g, cap, rfl, Joins.ownsRow_le h hB, hb⟩
def pWkst (wk : Int) : List UInt8 := [87, 75, 83, 84, 61] ++ (wdNames[wk.toNat]?.getD [])
theorem dayText_len (d : Int × Int) (h : int64 d.2) (h0 : 0 ≤ d.1) (h1 : d.1 ≤ 6) : (dayText d).length ≤ 23 := by
  obtain ⟨b, hb, hl, _⟩ := wd_at d.1 h0 h1
  unfold dayText
  rw [hb]
  have := Lib.itoa_length_le d.2 h.1 h.2
  split <;> simp <;> omega
def partsL (fr : Nat) (hu : Bool) (un ct iv : Int) (l : Nat → List Int) (dl : List (Int × Int)) (wk : Int) : List (List UInt8) := [pFreq fr] ++ opt1 (hu) (pTill un) ++ opt1 (decide (0 < ct)) (pCount ct) ++ opt1 (decide (1 < iv)) (pInterval iv) ++ lists l 9 ++ opt1 (decide (0 < dl.length)) (pDays dl) ++ opt1 (decide (wk ≠ 0)) (pWkst wk)
set_option maxRecDepth 100000 in
set_option maxHeartbeats 4000000 in
theorem parts_row (fr : Nat) (hs : Bool) (st iv wk ct : Int) (hu : Bool) (un : Int) (p : Nat → Option Addr) (n c : Nat → Nat) (w : World) (hG : Glob w) (hfr : fr ≤ 6) (hun : hu = true → 0 ≤ un ∧ un < 315537897600) (hct : int64 ct) (hiv : int64 iv) (l : Nat → List Int) (hr : ∀ j, j < 9 → RowO w (p (gCell j)) (n (gCell j)) (l (gCell j))) (hll : ∀ j, j < 9 → (l (gCell j)).length ≤ 100000) (hx : ∀ j, j < 9 → ∀ x ∈ l (gCell j), int64 x) (dl : List (Int × Int)) (hrd : RowDO w (p 13) (n 13) dl) (hdl : dl.length ≤ 100000) (hdx : ∀ x ∈ dl, int64 x.2 ∧ 0 ≤ x.1 ∧ x.1 ≤ 6) (hwk : 0 ≤ wk ∧ wk ≤ 6) :
    Calls Tryz.prog 63 #[.agg (sRuleC fr hs st iv wk ct hu un p n c)] w fun e w' => GivesRow (partsL fr hu un ct iv l dl wk) w e w' := by
  obtain ⟨fn, hfn, hfl, hat⟩ := fr_at fr hfr
  have HFN := Lib.hid hfn
  have HFQ := Lib.hid fun W : World => frequencies_any W
  have HG := Lib.hid hG
  have HUN := Lib.hid hun
  have HCT := Lib.hid hct
  have HIV := Lib.hid hiv
  have HR := Lib.hid hr
  have HLL := Lib.hid hll
  have HX := Lib.hid hx
  have HRD := Lib.hid hrd
  have HDL := Lib.hid hdl
  have HDX := Lib.hid hdx
  have HWK := Lib.hid hwk
  have hfs : (⟨fn.toArray⟩ : ByteArray).size = fn.length := by rw [Lib.size_eq]
  have m0 : ¬ 9223372036854775807 < 5 + fn.length := by omega
  have m1 : (fr : Int) < 7 := by omega
  clear hfn hG hun hct hiv hr hll hx hrd hdl hdx hwk
  have hbox : ∀ i, (w.alloc (.cells (sRuleC fr hs st iv wk ct hu un p n c) 25)).cell? ⟨w.heap.size, i, none⟩ = (sRuleC fr hs st iv wk ct hu un p n c)[i]? := fun i => cell_new rfl
  have hBw := below_a1 (w := w) (o := .cells (sRuleC fr hs st iv wk ct hu un p n c) 25)
  have hsz : (w.alloc (.cells (sRuleC fr hs st iv wk ct hu un p n c) 25)).heap.size = w.heap.size + 1 := by simp
  have x0 := hbox 0
  have x3 := hbox 3
  have x4 := hbox 4
  have x5 := hbox 5
  have x6 := hbox 6
  have x7 := hbox 7
  have x8 := hbox 8
  have x9 := hbox 9
  have x10 := hbox 10
  have x11 := hbox 11
  have x12 := hbox 12
  have x13 := hbox 13
  have x14 := hbox 14
  have x15 := hbox 15
  have x16 := hbox 16
  have x17 := hbox 17
  unfold sRuleC at *
  go_enter Tryz.func63, Tryz.ntmps63
  go_upto_if 14 with fail
  generalize hw1 : w.alloc (.cells #[_, _, _, _, _, _, _, _, _, _, _, _, _, _, _, _, _, _] 25) = w1 at *
  obtain ⟨B, hB⟩ : ∃ B, B = w1.heap.size := ⟨_, rfl⟩
  have HBw := Lib.hid hBw
  have HBB := Lib.hid hB
  have hBlt : w.heap.size < B := by omega
  have hBle : B ≤ w1.heap.size := by omega
  clear hbox hw1 hBw hB
  go_cut [3] from 4 (fun s3 wc => PS B w1 s3 wc 1 [pFreq fr])
  case first =>
    go_region_law (go_simp; go_at_call 102; refine (HFQ.out _).mono ?_; rintro e w2 ⟨rfl, rfl⟩)
    all_goals
      go_wp2_with fail
      go_meet
      refine ⟨1, rfl, Nat.le_refl _, ?_, ?_⟩
      · have h := own_one (W := w1.alloc (.cells (strVs frNames).toArray 9)) (base := B) (by rw [World.size_alloc]; omega) (pFreq fr) (x := (⟨#[70, 82, 69, 81, 61]⟩ ++ ⟨fn.toArray⟩)) (by rw [← HFN.out]; apply ByteArray.ext; simp [pFreq])
        rw [World.size_alloc, hsz] at h
        exact h
      · exact (((Below.refl B w1).alloc hBle _).alloc (by rw [World.size_alloc]; omega) _).drew
  case rest =>
    have X0 := Lib.hid x0
    have X3 := Lib.hid x3
    have X4 := Lib.hid x4
    have X5 := Lib.hid x5
    have X6 := Lib.hid x6
    have X7 := Lib.hid x7
    have X8 := Lib.hid x8
    have X9 := Lib.hid x9
    have X10 := Lib.hid x10
    have X11 := Lib.hid x11
    have X12 := Lib.hid x12
    have X13 := Lib.hid x13
    have X14 := Lib.hid x14
    have X15 := Lib.hid x15
    have X16 := Lib.hid x16
    have X17 := Lib.hid x17
    clear x0 x3 x4 x5 x6 x7 x8 x9 x10 x11 x12 x13 x14 x15 x16 x17
    obtain ⟨m, hm, hmk, hown, hb⟩ := hcut
    have HM := Lib.hid hm
    have HB := Lib.hid hb
    have hbs : B ≤ wc.heap.size := Nat.le_trans hBle hb.size
    have x6 := (hb.cell (p := ⟨w.heap.size, 6, none⟩) hBlt).trans X6.out
    have x7 := (hb.cell (p := ⟨w.heap.size, 7, none⟩) hBlt).trans X7.out
    clear hb
    go_upto_if 14 with fail
    go_cut [3] from 14 (fun s3 wc' => PS B w1 s3 wc' 2 ([pFreq fr] ++ opt1 (hu) (pTill un)))
    case first =>
      by_cases hcnd : hu = true
      · subst hcnd; have hu2 := HUN.out rfl
        have HD := Lib.hid (dateText_any un hu2.1 hu2.2 wc (HG.out.on (HBw.out.trans (HB.out.mono (Nat.le_of_lt hBlt)))))
        have hds : (⟨(dateL un).toArray⟩ : ByteArray).size = 16 := rfl
        obtain ⟨z, hz⟩ : ∃ z : ByteArray, z = ⟨(dateL un).toArray⟩ := ⟨_, rfl⟩
        rw [← hz] at HD hds
        have HZ := Lib.hid hz
        have hov : ¬ 9223372036854775807 < 6 + z.size := by omega
        clear hz
        go_wp2_with fail
        refine HD.out.mono ?_; rintro e w2 ⟨rfl, hb2⟩
        have hown2 : w2.ownsRow B 9 1 u3 m (strVs ([pFreq fr])) := hown.kept (row := none) ⟨hb2.os, hb2.tape, hb2.output, hb2.size, fun i hi _ => hb2.block i hi⟩ (by cases u3.ownBlock <;> simp)
        have hb3 : Below B w1 w2 := HB.out.trans (hb2.mono hbs)
        have hz2 := hb2.size
        clear hown hb2
        go_wp2_with (at_builtin; refine app_own B rfl _ _ 41 9 (.string ⟨#[]⟩) 1 16 rfl Tryz.underlying41 info9 rfl (by decide) (by decide) _ _ _ [.string ((⟨#[85, 78, 84, 73, 76, 61]⟩ : ByteArray) ++ z)] (by rfl) (by rfl) rfl (by simp [Value.oneCell']) hown2 (by omega) (by omega) ?_)
        intro g5 cap5 w5 hown5 hg5 hg6 hcap5 hgrow hat5
        have hb5 : Below B w1 w5 := hb3.grown hgrow (by omega) (own_base hown2)
        go_wp2_with fail
        go_meet
        rw [opt1_pos (b := true) (by first | rfl | exact decide_eq_true (by omega))]
        refine ⟨m + 1, by rw [List.length_append, HM.out]; rfl, by omega, ?_, hb5⟩
        have e : ((⟨#[85, 78, 84, 73, 76, 61]⟩ : ByteArray) ++ z) = ⟨(pTill un).toArray⟩ := by
          rw [HZ.out]
          apply ByteArray.ext
          simp [pTill]
        rw [e, ← strVs_snoc] at hown5
        exact hown5
      · have hub : hu = false := by simpa using hcnd
        subst hub
        go_wp2_with fail
        go_meet
        rw [opt1_neg (b := false) (by first | rfl | exact decide_eq_false (by omega)), List.append_nil]
        exact ⟨m, hm, Nat.le_succ_of_le hmk, hown, HB.out⟩
    case rest =>
      obtain ⟨m, hm, hmk, hown, hb⟩ := hcut
      have HM := Lib.hid hm
      have HB := Lib.hid hb
      have hbs : B ≤ wc.heap.size := Nat.le_trans hBle hb.size
      have x5 := (hb.cell (p := ⟨w.heap.size, 5, none⟩) hBlt).trans X5.out
      clear hb
      go_upto_if 24 with fail
      go_cut [3] from 24 (fun s3 wc' => PS B w1 s3 wc' 3 ([pFreq fr] ++ opt1 (hu) (pTill un) ++ opt1 (decide (0 < ct)) (pCount ct)))
      case first =>
        by_cases hcnd : 0 < ct
        · skip
          have HD := Lib.hid (itoa_any ct HCT.out.1 HCT.out.2 wc (HG.out.on (HBw.out.trans (HB.out.mono (Nat.le_of_lt hBlt)))))
          have hds : (⟨(Lib.itoa ct).toArray⟩ : ByteArray).size ≤ 21 := by rw [Lib.size_eq]; exact Lib.itoa_length_le ct HCT.out.1 HCT.out.2
          obtain ⟨z, hz⟩ : ∃ z : ByteArray, z = ⟨(Lib.itoa ct).toArray⟩ := ⟨_, rfl⟩
          rw [← hz] at HD hds
          have HZ := Lib.hid hz
          have hov : ¬ 9223372036854775807 < 6 + z.size := by omega
          clear hz
          go_wp2_with fail
          refine HD.out.mono ?_; rintro e w2 ⟨rfl, hb2⟩
          have hown2 : w2.ownsRow B 9 1 u3 m (strVs ([pFreq fr] ++ opt1 (hu) (pTill un))) := hown.kept (row := none) ⟨hb2.os, hb2.tape, hb2.output, hb2.size, fun i hi _ => hb2.block i hi⟩ (by cases u3.ownBlock <;> simp)
          have hb3 : Below B w1 w2 := HB.out.trans (hb2.mono hbs)
          have hz2 := hb2.size
          clear hown hb2
          go_wp2_with (at_builtin; refine app_own B rfl _ _ 41 9 (.string ⟨#[]⟩) 1 16 rfl Tryz.underlying41 info9 rfl (by decide) (by decide) _ _ _ [.string ((⟨#[67, 79, 85, 78, 84, 61]⟩ : ByteArray) ++ z)] (by rfl) (by rfl) rfl (by simp [Value.oneCell']) hown2 (by omega) (by omega) ?_)
          intro g5 cap5 w5 hown5 hg5 hg6 hcap5 hgrow hat5
          have hb5 : Below B w1 w5 := hb3.grown hgrow (by omega) (own_base hown2)
          go_wp2_with fail
          go_meet
          rw [opt1_pos (b := decide (0 < ct)) (by first | rfl | exact decide_eq_true (by omega))]
          refine ⟨m + 1, by rw [List.length_append, HM.out]; rfl, by omega, ?_, hb5⟩
          have e : ((⟨#[67, 79, 85, 78, 84, 61]⟩ : ByteArray) ++ z) = ⟨(pCount ct).toArray⟩ := by
            rw [HZ.out]
            apply ByteArray.ext
            simp [pCount]
          rw [e, ← strVs_snoc] at hown5
          exact hown5
        · skip
          go_wp2_with fail
          go_meet
          rw [opt1_neg (b := decide (0 < ct)) (by first | rfl | exact decide_eq_false (by omega)), List.append_nil]
          exact ⟨m, hm, Nat.le_succ_of_le hmk, hown, HB.out⟩
      case rest =>
        obtain ⟨m, hm, hmk, hown, hb⟩ := hcut
        have HM := Lib.hid hm
        have HB := Lib.hid hb
        have hbs : B ≤ wc.heap.size := Nat.le_trans hBle hb.size
        have x3 := (hb.cell (p := ⟨w.heap.size, 3, none⟩) hBlt).trans X3.out
        clear hb
        go_upto_if 34 with fail
        go_cut [3] from 34 (fun s3 wc' => PS B w1 s3 wc' 4 ([pFreq fr] ++ opt1 (hu) (pTill un) ++ opt1 (decide (0 < ct)) (pCount ct) ++ opt1 (decide (1 < iv)) (pInterval iv)))
        case first =>
          by_cases hcnd : 1 < iv
          · skip
            have HD := Lib.hid (itoa_any iv HIV.out.1 HIV.out.2 wc (HG.out.on (HBw.out.trans (HB.out.mono (Nat.le_of_lt hBlt)))))
            have hds : (⟨(Lib.itoa iv).toArray⟩ : ByteArray).size ≤ 21 := by rw [Lib.size_eq]; exact Lib.itoa_length_le iv HIV.out.1 HIV.out.2
            obtain ⟨z, hz⟩ : ∃ z : ByteArray, z = ⟨(Lib.itoa iv).toArray⟩ := ⟨_, rfl⟩
            rw [← hz] at HD hds
            have HZ := Lib.hid hz
            have hov : ¬ 9223372036854775807 < 9 + z.size := by omega
            clear hz
            go_wp2_with fail
            refine HD.out.mono ?_; rintro e w2 ⟨rfl, hb2⟩
            have hown2 : w2.ownsRow B 9 1 u3 m (strVs ([pFreq fr] ++ opt1 (hu) (pTill un) ++ opt1 (decide (0 < ct)) (pCount ct))) := hown.kept (row := none) ⟨hb2.os, hb2.tape, hb2.output, hb2.size, fun i hi _ => hb2.block i hi⟩ (by cases u3.ownBlock <;> simp)
            have hb3 : Below B w1 w2 := HB.out.trans (hb2.mono hbs)
            have hz2 := hb2.size
            clear hown hb2
            go_wp2_with (at_builtin; refine app_own B rfl _ _ 41 9 (.string ⟨#[]⟩) 1 16 rfl Tryz.underlying41 info9 rfl (by decide) (by decide) _ _ _ [.string ((⟨#[73, 78, 84, 69, 82, 86, 65, 76, 61]⟩ : ByteArray) ++ z)] (by rfl) (by rfl) rfl (by simp [Value.oneCell']) hown2 (by omega) (by omega) ?_)
            intro g5 cap5 w5 hown5 hg5 hg6 hcap5 hgrow hat5
            have hb5 : Below B w1 w5 := hb3.grown hgrow (by omega) (own_base hown2)
            go_wp2_with fail
            go_meet
            rw [opt1_pos (b := decide (1 < iv)) (by first | rfl | exact decide_eq_true (by omega))]
            refine ⟨m + 1, by rw [List.length_append, HM.out]; rfl, by omega, ?_, hb5⟩
            have e : ((⟨#[73, 78, 84, 69, 82, 86, 65, 76, 61]⟩ : ByteArray) ++ z) = ⟨(pInterval iv).toArray⟩ := by
              rw [HZ.out]
              apply ByteArray.ext
              simp [pInterval]
            rw [e, ← strVs_snoc] at hown5
            exact hown5
          · skip
            go_wp2_with fail
            go_meet
            rw [opt1_neg (b := decide (1 < iv)) (by first | rfl | exact decide_eq_false (by omega)), List.append_nil]
            exact ⟨m, hm, Nat.le_succ_of_le hmk, hown, HB.out⟩
        case rest =>
          obtain ⟨m, hm, hmk, hown, hb⟩ := hcut
          have HB := Lib.hid hb
          have hbs : B ≤ wc.heap.size := Nat.le_trans hBle hb.size
          have y16 := (hb.cell (p := ⟨w.heap.size, 16, none⟩) hBlt).trans X16.out
          have y15 := (hb.cell (p := ⟨w.heap.size, 15, none⟩) hBlt).trans X15.out
          have y14 := (hb.cell (p := ⟨w.heap.size, 14, none⟩) hBlt).trans X14.out
          have y10 := (hb.cell (p := ⟨w.heap.size, 10, none⟩) hBlt).trans X10.out
          have y11 := (hb.cell (p := ⟨w.heap.size, 11, none⟩) hBlt).trans X11.out
          have y12 := (hb.cell (p := ⟨w.heap.size, 12, none⟩) hBlt).trans X12.out
          have y9 := (hb.cell (p := ⟨w.heap.size, 9, none⟩) hBlt).trans X9.out
          have y8 := (hb.cell (p := ⟨w.heap.size, 8, none⟩) hBlt).trans X8.out
          have y17 := (hb.cell (p := ⟨w.heap.size, 17, none⟩) hBlt).trans X17.out
          have hT := gTab_at wc p n c
          have hne : u3.ownBlock ≠ some wc.heap.size := fun e => Nat.lt_irrefl _ (hown.lt _ e).2
          have HPS : Hid (PS B w1 u3 (wc.alloc (.cells (gTab p n c) 167)) 4 ([pFreq fr] ++ opt1 (hu) (pTill un) ++ opt1 (decide (0 < ct)) (pCount ct) ++ opt1 (decide (1 < iv)) (pInterval iv))) := ⟨m, hm, hmk, hown.alloc _, hb.alloc hbs _⟩
          have hTz : wc.heap.size < (wc.alloc (.cells (gTab p n c) 167)).heap.size := by simp
          clear hb hown
          unfold gTab at *
          go_wp2_with fail
          generalize hw4 : wc.alloc (.cells _ 167) = w4 at *
          generalize wc.heap.size = T at *
          have HT := Lib.hid hT
          have HNE := Lib.hid hne
          clear hT hne hw4
          go_loopw [3, 71] (fun u v wr => ∃ k : Nat, k ≤ 9 ∧ v = .int .i64 k ∧ PS B w1 u wr (4 + k) (([pFreq fr] ++ opt1 (hu) (pTill un) ++ opt1 (decide (0 < ct)) (pCount ct) ++ opt1 (decide (1 < iv)) (pInterval iv)) ++ lists l k) ∧ TabC wr T p n c ∧ T < wr.heap.size ∧ Hid (u.ownBlock ≠ some T)) (fun _ v _ => 9 - (intOf v).toNat)
          case atStart =>
            refine ⟨0, Nat.zero_le _, rfl, ?_, HT.out, hTz, HNE.out⟩
            have := HPS.out
            simpa [lists] using this
          case round =>
            clear HPS hTz HT HNE
            obtain ⟨k, hk, rfl, ⟨m, hm, hmk, hown, hb⟩, hT, hTz, hne⟩ := hrel
            have HTT := Lib.hid hT
            have HB := Lib.hid hb
            have HM := Lib.hid hm
            have hbs : B ≤ wr.heap.size := Nat.le_trans hBle hb.size
            by_cases hk9 : k < 9
            · have hk9i : (k : Int) < 9 := by omega
              obtain ⟨t0, t1⟩ := hT.at_ k hk9
              have hr := (HR.out k hk9).below (HBw.out.trans (hb.mono (Nat.le_of_lt hBlt)))
              have HRk := Lib.hid hr
              obtain ⟨hnl, _⟩ := hr
              have HNL := Lib.hid hnl
              have hll := HLL.out k hk9
              have hgl := gNm_len k
              have HGN : Hid (listP l k = gNm k ++ 61 :: joinC 44 ((l (gCell k)).map Lib.itoa)) := rfl
              have HSU : Hid (lists l (k + 1) = lists l k ++ opt1 (decide (0 < (l (gCell k)).length)) (listP l k)) := lists_succ l k
              have HXk := Lib.hid (HX.out k hk9)
              have HJ := Lib.hid fun W (hG : Glob W) (hR : RowO W (p (gCell k)) (n (gCell k)) (l (gCell k))) => joined_any (p (gCell k)) (n (gCell k)) (c (gCell k)) (l (gCell k)) W hG hR (HLL.out k hk9) (HX.out k hk9)
              clear hT hb hm hnl
              generalize hpk : p (gCell k) = pk at *
              generalize hnk : n (gCell k) = nk at *
              generalize hck : c (gCell k) = ck at *
              generalize hlk : l (gCell k) = lk at *
              generalize hnm : gNm k = nm at *
              clear hpk hnk hck hlk hnm
              by_cases hl0 : 0 < lk.length
              · have hn0 : (0 : Int) < (nk : Int) := by have := HNL.out; omega
                obtain ⟨i0, hi, hzz⟩ := Option.map_eq_some_iff.1 info9
                simp only [Prod.mk.injEq] at hzz
                obtain ⟨hz0, hz1, hz2⟩ := hzz
                have HI := Lib.hid (And.intro hi (And.intro hz0 (And.intro hz1 hz2)))
                have HOWN := Lib.hid hown
                have HNE := Lib.hid hne
                have HLP := Lib.hid hl0
                have hzl : (joinC 44 (lk.map Lib.itoa)).length ≤ 22 * lk.length := by
                  have := joinC_len 44 21 (lk.map Lib.itoa) (fun x hx => by
                    obtain ⟨y, hy, rfl⟩ := List.mem_map.1 hx
                    have := HXk.out y hy
                    exact Lib.itoa_length_le y this.1 this.2)
                  simpa using this
                have hzs : (⟨(joinC 44 (lk.map Lib.itoa)).toArray⟩ : ByteArray).size ≤ 2200000 := by rw [Lib.size_eq]; show (joinC 44 (lk.map Lib.itoa)).length ≤ _; omega
                obtain ⟨zz, hzz⟩ : ∃ zz : ByteArray, zz = ⟨(joinC 44 (lk.map Lib.itoa)).toArray⟩ := ⟨_, rfl⟩
                rw [← hzz] at HJ hzs
                have HZZ := Lib.hid hzz
                have hns : (⟨nm.toArray⟩ : ByteArray).size = nm.length := by rw [Lib.size_eq]
                have v1 : ¬ 9223372036854775807 < nm.length + 1 := by omega
                have v2 : ¬ 9223372036854775807 < nm.length + 1 + zz.size := by omega
                clear hi hz0 hz1 hz2 hown hne hzl hzz
                go_wp2_with fail
                go_region_law (first
                  | (go_simp; go_at_call 103; refine (HJ.out _ (HG.out.on (HBw.out.trans (((HB.out.alloc hbs _).drew).mono (Nat.le_of_lt hBlt)))) (HRk.out.below (below_a1.drew))).mono ?_; rintro e w6 ⟨rfl, hb6⟩; have HO6 := Lib.hid (own_below (w := (wr.alloc (.cells #[.string ⟨nm.toArray⟩, .slice pk nk ck] 167)).drew) (HOWN.out.alloc _) hb6); have HB6 := Lib.hid (((HB.out.alloc hbs _).drew).trans (hb6.mono (by simp <;> omega))); have hz6 : wr.heap.size < w6.heap.size := Nat.lt_of_lt_of_le (by simp) hb6.size; have d0 : w6.cell? ⟨wr.heap.size, 0, none⟩ = some (.string ⟨nm.toArray⟩) := (hb6.cell (p := ⟨wr.heap.size, 0, none⟩) (by simp)).trans (cell_new rfl); have d1 : w6.cell? ⟨wr.heap.size, 1, none⟩ = some (.slice pk nk ck) := (hb6.cell (p := ⟨wr.heap.size, 1, none⟩) (by simp)).trans (cell_new rfl); have HT6 := Lib.hid (show TabC w6 T p n c from ⟨fun j hj => ⟨(hb6.cell (p := ⟨T, j * 2, none⟩) (by simp <;> omega)).trans ((cell_old hTz).trans (HTT.out.at_ j hj).1), (hb6.cell (p := ⟨T, j * 2 + 1, none⟩) (by simp <;> omega)).trans ((cell_old hTz).trans (HTT.out.at_ j hj).2)⟩⟩); clear hb6)
                  | (refine step_append_lies _ rfl (.tmp 79) (.tmp 87) 41 rfl B 9 i0 (.string ⟨#[]⟩) 1 16 Tryz.underlying41 HI.out.1 HI.out.2.1 HI.out.2.2.1 HI.out.2.2.2 rfl (by decide) u3 m (strVs (([pFreq fr] ++ opt1 (hu) (pTill un) ++ opt1 (decide (0 < ct)) (pCount ct) ++ opt1 (decide (1 < iv)) (pInterval iv)) ++ lists l k)) (by simp [Act.eval]) (HO6.out.alloc _) ⟨w6.heap.size, 0, none⟩ 1 1 [.string ((⟨nm.toArray⟩ : ByteArray) ++ ⟨#[61]⟩ ++ zz)] (by simp [Act.eval]) rfl (World.news_of_block (cs := #[.string ((⟨nm.toArray⟩ : ByteArray) ++ ⟨#[61]⟩ ++ zz)]) (t := 9) (fr := (0, 0)) (heap_alloc_new w6 _)) (by simp [Value.oneCell']) (by decide) (by simp only [maxLen]; omega) (by omega) (by rw [World.size_alloc]; exact Nat.le_succ_of_le (Nat.le_trans hBle HB6.out.size)) _ rfl ?_; intro g7 cap7 w7 hown7 hgrow7 hat7 hlt7))
                all_goals
                  have hT7 : TabC w7 T p n c := ⟨fun j hj => ⟨(hgrow7.cell_far ⟨T, j * 2, none⟩ (by simp <;> omega) (fun h => HNE.out h.symm)).trans ((cell_old (by omega)).trans (HT6.out.at_ j hj).1), (hgrow7.cell_far ⟨T, j * 2 + 1, none⟩ (by simp <;> omega) (fun h => HNE.out h.symm)).trans ((cell_old (by omega)).trans (HT6.out.at_ j hj).2)⟩⟩
                  have hB7 : Below B w1 w7 := (HB6.out.alloc (Nat.le_trans hBle HB6.out.size) _).grown hgrow7 (by rw [World.size_alloc]; exact Nat.le_succ_of_le (Nat.le_trans hBle HB6.out.size)) (own_base HO6.out)
                  have hN7 : (Value.slice (some ⟨g7, 0, none⟩) (m + 1) cap7).ownBlock ≠ some T := by
                    rcases hat7 with h | h
                    · show some g7 ≠ _
                      rw [← h]; exact HNE.out
                    · show some g7 ≠ _
                      rw [h]
                      intro e
                      simp at e
                      omega
                  have hz7 : T < w7.heap.size := by have := hgrow7.size; rw [World.size_alloc] at this; omega
                  have HT7 := Lib.hid hT7
                  have HN7 := Lib.hid hN7
                  clear hgrow7 hat7 hT7 hN7
                  go_wp2_with fail
                  go_roundw
                  (case rel =>
                    refine ⟨k + 1, by omega, by go_num, ⟨m + 1, ?_, by omega, ?_, hB7⟩, HT7.out, hz7, HN7.out⟩
                    · rw [HSU.out, opt1_pos (decide_eq_true HLP.out), ← List.append_assoc, List.length_append, HM.out]; rfl
                    · rw [HSU.out, opt1_pos (decide_eq_true HLP.out), ← List.append_assoc, strVs_snoc, HGN.out]
                      have e : ((⟨nm.toArray⟩ : ByteArray) ++ ⟨#[61]⟩ ++ zz) = ⟨(nm ++ 61 :: joinC 44 (lk.map Lib.itoa)).toArray⟩ := by
                        rw [HZZ.out]
                        apply ByteArray.ext
                        simp
                      rw [← e]
                      exact hown7)
                  (case measure => simp [intOf]; omega)
              · have hn0 : nk = 0 := by have := HNL.out; omega
                have HNE := Lib.hid hne
                subst hn0
                go_wp2_with fail
                go_roundw
                case rel =>
                  refine ⟨k + 1, by omega, by go_num, ⟨m, ?_, by omega, ?_, ?_⟩, ?_, ?_, HNE.out⟩
                  · rw [HSU.out, opt1_neg (decide_eq_false hl0), List.append_nil]; exact HM.out
                  · rw [HSU.out, opt1_neg (decide_eq_false hl0), List.append_nil]; exact hown.alloc _
                  · exact HB.out.alloc hbs _
                  · exact ⟨fun j hj => ⟨(cell_old hTz).trans (HTT.out.at_ j hj).1, (cell_old hTz).trans (HTT.out.at_ j hj).2⟩⟩
                  · rw [World.size_alloc]; omega
                case measure => simp [intOf]; omega
            · obtain rfl : k = 9 := by omega
              have HOWN := Lib.hid hown
              have x13 := (hb.cell (p := ⟨w.heap.size, 13, none⟩) hBlt).trans X13.out
              have hrd := HRD.out.below (HBw.out.trans (hb.mono (Nat.le_of_lt hBlt)))
              have HRDk := Lib.hid hrd
              have hnd : n 13 = dl.length := hrd.1
              clear hT hb hm hown hrd hne hTz HTT
              go_upto_if 93 with fail
              go_cut [3] from 93 (fun s3 wc' => PS B w1 s3 wc' 14 ([pFreq fr] ++ opt1 (hu) (pTill un) ++ opt1 (decide (0 < ct)) (pCount ct) ++ opt1 (decide (1 < iv)) (pInterval iv) ++ lists l 9 ++ opt1 (decide (0 < dl.length)) (pDays dl)))
              case first =>
                by_cases hcnd : 0 < dl.length
                · have hcn : (0 : Int) < ((n 13 : Nat) : Int) := by omega
                  have HD := Lib.hid (days_any (p 13) (n 13) (c 13) dl wr (HG.out.on (HBw.out.trans (HB.out.mono (Nat.le_of_lt hBlt)))) HRDk.out HDL.out HDX.out)
                  have hds : (⟨(joinC 44 (dl.map dayText)).toArray⟩ : ByteArray).size ≤ 2400000 := by
                    rw [Lib.size_eq]
                    have h1 := joinC_len 44 23 (dl.map dayText) (fun x hx => by
                      obtain ⟨y, hy, rfl⟩ := List.mem_map.1 hx
                      exact dayText_len y (HDX.out y hy).1 (HDX.out y hy).2.1 (HDX.out y hy).2.2)
                    have h2 := HDL.out
                    rw [List.length_map] at h1
                    show (joinC 44 (dl.map dayText)).length ≤ _
                    omega
                  obtain ⟨z, hz⟩ : ∃ z : ByteArray, z = ⟨(joinC 44 (dl.map dayText)).toArray⟩ := ⟨_, rfl⟩
                  rw [← hz] at HD hds
                  have HZ := Lib.hid hz
                  have hov : ¬ 9223372036854775807 < 6 + z.size := by omega
                  have hCN := Lib.hid hcnd
                  clear hz hnd hcnd
                  go_wp2_with fail
                  refine HD.out.mono ?_; rintro e w2 ⟨rfl, hb2⟩
                  have hown2 := own_below HOWN.out hb2
                  have hb3 : Below B w1 w2 := HB.out.trans (hb2.mono hbs)
                  have hz2 := hb2.size
                  clear hb2
                  go_wp2_with (at_builtin; refine app_own B rfl _ _ 41 9 (.string ⟨#[]⟩) 1 16 rfl Tryz.underlying41 info9 rfl (by decide) (by decide) _ _ _ [.string ((⟨#[66, 89, 68, 65, 89, 61]⟩ : ByteArray) ++ z)] (by rfl) (by rfl) rfl (by simp [Value.oneCell']) hown2 (by omega) (by omega) ?_)
                  intro g5 cap5 w5 hown5 hg5 hg6 hcap5 hgrow hat5
                  have hb5 : Below B w1 w5 := hb3.grown hgrow (by omega) (own_base hown2)
                  go_wp2_with fail
                  go_meet
                  rw [opt1_pos (b := decide (0 < dl.length)) (decide_eq_true hCN.out)]
                  refine ⟨m + 1, by rw [List.length_append, HM.out]; rfl, by omega, ?_, hb5⟩
                  have e : ((⟨#[66, 89, 68, 65, 89, 61]⟩ : ByteArray) ++ z) = ⟨(pDays dl).toArray⟩ := by
                    rw [HZ.out]
                    apply ByteArray.ext
                    simp [pDays]
                  rw [e, ← strVs_snoc] at hown5
                  simp only [List.append_assoc, List.cons_append, List.nil_append] at hown5 ⊢
                  exact hown5
                · have hcn : n 13 = 0 := by omega
                  have hCN := Lib.hid hcnd
                  clear hnd hcnd
                  rw [hcn] at x13
                  go_wp2_with fail
                  go_meet
                  rw [opt1_neg (b := decide (0 < dl.length)) (decide_eq_false hCN.out), List.append_nil]
                  exact ⟨m, HM.out, by omega, HOWN.out, HB.out⟩
              case rest =>
                clear HOWN HB HM hbs x13 hnd HRDk
                obtain ⟨m, hm, hmk, hown, hb⟩ := hcut
                have HM := Lib.hid hm
                have HB := Lib.hid hb
                have HOWN := Lib.hid hown
                have hbs : B ≤ wc.heap.size := Nat.le_trans hBle hb.size
                have x4 := (hb.cell (p := ⟨w.heap.size, 4, none⟩) hBlt).trans X4.out
                clear hm hb hown
                go_upto_if 103 with fail
                by_cases hw0 : wk = 0
                · subst hw0
                  go_wp2_with fail
                  go_ret
                  unfold partsL
                  rw [opt1_neg (b := decide ((0 : Int) ≠ 0)) rfl, List.append_nil]
                  exact strs_of_own HOWN.out HM.out (by rw [← HM.out]; simp <;> omega) (HBw.out.trans (HB.out.mono (Nat.le_of_lt hBlt))) (by omega)
                · have hw0b : (wk == 0) = false := by simpa using hw0
                  have hwk := HWK.out
                  obtain ⟨nm, hnm, hnm2⟩ := wd_at2 wk hwk.1 hwk.2
                  have HNM := Lib.hid hnm
                  have hw7 : wk < 7 := by omega
                  have hw00 : 0 ≤ wk := hwk.1
                  have hnms : (⟨nm.toArray⟩ : ByteArray).size = 2 := by rw [Lib.size_eq]; exact hnm2
                  have HWD := Lib.hid fun W : World => weekdays_w W
                  obtain ⟨i0, hi, hzz⟩ := Option.map_eq_some_iff.1 info9
                  simp only [Prod.mk.injEq] at hzz
                  obtain ⟨hz0, hz1, hz2⟩ := hzz
                  have HI := Lib.hid (And.intro hi (And.intro hz0 (And.intro hz1 hz2)))
                  have HW0 := Lib.hid hw0
                  clear hi hz0 hz1 hz2 hnm hnm2 hw0 hwk
                  go_wp2_with fail
                  go_region_law (first
                    | (go_simp; go_at_call 105; refine (HWD.out _).mono ?_; rintro e w6 ⟨g6, rfl, hst, hg6, hg7, hb6⟩; have HO6 := Lib.hid (own_below (w := wc.drew) HOWN.out hb6); have HB6 := Lib.hid ((HB.out.drew).trans (hb6.mono hbs)); have d0 : w6.cell? ⟨g6, wk.toNat, none⟩ = some (.string ⟨nm.toArray⟩) := hst _ _ HNM.out; have d1 : w6.cell? ⟨w.heap.size, 4, none⟩ = some (.int .i64 wk) := (hb6.cell (p := ⟨w.heap.size, 4, none⟩) (by simp <;> omega)).trans x4; clear hst hb6)
                    | (refine step_append_lies _ rfl (.tmp 104) (.tmp 111) 41 rfl B 9 i0 (.string ⟨#[]⟩) 1 16 Tryz.underlying41 HI.out.1 HI.out.2.1 HI.out.2.2.1 HI.out.2.2.2 rfl (by decide) _ m (strVs ([pFreq fr] ++ opt1 (hu) (pTill un) ++ opt1 (decide (0 < ct)) (pCount ct) ++ opt1 (decide (1 < iv)) (pInterval iv) ++ lists l 9 ++ opt1 (decide (0 < dl.length)) (pDays dl))) (by simp [Act.eval]) (HO6.out.alloc _) ⟨w6.heap.size, 0, none⟩ 1 1 [.string ((⟨#[87, 75, 83, 84, 61]⟩ : ByteArray) ++ ⟨nm.toArray⟩)] (by simp [Act.eval]) rfl (World.news_of_block (cs := #[.string ((⟨#[87, 75, 83, 84, 61]⟩ : ByteArray) ++ ⟨nm.toArray⟩)]) (t := 9) (fr := (0, 0)) (heap_alloc_new w6 _)) (by simp [Value.oneCell']) (by decide) (by simp only [maxLen]; omega) (by omega) (by rw [World.size_alloc]; exact Nat.le_succ_of_le (Nat.le_trans hBle HB6.out.size)) _ rfl ?_; intro g7 cap7 w7 hown7 hgrow7 hat7 hlt7))
                  all_goals
                    have hB7 : Below B w1 w7 := (HB6.out.alloc (Nat.le_trans hBle HB6.out.size) _).grown hgrow7 (by rw [World.size_alloc]; exact Nat.le_succ_of_le (Nat.le_trans hBle HB6.out.size)) (own_base HO6.out)
                    go_wp2_with fail
                    go_ret
                    unfold partsL
                    rw [opt1_pos (b := decide (wk ≠ 0)) (decide_eq_true HW0.out)]
                    have e : ((⟨#[87, 75, 83, 84, 61]⟩ : ByteArray) ++ ⟨nm.toArray⟩) = ⟨(pWkst wk).toArray⟩ := by
                      apply ByteArray.ext
                      simp [pWkst, HNM.out]
                    rw [e, ← strVs_snoc] at hown7
                    exact strs_of_own hown7 (by rw [List.length_append, HM.out]; rfl) (Nat.succ_pos _) (HBw.out.trans (hB7.mono (Nat.le_of_lt hBlt))) (by omega)
theorem partsL_pos (fr : Nat) (hu : Bool) (un ct iv : Int) (l : Nat → List Int) (dl : List (Int × Int)) (wk : Int) : 0 < (partsL fr hu un ct iv l dl wk).length := by
  unfold partsL
  simp only [List.length_append, List.length_cons, List.length_nil]
  omega
theorem parts_any (fr : Nat) (hs : Bool) (st iv wk ct : Int) (hu : Bool) (un : Int) (p : Nat → Option Addr) (n c : Nat → Nat) (w : World) (hG : Glob w) (hfr : fr ≤ 6) (hun : hu = true → 0 ≤ un ∧ un < 315537897600) (hct : int64 ct) (hiv : int64 iv) (l : Nat → List Int) (hr : ∀ j, j < 9 → RowO w (p (gCell j)) (n (gCell j)) (l (gCell j))) (hll : ∀ j, j < 9 → (l (gCell j)).length ≤ 100000) (hx : ∀ j, j < 9 → ∀ x ∈ l (gCell j), int64 x) (dl : List (Int × Int)) (hrd : RowDO w (p 13) (n 13) dl) (hdl : dl.length ≤ 100000) (hdx : ∀ x ∈ dl, int64 x.2 ∧ 0 ≤ x.1 ∧ x.1 ≤ 6) (hwk : 0 ≤ wk ∧ wk ≤ 6) :
    Calls Tryz.prog 63 #[.agg (sRuleC fr hs st iv wk ct hu un p n c)] w fun e w' => GivesStrs (partsL fr hu un ct iv l dl wk) w e w' :=
  (parts_row fr hs st iv wk ct hu un p n c w hG hfr hun hct hiv l hr hll hx dl hrd hdl hdx hwk).mono fun _ _ h => h.strs (partsL_pos fr hu un ct iv l dl wk)
end Go.Proofs.YtnlpjncljbaapaaGreatDoor
