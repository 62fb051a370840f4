/- spec.Clean, walked. -/
import Derived.Test.YtnlpjncljbaapaaGreatDoorSv
namespace Go.Proofs.YtnlpjncljbaapaaGreatDoor
open Go.RowKit

/-- What a rule of which Clean says yes holds. -/
structure CleanOk (fr : Nat) (hs : Bool) (st iv wk ct : Int) (hu : Bool) (un : Int) (l : Nat → List Int) (dl : List (Int × Int)) : Prop where
  h_fr : fr ≤ 6
  h_hs : hs = true
  h_st : 31536000 ≤ st ∧ st < 284012524800
  h_iv : 0 ≤ iv ∧ iv ≤ 1000
  h_wk : 0 ≤ wk ∧ wk ≤ 6
  h_ct : 0 ≤ ct ∧ ct ≤ 1000
  h_un : hu = true → st ≤ un ∧ un < 315537897600
  h_l8 : (l 8).length ≤ 12 ∧ ∀ x ∈ l 8, -366 ≤ x ∧ x ≤ 366 ∧ x ≠ 0
  h_l9 : (l 9).length ≤ 12 ∧ ∀ x ∈ l 9, 1 ≤ x ∧ x ≤ 12 ∧ x ≠ 0
  h_l10 : (l 10).length ≤ 12 ∧ ∀ x ∈ l 10, -31 ≤ x ∧ x ≤ 31 ∧ x ≠ 0
  h_l11 : (l 11).length ≤ 12 ∧ ∀ x ∈ l 11, -366 ≤ x ∧ x ≤ 366 ∧ x ≠ 0
  h_l12 : (l 12).length ≤ 12 ∧ ∀ x ∈ l 12, -53 ≤ x ∧ x ≤ 53 ∧ x ≠ 0
  h_l14 : (l 14).length ≤ 12 ∧ ∀ x ∈ l 14, 0 ≤ x ∧ x ≤ 23
  h_l15 : (l 15).length ≤ 12 ∧ ∀ x ∈ l 15, 0 ≤ x ∧ x ≤ 59
  h_l16 : (l 16).length ≤ 12 ∧ ∀ x ∈ l 16, 0 ≤ x ∧ x ≤ 59
  h_l17 : (l 17).length ≤ 12 ∧ ∀ x ∈ l 17, -80 ≤ x ∧ x ≤ 80
  h_dl : dl.length ≤ 12 ∧ ∀ d ∈ dl, (0 ≤ d.1 ∧ d.1 ≤ 6) ∧ -53 ≤ d.2 ∧ d.2 ≤ 53
  h_prod : max 1 (l 14).length * max 1 (l 15).length * max 1 (l 16).length ≤ 60
theorem wpl_load_rowg {P : Program} {ops : Array Oper} {rest : List Oper} {op : Oper} {a : Act} {Q : Exit → Act → World → Prop} {w : World} (hgd : Region.wanted op (yielded ops a.tmps) = true) (ty : TypeId) (x : Operand) (ho : op.op = .load ty x) (b t N m : Nat) (f : Nat → Value) (hx : a.eval x = .pointer (some ⟨b, 0, none⟩)) (h : w.rowIs b t N f) (hm : m ≤ N)
    (d : TypeDesc) (hu : P.underlying ty = some d) (hd : d.isRow = true) (hi : (P.info? ty).map (·.size) = some m)
    (hK : wpList P ops Q rest (a.put op.dst (.agg (rowA m f))) w) : wpList P ops Q (op :: rest) a w :=
  wpList_step fun K hK' => by
    rw [if_pos hgd]
    refine wp_load_mid ty x ho b 0 hx _ d (rowIs_range h 0 m (by omega)) hu hd (by rw [hi]; simp) (hK' _ _ ?_)
    simp only [Nat.zero_add]
    exact hK
theorem rowDO_take {w : World} {p : Option Addr} {n m : Nat} {l : List (Int × Int)} (h : RowDO w p n l) (hm : m ≤ n) : RowDO w p m (l.take m) :=
  ⟨by rw [List.length_take]; have := h.1; omega, fun i k q hx => h.2 i k q (by rw [List.getElem?_take] at hx; split at hx <;> simp_all)⟩
theorem wrap64_in (n : Int) (h : -9223372036854775808 ≤ n ∧ n ≤ 9223372036854775807) : wrap64 n = n := by unfold wrap64; omega
theorem prod60 (x y z : Nat) (hx : x ≤ 12) (hy : y ≤ 12) (hz : z ≤ 12) (h : decide (60 < wrap64 (wrap64 (max 1 (x : Int) * max 1 (y : Int)) * max 1 (z : Int))) = false) : max 1 x * max 1 y * max 1 z ≤ 60 := by
  obtain ⟨a, ha⟩ : ∃ a : Nat, a = max 1 x := ⟨_, rfl⟩
  obtain ⟨b, hb⟩ : ∃ b : Nat, b = max 1 y := ⟨_, rfl⟩
  obtain ⟨c, hc⟩ : ∃ c : Nat, c = max 1 z := ⟨_, rfl⟩
  have e1 : max 1 (x : Int) = (a : Int) := by omega
  have e2 : max 1 (y : Int) = (b : Int) := by omega
  have e3 : max 1 (z : Int) = (c : Int) := by omega
  have h1 : a * b ≤ 144 := Nat.mul_le_mul (show a ≤ 12 by omega) (show b ≤ 12 by omega)
  have h2 : a * b * c ≤ 1728 := Nat.mul_le_mul h1 (show c ≤ 12 by omega)
  have q : ∀ m : Nat, m ≤ 1728 → wrap64 (m : Int) = (m : Int) := fun m hm => wrap64_in _ ⟨by omega, by omega⟩
  have e : wrap64 (wrap64 (max 1 (x : Int) * max 1 (y : Int)) * max 1 (z : Int)) = ((a * b * c : Nat) : Int) := by rw [e1, e2, e3, ← Int.natCast_mul a b, q _ (Nat.le_trans h1 (by decide)), ← Int.natCast_mul (a * b) c, q _ h2]
  rw [e] at h
  have h := of_decide_eq_false h
  rw [← ha, ← hb, ← hc]
  generalize a * b * c = m at *
  clear e h2 h1 e1 e2 e3 q ha hb hc
  omega
theorem noB {P : Prop} {w w' : World} (h : Below w.heap.size w w') : GivesB P w (.returned (.bool false)) w' := ⟨⟨false, rfl, fun h => by cases h⟩, h⟩
set_option maxRecDepth 100000 in
set_option maxHeartbeats 40000000 in
theorem clean_any (fr : Nat) (hs : Bool) (st iv wk ct : Int) (hu : Bool) (un : Int) (p : Nat → Option Addr) (n c : Nat → Nat) (w : World) (l : Nat → List Int) (dl : List (Int × Int))
    (hr : ∀ k, 8 ≤ k → k < 18 → k ≠ 13 → RowO w (p k) (n k) (l k)) (hrd : RowDO w (p 13) (n 13) dl) (hn : ∀ k, 8 ≤ k → k < 18 → n k ≤ 2147483647) (hnc : ∀ k, 8 ≤ k → k < 18 → n k ≤ c k) :
    Calls Tryz.prog 31 #[.agg (sRuleC fr hs st iv wk ct hu un p n c)] w fun e w' => GivesB (CleanOk fr hs st iv wk ct hu un l dl) w e w' := by
  have HB := Lib.hid (below_a1 (w := w) (o := .cells (sRuleC fr hs st iv wk ct hu un p n c) 25))
  have HR := Lib.hid (sRule_at fr hs st iv wk ct hu un p n c w)
  have HRC := Lib.hid (sRuleF_row fr hs st iv wk ct hu un p n c)
  have HPA := Lib.hid fun W : World => parted_any fr hs st iv wk ct hu un p n c W hn
  obtain ⟨d2, hud⟩ := Go.Proofs.YtnlpjncljbaapaaGreatDoor.u25
  have HU := Lib.hid hud
  have e2 : Cal.dby 2 = 365 := by unfold Cal.dby; omega
  have e3 : Cal.dby 9001 = 3287182 := by unfold Cal.dby; omega
  have e4 : Cal.dby 10000 = 3652059 := by unfold Cal.dby; omega
  have w2 : IntKind.i64.wrap 31536000 = 31536000 := rfl
  have w3 : IntKind.i64.wrap 284012524800 = 284012524800 := rfl
  have w4 : IntKind.i64.wrap 315537897600 = 315537897600 := rfl
  have HN := Lib.hid hn
  have HNC := Lib.hid hnc
  have HRO := Lib.hid hr
  have HRD := Lib.hid hrd
  have HWI := Lib.hid fun k (a : 8 ≤ k) (b : k < 18) (e : k ≠ 13) (m lo hi : Int) (z : Bool) (W : World) (hR : RowO W (p k) (n k) (l k)) => within_any (p k) (n k) (c k) (l k) m lo hi z W hR (hn k a b) (hnc k a b)
  clear hud hn hnc hr hrd
  go_enter Tryz.func31, Tryz.ntmps31
  unfold sRuleC at *
  go_upto_region 1 with fail
  have hz1 : w.heap.size < (w.alloc (.cells #[.int .u8 fr, .bool hs, .int .i64 st, .int .i64 iv, .int .i64 wk, .int .i64 ct, .bool hu, .int .i64 un, .slice (p 8) (n 8) (c 8), .slice (p 9) (n 9) (c 9), .slice (p 10) (n 10) (c 10), .slice (p 11) (n 11) (c 11), .slice (p 12) (n 12) (c 12), .slice (p 13) (n 13) (c 13), .slice (p 14) (n 14) (c 14), .slice (p 15) (n 15) (c 15), .slice (p 16) (n 16) (c 16), .slice (p 17) (n 17) (c 17)] 25)).heap.size := by simp
  generalize hw1 : w.alloc (.cells #[_, _, _, _, _, _, _, _, _, _, _, _, _, _, _, _, _, _] 25) = w1 at *
  have hcell := fun i (hi : i < 18) => HR.out.cell (i := i) hi
  have x0 := hcell 0 (by omega)
  have x1 := hcell 1 (by omega)
  have x2 := hcell 2 (by omega)
  have x3 := hcell 3 (by omega)
  have x4 := hcell 4 (by omega)
  have x5 := hcell 5 (by omega)
  simp only [sRuleF, sRuleC, List.getElem?_toArray, List.getElem?_cons_succ, List.getElem?_cons_zero, Option.getD_some] at x0 x1 x2 x3 x4 x5
  have HC := Lib.hid hcell
  clear hcell hw1
  by_cases c1 : 6 < fr
  · as_aux_lemma =>
    have c1' : (6 : Int) < (fr : Int) := by omega
    go_quiet ((go_at_call 29; exact Calls.quiet_of_same ((sBefore_any _ _ (by omega) (by omega)).mono fun e w' h => ⟨h.1, h.2.symm⟩)))
    go_wp2_with fail
    go_ret
    exact noB (pw_drewN HB.out _)
  have c1' : ¬ (6 : Int) < (fr : Int) := by omega
  by_cases c2 : hs = false
  · as_aux_lemma =>
    subst c2
    go_quiet ((go_at_call 29; exact Calls.quiet_of_same ((sBefore_any _ _ (by omega) (by omega)).mono fun e w' h => ⟨h.1, h.2.symm⟩)))
    go_wp2_with fail
    go_ret
    exact noB (pw_drewN HB.out _)
  obtain rfl : hs = true := by simpa using c2
  clear c2
  by_cases c3 : st < 31536000
  · as_aux_lemma =>
    go_quiet ((go_at_call 29; exact Calls.quiet_of_same ((sBefore_any _ _ (by omega) (by omega)).mono fun e w' h => ⟨h.1, h.2.symm⟩)))
    go_wp2_with fail
    go_ret
    exact noB (pw_drewN HB.out _)
  by_cases c4 : 284012524800 ≤ st
  · as_aux_lemma =>
    go_quiet ((go_at_call 29; exact Calls.quiet_of_same ((sBefore_any _ _ (by omega) (by omega)).mono fun e w' h => ⟨h.1, h.2.symm⟩)))
    go_wp2_with fail
    go_ret
    exact noB (pw_drewN HB.out _)
  by_cases c5 : iv < 0
  · as_aux_lemma =>
    go_quiet ((go_at_call 29; exact Calls.quiet_of_same ((sBefore_any _ _ (by omega) (by omega)).mono fun e w' h => ⟨h.1, h.2.symm⟩)))
    go_wp2_with fail
    go_ret
    exact noB (pw_drewN HB.out _)
  by_cases c6 : 1000 < iv
  · as_aux_lemma =>
    go_quiet ((go_at_call 29; exact Calls.quiet_of_same ((sBefore_any _ _ (by omega) (by omega)).mono fun e w' h => ⟨h.1, h.2.symm⟩)))
    go_wp2_with fail
    go_ret
    exact noB (pw_drewN HB.out _)
  by_cases c7 : wk < 0
  · as_aux_lemma =>
    go_quiet ((go_at_call 29; exact Calls.quiet_of_same ((sBefore_any _ _ (by omega) (by omega)).mono fun e w' h => ⟨h.1, h.2.symm⟩)))
    go_wp2_with fail
    go_ret
    exact noB (pw_drewN HB.out _)
  by_cases c8 : 6 < wk
  · as_aux_lemma =>
    go_quiet ((go_at_call 29; exact Calls.quiet_of_same ((sBefore_any _ _ (by omega) (by omega)).mono fun e w' h => ⟨h.1, h.2.symm⟩)))
    go_wp2_with fail
    go_ret
    exact noB (pw_drewN HB.out _)
  by_cases c9 : ct < 0
  · as_aux_lemma =>
    go_quiet ((go_at_call 29; exact Calls.quiet_of_same ((sBefore_any _ _ (by omega) (by omega)).mono fun e w' h => ⟨h.1, h.2.symm⟩)))
    go_wp2_with fail
    go_ret
    exact noB (pw_drewN HB.out _)
  by_cases c10 : 1000 < ct
  · as_aux_lemma =>
    go_quiet ((go_at_call 29; exact Calls.quiet_of_same ((sBefore_any _ _ (by omega) (by omega)).mono fun e w' h => ⟨h.1, h.2.symm⟩)))
    go_wp2_with fail
    go_ret
    exact noB (pw_drewN HB.out _)
  go_quiet ((go_at_call 29; exact Calls.quiet_of_same ((sBefore_any _ _ (by omega) (by omega)).mono fun e w' h => ⟨h.1, h.2.symm⟩)))
  go_wp2_with fail
  have HB2 := Lib.hid (pw_drewN HB.out nq)
  have HR2 := Lib.hid (HR.out.of_block (w' := w1.drewN nq) (by simp))
  have hz2 : (w1.drewN nq).heap.size = w1.heap.size := by simp
  have HC1 := Lib.hid (show fr ≤ 6 ∧ (31536000 ≤ st ∧ st < 284012524800) ∧ (0 ≤ iv ∧ iv ≤ 1000) ∧ (0 ≤ wk ∧ wk ≤ 6) ∧ (0 ≤ ct ∧ ct ≤ 1000) by omega)
  clear x0 x1 x2 x3 x4 x5 HC HB HR c1 c1' c3 c4 c5 c6 c7 c8 c9 c10
  generalize w1.drewN nq = w2 at *
  have hcell := fun i (hi : i < 18) => HR2.out.cell (i := i) hi
  have x2 := hcell 2 (by omega)
  have x6 := hcell 6 (by omega)
  have x7 := hcell 7 (by omega)
  simp only [sRuleF, sRuleC, List.getElem?_toArray, List.getElem?_cons_succ, List.getElem?_cons_zero, Option.getD_some] at x2 x6 x7
  clear hcell
  go_cut [73] from 58 to 72 (fun v73 wc => ∃ b, v73 = .bool b ∧ (∃ q, wc = w2.drewN q) ∧ Hid (b = false → hu = true → st ≤ un ∧ un < 315537897600))
  case first => as_aux_lemma =>
    cases hu with
    | false =>
      go_quiet ((go_at_call 29; exact Calls.quiet_of_same ((sBefore_any _ _ (by omega) (by omega)).mono fun e w' h => ⟨h.1, h.2.symm⟩)))
      go_wp2_with fail
      go_meet
      exact ⟨_, rfl, ⟨_, rfl⟩, fun _ h => by cases h⟩
    | true =>
      by_cases d1 : un < st
      · go_quiet ((go_at_call 29; exact Calls.quiet_of_same ((sBefore_any _ _ (by omega) (by omega)).mono fun e w' h => ⟨h.1, h.2.symm⟩)))
        go_wp2_with fail
        go_meet
        exact ⟨_, rfl, ⟨_, rfl⟩, fun h => by cases h⟩
      by_cases d2 : 315537897600 ≤ un
      · go_quiet ((go_at_call 29; exact Calls.quiet_of_same ((sBefore_any _ _ (by omega) (by omega)).mono fun e w' h => ⟨h.1, h.2.symm⟩)))
        go_wp2_with fail
        go_meet
        exact ⟨_, rfl, ⟨_, rfl⟩, fun h => by cases h⟩
      go_quiet ((go_at_call 29; exact Calls.quiet_of_same ((sBefore_any _ _ (by omega) (by omega)).mono fun e w' h => ⟨h.1, h.2.symm⟩)))
      go_wp2_with fail
      go_meet
      exact ⟨_, rfl, ⟨_, rfl⟩, fun _ _ => ⟨by omega, by omega⟩⟩
  case rest => as_aux_lemma =>
    obtain ⟨b, rfl, ⟨q, rfl⟩, HU1⟩ := hcut
    clear x2 x6 x7
    have HB3 := Lib.hid (pw_drewN HB2.out q)
    have HR3 := Lib.hid (HR2.out.of_block (w' := w2.drewN q) (by simp))
    clear HB2 HR2 hz2 hz1
    generalize w2.drewN q = w3 at *
    cases b with
    | true =>
      go_wp2_with fail
      go_ret
      exact noB HB3.out
    | false =>
    have hcell := Lib.hid fun i (hi : i < 18) => HR3.out.cell (i := i) hi
    have HRW := Lib.hid fun k (a : 8 ≤ k) (b : k < 18) (e : k ≠ 13) => (HRO.out k a b e).below HB3.out
    have x8 := hcell.out 8 (by omega)
    simp only [sRuleF, sRuleC, List.getElem?_toArray, List.getElem?_cons_succ, List.getElem?_cons_zero, Option.getD_some] at x8
    go_wp2_with fail
    refine (HWI.out 8 (by omega) (by omega) (by omega) 12 (-366) 366 false w3 (HRW.out 8 (by omega) (by omega) (by omega))).mono ?_; rintro e w' ⟨⟨b, rfl, hf⟩, rfl⟩
    cases b with
    | false =>
      go_wp2_with fail
      go_ret
      exact noB HB3.out
    | true =>
    have F8 := Lib.hid (hf rfl)
    clear hf x8
    have x9 := hcell.out 9 (by omega)
    simp only [sRuleF, sRuleC, List.getElem?_toArray, List.getElem?_cons_succ, List.getElem?_cons_zero, Option.getD_some] at x9
    go_wp2_with fail
    refine (HWI.out 9 (by omega) (by omega) (by omega) 12 (1) 12 false w3 (HRW.out 9 (by omega) (by omega) (by omega))).mono ?_; rintro e w' ⟨⟨b, rfl, hf⟩, rfl⟩
    cases b with
    | false =>
      go_wp2_with fail
      go_ret
      exact noB HB3.out
    | true =>
    have F9 := Lib.hid (hf rfl)
    clear hf x9
    have x10 := hcell.out 10 (by omega)
    simp only [sRuleF, sRuleC, List.getElem?_toArray, List.getElem?_cons_succ, List.getElem?_cons_zero, Option.getD_some] at x10
    go_wp2_with fail
    refine (HWI.out 10 (by omega) (by omega) (by omega) 12 (-31) 31 false w3 (HRW.out 10 (by omega) (by omega) (by omega))).mono ?_; rintro e w' ⟨⟨b, rfl, hf⟩, rfl⟩
    cases b with
    | false =>
      go_wp2_with fail
      go_ret
      exact noB HB3.out
    | true =>
    have F10 := Lib.hid (hf rfl)
    clear hf x10
    have x11 := hcell.out 11 (by omega)
    simp only [sRuleF, sRuleC, List.getElem?_toArray, List.getElem?_cons_succ, List.getElem?_cons_zero, Option.getD_some] at x11
    go_wp2_with fail
    refine (HWI.out 11 (by omega) (by omega) (by omega) 12 (-366) 366 false w3 (HRW.out 11 (by omega) (by omega) (by omega))).mono ?_; rintro e w' ⟨⟨b, rfl, hf⟩, rfl⟩
    cases b with
    | false =>
      go_wp2_with fail
      go_ret
      exact noB HB3.out
    | true =>
    have F11 := Lib.hid (hf rfl)
    clear hf x11
    have x12 := hcell.out 12 (by omega)
    simp only [sRuleF, sRuleC, List.getElem?_toArray, List.getElem?_cons_succ, List.getElem?_cons_zero, Option.getD_some] at x12
    go_wp2_with fail
    refine (HWI.out 12 (by omega) (by omega) (by omega) 12 (-53) 53 false w3 (HRW.out 12 (by omega) (by omega) (by omega))).mono ?_; rintro e w' ⟨⟨b, rfl, hf⟩, rfl⟩
    cases b with
    | false =>
      go_wp2_with fail
      go_ret
      exact noB HB3.out
    | true =>
    have F12 := Lib.hid (hf rfl)
    clear hf x12
    have x14 := hcell.out 14 (by omega)
    simp only [sRuleF, sRuleC, List.getElem?_toArray, List.getElem?_cons_succ, List.getElem?_cons_zero, Option.getD_some] at x14
    go_wp2_with fail
    refine (HWI.out 14 (by omega) (by omega) (by omega) 12 (0) 23 true w3 (HRW.out 14 (by omega) (by omega) (by omega))).mono ?_; rintro e w' ⟨⟨b, rfl, hf⟩, rfl⟩
    cases b with
    | false =>
      go_wp2_with fail
      go_ret
      exact noB HB3.out
    | true =>
    have F14 := Lib.hid (hf rfl)
    clear hf x14
    have x15 := hcell.out 15 (by omega)
    simp only [sRuleF, sRuleC, List.getElem?_toArray, List.getElem?_cons_succ, List.getElem?_cons_zero, Option.getD_some] at x15
    go_wp2_with fail
    refine (HWI.out 15 (by omega) (by omega) (by omega) 12 (0) 59 true w3 (HRW.out 15 (by omega) (by omega) (by omega))).mono ?_; rintro e w' ⟨⟨b, rfl, hf⟩, rfl⟩
    cases b with
    | false =>
      go_wp2_with fail
      go_ret
      exact noB HB3.out
    | true =>
    have F15 := Lib.hid (hf rfl)
    clear hf x15
    have x16 := hcell.out 16 (by omega)
    simp only [sRuleF, sRuleC, List.getElem?_toArray, List.getElem?_cons_succ, List.getElem?_cons_zero, Option.getD_some] at x16
    go_wp2_with fail
    refine (HWI.out 16 (by omega) (by omega) (by omega) 12 (0) 59 true w3 (HRW.out 16 (by omega) (by omega) (by omega))).mono ?_; rintro e w' ⟨⟨b, rfl, hf⟩, rfl⟩
    cases b with
    | false =>
      go_wp2_with fail
      go_ret
      exact noB HB3.out
    | true =>
    have F16 := Lib.hid (hf rfl)
    clear hf x16
    have x17 := hcell.out 17 (by omega)
    simp only [sRuleF, sRuleC, List.getElem?_toArray, List.getElem?_cons_succ, List.getElem?_cons_zero, Option.getD_some] at x17
    go_wp2_with fail
    refine (HWI.out 17 (by omega) (by omega) (by omega) 12 (-80) 80 true w3 (HRW.out 17 (by omega) (by omega) (by omega))).mono ?_; rintro e w' ⟨⟨b, rfl, hf⟩, rfl⟩
    cases b with
    | false =>
      go_wp2_with fail
      go_ret
      exact noB HB3.out
    | true =>
    have F17 := Lib.hid (hf rfl)
    clear hf x17
    have HN13 := Lib.hid (show n 13 = dl.length from HRD.out.1)
    have x13 := hcell.out 13 (by omega)
    simp only [sRuleF, sRuleC, List.getElem?_toArray, List.getElem?_cons_succ, List.getElem?_cons_zero, Option.getD_some] at x13
    by_cases d13 : 12 < n 13
    · have d13' : (12 : Int) < ((n 13 : Nat) : Int) := by omega
      go_wp2_with fail
      go_ret
      exact noB HB3.out
    have HD13 := Lib.hid d13
    have b14 : n 14 ≤ 12 := by have := F14.out.1; have := (HRO.out 14 (by omega) (by omega) (by omega)).1; omega
    have b15 : n 15 ≤ 12 := by have := F15.out.1; have := (HRO.out 15 (by omega) (by omega) (by omega)).1; omega
    have b16 : n 16 ≤ 12 := by have := F16.out.1; have := (HRO.out 16 (by omega) (by omega) (by omega)).1; omega
    have x14 := hcell.out 14 (by omega)
    have x15 := hcell.out 15 (by omega)
    have x16 := hcell.out 16 (by omega)
    simp only [sRuleF, sRuleC, List.getElem?_toArray, List.getElem?_cons_succ, List.getElem?_cons_zero, Option.getD_some] at x14 x15 x16
    go_upto_region 9 with fail
    go_cut [144] from 102 to 143 (fun v wc => ∃ b, v = .bool b ∧ wc = w3 ∧ Hid (b = false → max 1 (n 14) * max 1 (n 15) * max 1 (n 16) ≤ 60))
    case first => as_aux_lemma =>
      go_wp2_with fail
      go_meet
      exact ⟨_, rfl, rfl, fun h => prod60 _ _ _ b14 b15 b16 h⟩
    case rest => as_aux_lemma =>
    obtain ⟨b, rfl, rfl, HPR⟩ := hcut
    have HB16 := Lib.hid (And.intro b14 (And.intro b15 b16))
    clear x13 x14 x15 x16 d13 b14 b15 b16
    cases b with
    | true =>
      go_wp2_with fail
      go_ret
      exact noB HB3.out
    | false =>
    have x0 := hcell.out 0 (by omega)
    have x9 := hcell.out 9 (by omega)
    have x12 := hcell.out 12 (by omega)
    simp only [sRuleF, sRuleC, List.getElem?_toArray, List.getElem?_cons_succ, List.getElem?_cons_zero, Option.getD_some] at x0 x9 x12
    clear e2 e3 e4 w2 w3 w4
    go_upto_block 0 with fail
    go_cut [3] from 145 to 169 (fun v wc' => ∃ m : Int, v = .int .i64 m ∧ 0 ≤ m ∧ m ≤ 53 ∧ wc' = wc)
    case first => as_aux_lemma =>
      by_cases f1 : fr = 1
      · subst f1
        go_wp2_with fail
        go_meet
        exact ⟨5, rfl, by omega, by omega, rfl⟩
      have f1' : ((fr : Int) == 1) = false := by rw [beq_eq_false_iff_ne]; omega
      by_cases f0 : fr = 0
      · subst f0
        by_cases g9 : 0 < n 9
        · have g9' : (0 : Int) < ((n 9 : Nat) : Int) := by omega
          go_wp2_with fail
          go_meet
          exact ⟨5, rfl, by omega, by omega, rfl⟩
        have g9' : n 9 = 0 := by omega
        rw [g9'] at x9
        clear g9 g9'
        by_cases g12 : n 12 = 0
        · rw [g12] at x12
          clear g12
          go_wp2_with fail
          go_meet
          exact ⟨53, rfl, by omega, by omega, rfl⟩
        have g12' : (((n 12 : Nat) : Int) == 0) = false := by rw [beq_eq_false_iff_ne]; omega
        go_wp2_with fail
        go_meet
        exact ⟨0, rfl, by omega, by omega, rfl⟩
      have f0' : ((fr : Int) == 0) = false := by rw [beq_eq_false_iff_ne]; omega
      go_wp2_with fail
      go_meet
      exact ⟨0, rfl, by omega, by omega, rfl⟩
    case rest => as_aux_lemma =>
    obtain ⟨mo, rfl, hm0, hm1, rfl⟩ := hcut
    clear x0 x9 x12
    have x13 := hcell.out 13 (by omega)
    simp only [sRuleF, sRuleC, List.getElem?_toArray, List.getElem?_cons_succ, List.getElem?_cons_zero, Option.getD_some] at x13
    have hle : n 13 ≤ 12 := by have := HD13.out; omega
    have hzc : w.heap.size < wc.heap.size := HR3.out.lt
    go_wp2_with fail
    clear x13 hcell
    go_loopw [173] (fun v wr => ∃ k : Nat, k ≤ n 13 ∧ v = .int .i64 k ∧ Below wc.heap.size wc wr ∧ Hid (∀ d ∈ dl.take k, (0 ≤ d.1 ∧ d.1 ≤ 6) ∧ -53 ≤ d.2 ∧ d.2 ≤ 53)) (fun v _ => n 13 - (intOf v).toNat)
    case atStart => exact ⟨0, Nat.zero_le _, rfl, .refl _ _, by show ∀ d ∈ dl.take 0, _; simp⟩
    case round => as_aux_lemma =>
      obtain ⟨k, hk, rfl, hb, HT⟩ := hrel
      have HBk := Lib.hid hb
      have hRk := below_row HR3.out hb hzc
      have hcell := Lib.hid fun i (hi : i < 18) => hRk.cell (i := i) hi
      have HRk := Lib.hid hRk
      have hzk := hb.size
      clear hb hRk
      by_cases hkn : k < n 13
      · have hkl : k < dl.length := by have := HN13.out; omega
        obtain ⟨kd, nd, hget⟩ : ∃ kd nd, dl[k]? = some (kd, nd) := ⟨_, _, List.getElem?_eq_getElem hkl⟩
        obtain ⟨g, o, hp, hg, hc, hc2⟩ := HRD.out.2 k _ _ hget
        have hB0 := HB3.out.trans (HBk.out.mono HB3.out.size)
        have hc := (hB0.cell (p := ⟨g, o + k * 2, none⟩) hg).trans hc
        have hc2 := (hB0.cell (p := ⟨g, o + k * 2 + 1, none⟩) hg).trans hc2
        have HG := Lib.hid hget
        have HDC := Lib.hid fun (m : Nat) (hm : m ≤ k) (W : World) (hW : Below w.heap.size w W) => dayContains_any (p 13) m (c 13) (dl.take m) kd nd W (rowDO_take (HRD.out.below hW) (by omega)) (by omega)
        have HP := Lib.hid hp
        have hnc13 : n 13 ≤ c 13 := HNC.out 13 (by omega) (by omega)
        have x13 := hcell.out 13 (by omega)
        simp only [sRuleF, sRuleC, List.getElem?_toArray, List.getElem?_cons_succ, List.getElem?_cons_zero, Option.getD_some] at x13
        rw [hp] at x13 HDC ⊢
        clear hget hp
        have hB0s := Lib.hid hB0
        clear hB0
        go_wp2_with fail
        have x13' : (wr.alloc (.cells #[.int .i64 kd, .int .i64 nd] 98)).cell? ⟨w.heap.size, 13, none⟩ = some (.slice (some ⟨g, o, none⟩) (n 13) (c 13)) := (cell_old (by omega)).trans x13
        have d0 : (wr.alloc (.cells #[.int .i64 kd, .int .i64 nd] 98)).cell? ⟨wr.heap.size, 0, none⟩ = some (.int .i64 kd) := (cell_new rfl).trans rfl
        have d1 : (wr.alloc (.cells #[.int .i64 kd, .int .i64 nd] 98)).cell? ⟨wr.heap.size, 1, none⟩ = some (.int .i64 nd) := (cell_new rfl).trans rfl
        have hw5 : Below w.heap.size w (wr.alloc (.cells #[.int .i64 kd, .int .i64 nd] 98)) := (hB0s.out.alloc hB0s.out.size _)
        have hw6 : Below wc.heap.size wc (wr.alloc (.cells #[.int .i64 kd, .int .i64 nd] 98)) := (HBk.out.alloc HBk.out.size _)
        have hz4 : wr.heap.size < (wr.alloc (.cells #[.int .i64 kd, .int .i64 nd] 98)).heap.size := by simp
        have HW5 := Lib.hid hw5
        have HW6 := Lib.hid hw6
        have HMO := Lib.hid (And.intro hm0 hm1)
        have hkc : k ≤ c 13 := by omega
        clear hw5 hw6 x13 hc hc2
        generalize wr.alloc (.cells #[.int .i64 kd, .int .i64 nd] 98) = w4 at *
        go_region_law (go_simp; go_at_call 51; refine (HDC.out k (Nat.le_refl _) _ HW5.out.drew).mono ?_; rintro e w5 ⟨⟨b5, rfl, -⟩, hb5⟩)
        all_goals
          have d0' : w5.cell? ⟨wr.heap.size, 0, none⟩ = some (.int .i64 kd) := (hb5.cell (p := ⟨wr.heap.size, 0, none⟩) (by simpa using hz4)).trans d0
          have d1' : w5.cell? ⟨wr.heap.size, 1, none⟩ = some (.int .i64 nd) := (hb5.cell (p := ⟨wr.heap.size, 1, none⟩) (by simpa using hz4)).trans d1
          have HB5 := Lib.hid (HW5.out.drew.trans (hb5.mono HW5.out.drew.size))
          have HC5 := Lib.hid (HW6.out.drew.trans (hb5.mono HW6.out.drew.size))
          clear hb5 d0 d1 x13'
          cases b5 with
          | true =>
            go_wp2_with fail
            go_ret
            exact noB HB5.out
          | false =>
          by_cases k1 : kd < 0
          · go_wp2_with fail
            go_ret
            exact noB HB5.out
          by_cases k2 : 6 < kd
          · go_wp2_with fail
            go_ret
            exact noB HB5.out
          by_cases k3 : nd < -mo
          · go_wp2_with fail
            go_ret
            exact noB HB5.out
          by_cases k4 : mo < nd
          · go_wp2_with fail
            go_ret
            exact noB HB5.out
          go_wp2_with fail
          go_roundw
          (case rel => exact ⟨k + 1, by omega, by go_num, HC5.out, take_all HG.out HT.out ⟨by constructor <;> (simp only; omega), by constructor <;> (simp only; omega)⟩⟩)
          (case measure => simp [intOf]; omega)
      · obtain ⟨kk, hkk⟩ : ∃ kk, kk = n 13 := ⟨_, rfl⟩
        obtain rfl : k = kk := by omega
        have HTT := Lib.hid (show ∀ d ∈ dl, (0 ≤ d.1 ∧ d.1 ≤ 6) ∧ -53 ≤ d.2 ∧ d.2 ≤ 53 by have := HT.out; rwa [List.take_of_length_le (by have := HN13.out; omega)] at this)
        have hfk : ¬ ((k : Int) < ((n 13 : Nat) : Int)) := by omega
        have x0 := hcell.out 0 (by omega)
        have x12 := hcell.out 12 (by omega)
        have x17 := hcell.out 17 (by omega)
        have x10 := hcell.out 10 (by omega)
        simp only [sRuleF, sRuleC, List.getElem?_toArray, List.getElem?_cons_succ, List.getElem?_cons_zero, Option.getD_some] at x0 x12 x17 x10
        have HKK := Lib.hid hkk
        clear hkk hkn HT
        go_upto_region 24 with fail
        go_cut [236] from 206 to 235 (fun v wc' => ∃ b, v = .bool b ∧ wc' = wr)
        case first => as_aux_lemma =>
          by_cases f0 : fr = 0
          · subst f0
            go_wp2_with fail
            all_goals
              go_meet
              exact ⟨_, rfl, rfl⟩
          by_cases f2 : fr = 2
          · subst f2
            go_wp2_with fail
            all_goals
              go_meet
              exact ⟨_, rfl, rfl⟩
          have f0' : ((fr : Int) == 0) = false := by rw [beq_eq_false_iff_ne]; omega
          have f2' : ((fr : Int) == 2) = false := by rw [beq_eq_false_iff_ne]; omega
          go_wp2_with fail
          all_goals
            go_meet
            exact ⟨_, rfl, rfl⟩
        case rest => as_aux_lemma =>
        obtain ⟨b24, rfl, rfl⟩ := hcut
        clear x0 x12 x17 x10
        have HBw := Lib.hid (HB3.out.trans (HBk.out.mono HB3.out.size))
        cases b24 with
        | true =>
          go_wp2_with fail
          go_ret
          exact noB HBw.out
        | false =>
        have x0 := hcell.out 0 (by omega)
        have x11 := hcell.out 11 (by omega)
        simp only [sRuleF, sRuleC, List.getElem?_toArray, List.getElem?_cons_succ, List.getElem?_cons_zero, Option.getD_some] at x0 x11
        go_upto_region 26 with fail
        go_cut [255] from 237 to 254 (fun v wc' => ∃ b, v = .bool b ∧ wc' = wc)
        case first => as_aux_lemma =>
          by_cases f1 : fr = 1
          · subst f1
            go_wp2_with fail
            all_goals
              go_meet
              exact ⟨_, rfl, rfl⟩
          by_cases f2 : fr = 2
          · subst f2
            go_wp2_with fail
            all_goals
              go_meet
              exact ⟨_, rfl, rfl⟩
          by_cases f3 : fr = 3
          · subst f3
            go_wp2_with fail
            all_goals
              go_meet
              exact ⟨_, rfl, rfl⟩
          have f1' : ((fr : Int) == 1) = false := by rw [beq_eq_false_iff_ne]; omega
          have f2' : ((fr : Int) == 2) = false := by rw [beq_eq_false_iff_ne]; omega
          have f3' : ((fr : Int) == 3) = false := by rw [beq_eq_false_iff_ne]; omega
          go_wp2_with fail
          all_goals
            go_meet
            exact ⟨_, rfl, rfl⟩
        case rest => as_aux_lemma =>
        obtain ⟨b26, rfl, rfl⟩ := hcut
        clear x0 x11
        cases b26 with
        | true =>
          go_wp2_with fail
          go_ret
          exact noB HBw.out
        | false =>
        have x8 := hcell.out 8 (by omega)
        simp only [sRuleF, sRuleC, List.getElem?_toArray, List.getElem?_cons_succ, List.getElem?_cons_zero, Option.getD_some] at x8
        have HALL := Lib.hid (show CleanOk fr true st iv wk ct hu un l dl from by
          obtain ⟨q1, q2, q3, q4, q5⟩ := HC1.out
          have r14 := (HRO.out 14 (by omega) (by omega) (by omega)).1
          have r15 := (HRO.out 15 (by omega) (by omega) (by omega)).1
          have r16 := (HRO.out 16 (by omega) (by omega) (by omega)).1
          have hpr := HPR.out trivial
          rw [r14, r15, r16] at hpr
          have e := HN13.out
          exact ⟨q1, rfl, q2, q3, q4, q5, fun h => HU1.out trivial h, ⟨by have := F8.out.1; omega, fun x hx => ⟨(F8.out.2 x hx).1, (F8.out.2 x hx).2.1, (F8.out.2 x hx).2.2 trivial⟩⟩, ⟨by have := F9.out.1; omega, fun x hx => ⟨(F9.out.2 x hx).1, (F9.out.2 x hx).2.1, (F9.out.2 x hx).2.2 trivial⟩⟩, ⟨by have := F10.out.1; omega, fun x hx => ⟨(F10.out.2 x hx).1, (F10.out.2 x hx).2.1, (F10.out.2 x hx).2.2 trivial⟩⟩, ⟨by have := F11.out.1; omega, fun x hx => ⟨(F11.out.2 x hx).1, (F11.out.2 x hx).2.1, (F11.out.2 x hx).2.2 trivial⟩⟩, ⟨by have := F12.out.1; omega, fun x hx => ⟨(F12.out.2 x hx).1, (F12.out.2 x hx).2.1, (F12.out.2 x hx).2.2 trivial⟩⟩, ⟨by have := F14.out.1; omega, fun x hx => ⟨(F14.out.2 x hx).1, (F14.out.2 x hx).2.1⟩⟩, ⟨by have := F15.out.1; omega, fun x hx => ⟨(F15.out.2 x hx).1, (F15.out.2 x hx).2.1⟩⟩, ⟨by have := F16.out.1; omega, fun x hx => ⟨(F16.out.2 x hx).1, (F16.out.2 x hx).2.1⟩⟩, ⟨by have := F17.out.1; omega, fun x hx => ⟨(F17.out.2 x hx).1, (F17.out.2 x hx).2.1⟩⟩, ⟨by omega, HTT.out⟩, hpr⟩)
        have HR9 := HRk
        by_cases n8 : n 8 = 0
        · rw [n8] at x8
          clear n8
          go_wp2_with fail
          go_ret
          exact ⟨⟨_, rfl, fun _ => HALL.out⟩, HBw.out⟩
        · have n8' : (((n 8 : Nat) : Int) == 0) = false := by rw [beq_eq_false_iff_ne]; omega
          go_wp2_with (with_reducible refine gd_load 25 ?_; refine wpl_load_rowg (by simp [Region.wanted, yielded]) 25 _ rfl w.heap.size 25 18 18 _ rfl HR9.out (by decide) d2 HU.out.1 HU.out.2 info25s ?_; rw [HRC.out])
          refine (HPA.out _).mono ?_; rintro e w9 ⟨⟨b9, rfl, -⟩, hb9⟩
          have HB9 := Lib.hid (HBw.out.trans (hb9.mono HBw.out.size))
          go_wp2_with fail
          go_ret
          exact ⟨⟨_, rfl, fun _ => HALL.out⟩, HB9.out⟩
end Go.Proofs.YtnlpjncljbaapaaGreatDoor
