/- The specification's small tests, walked: within, dayed, parted, the sizes. -/
import Derived.Test.YtnlpjncljbaapaaGreatDoorLb
import Derived.Laws.StructEq
import Derived.Test.YtnlpjncljbaapaaGreatDoorSt
namespace Go.Proofs.YtnlpjncljbaapaaGreatDoor
open Go.RowKit

/-- A test's answer, and what it says if it is yes. -/
def GivesB0 (P : Prop) (w : World) (e : Ending) (w' : World) : Prop := (∃ b, e = .returned (.bool b) ∧ (b = true → P)) ∧ w = w'
def GivesB (P : Prop) (w : World) (e : Ending) (w' : World) : Prop := (∃ b, e = .returned (.bool b) ∧ (b = true → P)) ∧ Below w.heap.size w w'
theorem GivesB0.b {P : Prop} {w w' : World} {e : Ending} (h : GivesB0 P w e w') : GivesB P w e w' := ⟨h.1, h.2 ▸ .refl _ _⟩
def inSpan (t : Int) : Bool := decide (31536000 ≤ t) && decide (t < 284012524800)
set_option maxHeartbeats 400000 in
theorem sIn_any (t : Int) (w : World) : Calls Tryz.prog 28 #[.int .i64 t] w fun e w' => e = .returned (.bool (inSpan t)) ∧ w = w' := by
  have e2 : Cal.dby 2 = 365 := by unfold Cal.dby; omega
  have e3 : Cal.dby 9001 = 3287182 := by unfold Cal.dby; omega
  by_cases h : 31536000 ≤ t
  · go_enter Tryz.func28, Tryz.ntmps28
    go_wp2_with (go_at_call 29; refine (sBefore_any _ _ (by omega) (by omega)).mono ?_; rintro e w' ⟨rfl, rfl⟩; first | rw [e2] | rw [e3])
    all_goals
      go_ret
      refine ⟨?_, rfl⟩
      simp [inSpan, *]
  · go_enter Tryz.func28, Tryz.ntmps28
    go_wp2_with (go_at_call 29; refine (sBefore_any _ _ (by omega) (by omega)).mono ?_; rintro e w' ⟨rfl, rfl⟩; first | rw [e2] | rw [e3])
    all_goals
      go_ret
      refine ⟨?_, rfl⟩
      simp [inSpan, *]
      try omega

theorem take_all {α : Type} {P : α → Prop} {l : List α} {k : Nat} {x : α} (h : l[k]? = some x) (ha : ∀ y ∈ l.take k, P y) (hx : P x) : ∀ y ∈ l.take (k + 1), P y := by
  rw [List.take_add_one, h]
  intro y hy
  rw [List.mem_append] at hy
  rcases hy with hy | hy
  · exact ha y hy
  · simp at hy; subst hy; exact hx
set_option maxRecDepth 100000 in
set_option maxHeartbeats 1000000 in
theorem within_any (p : Option Addr) (n c : Nat) (l : List Int) (m lo hi : Int) (z : Bool) (w : World) (hr : RowO w p n l) (hn : n ≤ 2147483647) (hnc : n ≤ c) :
    Calls Tryz.prog 50 #[.slice p n c, .int .i64 m, .int .i64 lo, .int .i64 hi, .bool z] w fun e w' => GivesB0 ((l.length : Int) ≤ m ∧ ∀ x ∈ l, lo ≤ x ∧ x ≤ hi ∧ (z = false → x ≠ 0)) w e w' := by
  obtain ⟨hnl, hcells⟩ := hr
  have HN := Lib.hid hnl
  have HC := Lib.hid hcells
  clear hnl hcells
  by_cases hm : m < (n : Int)
  · go_enter Tryz.func50, Tryz.ntmps50
    go_wp2_with fail
    go_ret
    exact ⟨⟨false, rfl, fun h => by cases h⟩, rfl⟩
  · have HM := Lib.hid hm
    go_enter Tryz.func50, Tryz.ntmps50
    go_wp2_with fail
    clear hm
    go_loop [19] (fun v => ∃ k : Nat, k ≤ n ∧ v = .int .i64 k ∧ Hid (∀ x ∈ l.take k, lo ≤ x ∧ x ≤ hi ∧ (z = false → x ≠ 0))) (fun v => n - (intOf v).toNat)
    case atStart => exact ⟨0, Nat.zero_le _, rfl, by show ∀ x ∈ l.take 0, _; simp⟩
    case round =>
      obtain ⟨k, hk, rfl, HT⟩ := hrel
      by_cases hkn : k < n
      · have hkl : k < l.length := by have := HN.out; omega
        obtain ⟨g, o, rfl, hg, hc⟩ := HC.out k _ (List.getElem?_eq_getElem hkl)
        have HK := Lib.hid (List.getElem?_eq_getElem hkl)
        have HCo := Lib.hid (Tryz.slices_Contains_int g o k c l l[k] w (by omega) (by omega) (fun j hj => by
          obtain ⟨g', o', e, _, hc'⟩ := HC.out j _ (List.getElem?_eq_getElem hj)
          injection e with e
          injection e with e1 e2 e3
          subst e1; subst e2
          rw [hc']
          simp [List.getD, hj]))
        generalize l[k] = x at *
        generalize (List.take k l).contains x = cb at *
        by_cases h1 : x < lo
        · go_wp2_with fail
          go_ret
          exact ⟨⟨false, rfl, fun h => by cases h⟩, rfl⟩
        by_cases h2 : hi < x
        · go_wp2_with fail
          go_ret
          exact ⟨⟨false, rfl, fun h => by cases h⟩, rfl⟩
        by_cases h3 : x = 0 ∧ z = false
        · obtain ⟨rfl, rfl⟩ := h3
          go_wp2_with fail
          go_ret
          exact ⟨⟨false, rfl, fun h => by cases h⟩, rfl⟩
        have HD := Lib.hid (show lo ≤ x ∧ x ≤ hi ∧ (z = false → x ≠ 0) from ⟨by omega, by omega, fun hz hx => h3 ⟨hx, hz⟩⟩)
        have hx : (x == 0) = false ∨ (x == 0) = true ∧ z = true := by
          rcases Decidable.em (x = 0) with h | h
          · right; exact ⟨by simp [h], by simpa [h] using h3⟩
          · left; simpa using h
        clear h3
        have hkc : k ≤ c := by omega
        rcases hx with hx | ⟨hx, rfl⟩ <;> cases cb
        all_goals
          go_wp2_with (go_at_call 90; refine HCo.out.mono ?_; rintro e w' ⟨rfl, rfl⟩)
          first
            | (go_ret; exact ⟨⟨false, rfl, fun h => by cases h⟩, rfl⟩)
            | (go_round
               (case rel => exact ⟨k + 1, by omega, by go_num, take_all HK.out HT.out HD.out⟩)
               (case measure => simp [intOf]; omega))
      · obtain rfl : k = n := by omega
        go_wp2_with fail
        go_ret
        have hN := HN.out
        refine ⟨⟨true, rfl, fun _ => ⟨by have := HM.out; omega, ?_⟩⟩, rfl⟩
        have := HT.out
        rwa [hN, List.take_length] at this
theorem eqDay (a b c d : Int) (w : World) : Sem.run Tryz.prog (binOp .eql 98 (.agg #[.int .i64 a, .int .i64 b]) (.agg #[.int .i64 c, .int .i64 d])) w = .ok (.bool (a == c && b == d)) w := by
  have u3 := Tryz.underlying3
  have a3 := Tryz.isAgg3
  have z3 := Tryz.sizeOf3
  have hS : Tryz.prog.underlying 98 = some (.struct (Tryz.prog.fieldsOf 98)) := by kernel_rfl
  have hp : Tryz.prog.stoodInHeld 98 = false := by kernel_rfl
  rw [run_eql_struct, show (10000 : Nat) = 9999 + 1 from rfl, run_equalIn_agg w 9999 98 _ _ hS hp]
  simp only [Program.fieldsOf, Tryz.underlying98]
  go_simp
  by_cases h1 : a = c <;> by_cases h2 : b = d <;> simp [h1, h2]
theorem gdDay (op : BinOp) (x y : Operand) (a b c d : Int) (w : World) : Sem.run Tryz.prog (eqGuard op 98 x y (.agg #[.int .i64 a, .int .i64 b]) (.agg #[.int .i64 c, .int .i64 d])) w = .ok () w := run_eqGuard_agg w op 98 x y _ _ (by kernel_rfl)
set_option maxRecDepth 100000 in
set_option maxHeartbeats 1000000 in
theorem dayIndex_any (p : Option Addr) (n c : Nat) (l : List (Int × Int)) (a b : Int) (w : World) (hr : RowDO w p n l) (hn : n ≤ 2147483647) :
    Calls Tryz.prog 91 #[.slice p n c, .agg #[.int .i64 a, .int .i64 b]] w fun e w' => (∃ i : Int, e = .returned (.int .i64 i)) ∧ Below w.heap.size w w' := by
  obtain ⟨hnl, hcells⟩ := hr
  have HN := Lib.hid hnl
  have HC := Lib.hid hcells
  clear hnl hcells
  have hb0 : (w.alloc (.cells #[.int .i64 a, .int .i64 b] 98)).cell? ⟨w.heap.size, 0, none⟩ = some (.int .i64 a) := by simp
  have hb1 : (w.alloc (.cells #[.int .i64 a, .int .i64 b] 98)).cell? ⟨w.heap.size, 1, none⟩ = some (.int .i64 b) := by simp
  have HB := Lib.hid (below_a1 (w := w) (o := .cells #[.int .i64 a, .int .i64 b] 98))
  go_enter Tryz.func91, Tryz.ntmps91
  go_wp2_with fail
  have hz0 : w.heap.size < (w.alloc (.cells #[.int .i64 a, .int .i64 b] 98)).heap.size := by simp
  generalize w.alloc (.cells #[.int .i64 a, .int .i64 b] 98) = w1 at *
  go_loopw [8] (fun v wr => ∃ k : Nat, k ≤ n ∧ v = .int .i64 k ∧ Below w1.heap.size w1 wr) (fun v _ => n - (intOf v).toNat)
  case atStart => exact ⟨0, Nat.zero_le _, rfl, .refl _ _⟩
  case round =>
    obtain ⟨k, hk, rfl, hb⟩ := hrel
    have hz := HB.out.size
    by_cases hkn : k < n
    · have hkl : k < l.length := by have := HN.out; omega
      obtain ⟨kd, nd, hget⟩ : ∃ kd nd, l[k]? = some (kd, nd) := ⟨_, _, List.getElem?_eq_getElem hkl⟩
      obtain ⟨g, o, rfl, hg, hc, hc2⟩ := HC.out k _ _ hget
      have hc := (hb.cell (p := ⟨g, o + k * 2, none⟩) (by show g < _; omega)).trans ((HB.out.cell (p := ⟨g, o + k * 2, none⟩) hg).trans hc)
      have hc2 := (hb.cell (p := ⟨g, o + k * 2 + 1, none⟩) (by show g < _; omega)).trans ((HB.out.cell (p := ⟨g, o + k * 2 + 1, none⟩) hg).trans hc2)
      have hb0 := (hb.cell (p := ⟨w.heap.size, 0, none⟩) (by show w.heap.size < _; exact (hz0 : w.heap.size < w1.heap.size))).trans hb0
      have hb1 := (hb.cell (p := ⟨w.heap.size, 1, none⟩) (by show w.heap.size < _; exact (hz0 : w.heap.size < w1.heap.size))).trans hb1
      have hq := fun W : World => eqDay a b kd nd W
      have hgd := fun op x y (W : World) => gdDay op x y a b kd nd W
      clear hget
      generalize (a == kd && b == nd) = bb at *
      cases bb
      · go_wp2_with fail
        go_quiet (fail)
        go_wp2_with fail
        go_roundw
        case rel => exact ⟨k + 1, by omega, by go_num, pw_drewN hb _⟩
        case measure => simp [intOf]; omega
      · go_wp2_with fail
        go_quiet (fail)
        go_wp2_with fail
        go_ret
        exact ⟨⟨_, rfl⟩, HB.out.trans ((pw_drewN hb _).mono hz)⟩
    · obtain rfl : k = n := by omega
      go_wp2_with fail
      go_ret
      exact ⟨⟨_, rfl⟩, HB.out.trans (hb.mono hz)⟩
end Go.Proofs.YtnlpjncljbaapaaGreatDoor

/- The specification's tests of a rule, walked: contains, dayed, parted, the sizes. -/
namespace Go.Proofs.YtnlpjncljbaapaaGreatDoor
open Go.RowKit

theorem u25 : ∃ d, Tryz.prog.underlying 25 = some d ∧ d.isRow = true := ⟨_, Tryz.underlying25, rfl⟩
theorem info25s : (Tryz.prog.info? 25).map (·.size) = some 18 := by kernel_rfl
/-- The cells of a rule, by number. -/
def sRuleF (fr : Nat) (hs : Bool) (st iv wk ct : Int) (hu : Bool) (un : Int) (p : Nat → Option Addr) (n c : Nat → Nat) (i : Nat) : Value := (sRuleC fr hs st iv wk ct hu un p n c)[i]?.getD undef
theorem sRuleF_row (fr : Nat) (hs : Bool) (st iv wk ct : Int) (hu : Bool) (un : Int) (p : Nat → Option Addr) (n c : Nat → Nat) : rowA 18 (sRuleF fr hs st iv wk ct hu un p n c) = sRuleC fr hs st iv wk ct hu un p n c := rfl
theorem sRule_at (fr : Nat) (hs : Bool) (st iv wk ct : Int) (hu : Bool) (un : Int) (p : Nat → Option Addr) (n c : Nat → Nat) (w : World) :
    (w.alloc (.cells (sRuleC fr hs st iv wk ct hu un p n c) 25)).rowIs w.heap.size 25 18 (sRuleF fr hs st iv wk ct hu un p n c) :=
  World.rowIs_alloc w (sRuleC fr hs st iv wk ct hu un p n c) 25 _ fun i hi => by
    have h : (sRuleC fr hs st iv wk ct hu un p n c)[i]? = some ((sRuleC fr hs st iv wk ct hu un p n c)[i]) := Array.getElem?_eq_getElem hi
    simp only [sRuleF, h, Option.getD_some]
set_option maxRecDepth 100000 in
set_option maxHeartbeats 1000000 in
theorem dayContains_any (p : Option Addr) (n c : Nat) (l : List (Int × Int)) (a b : Int) (w : World) (hr : RowDO w p n l) (hn : n ≤ 2147483647) :
    Calls Tryz.prog 51 #[.slice p n c, .agg #[.int .i64 a, .int .i64 b]] w fun e w' => GivesB True w e w' := by
  have HI := Lib.hid fun (W : World) (hR : RowDO W p n l) => dayIndex_any p n c l a b W hR hn
  have HB := Lib.hid (below_a1 (w := w) (o := .cells #[.int .i64 a, .int .i64 b] 98))
  have HR := Lib.hid (hr.below HB.out)
  clear hr
  go_enter Tryz.func51, Tryz.ntmps51
  go_wp2_with fail
  refine (HI.out _ HR.out).mono ?_; rintro e w1 ⟨⟨i, rfl⟩, hb⟩
  go_wp2_with fail
  go_ret
  exact ⟨⟨_, rfl, fun _ => trivial⟩, HB.out.trans (hb.mono HB.out.size)⟩
set_option maxRecDepth 100000 in
set_option maxHeartbeats 1000000 in
theorem dayed_any (fr : Nat) (hs : Bool) (st iv wk ct : Int) (hu : Bool) (un : Int) (p : Nat → Option Addr) (n c : Nat → Nat) (w : World) (hn : ∀ k, 8 ≤ k → k < 18 → n k ≤ 2147483647) :
    Calls Tryz.prog 92 #[.agg (sRuleC fr hs st iv wk ct hu un p n c)] w fun e w' => GivesB True w e w' := by
  have h10 := hn 10 (by omega) (by omega)
  have h11 := hn 11 (by omega) (by omega)
  have h12 := hn 12 (by omega) (by omega)
  have h13 := hn 13 (by omega) (by omega)
  have h17 := hn 17 (by omega) (by omega)
  have hbox : ∀ i, (w.alloc (.cells (sRuleC fr hs st iv wk ct hu un p n c) 25)).cell? ⟨w.heap.size, i, none⟩ = (sRuleC fr hs st iv wk ct hu un p n c)[i]? := fun i => cell_new rfl
  have HB := Lib.hid (below_a1 (w := w) (o := .cells (sRuleC fr hs st iv wk ct hu un p n c) 25))
  have x10 := hbox 10
  have x11 := hbox 11
  have x12 := hbox 12
  have x13 := hbox 13
  have x17 := hbox 17
  clear hbox hn
  unfold sRuleC at *
  go_enter Tryz.func92, Tryz.ntmps92
  go_wp2_with fail
  go_ret
  exact ⟨⟨_, rfl, fun _ => trivial⟩, HB.out⟩
set_option maxRecDepth 100000 in
set_option maxHeartbeats 1000000 in
theorem parted_any (fr : Nat) (hs : Bool) (st iv wk ct : Int) (hu : Bool) (un : Int) (p : Nat → Option Addr) (n c : Nat → Nat) (w : World) (hn : ∀ k, 8 ≤ k → k < 18 → n k ≤ 2147483647) :
    Calls Tryz.prog 52 #[.agg (sRuleC fr hs st iv wk ct hu un p n c)] w fun e w' => GivesB True w e w' := by
  have HD := Lib.hid fun W : World => dayed_any fr hs st iv wk ct hu un p n c W hn
  have h9 := hn 9 (by omega) (by omega)
  have h14 := hn 14 (by omega) (by omega)
  have h15 := hn 15 (by omega) (by omega)
  have h16 := hn 16 (by omega) (by omega)
  have HB := Lib.hid (below_a1 (w := w) (o := .cells (sRuleC fr hs st iv wk ct hu un p n c) 25))
  have HR := Lib.hid (sRule_at fr hs st iv wk ct hu un p n c w)
  have HRC := Lib.hid (sRuleF_row fr hs st iv wk ct hu un p n c)
  obtain ⟨d2, hud⟩ := Go.Proofs.YtnlpjncljbaapaaGreatDoor.u25
  have HU := Lib.hid hud
  clear hn hud
  go_enter Tryz.func52, Tryz.ntmps52
  unfold sRuleC at *
  go_upto_region 1 with fail
  generalize hw1 : w.alloc (.cells #[_, _, _, _, _, _, _, _, _, _, _, _, _, _, _, _, _, _] 25) = w1 at *
  go_wp2_with (with_reducible refine gd_load 25 ?_; refine wpl_load_row0 rfl 25 _ rfl w.heap.size 25 18 18 _ rfl HR.out (by decide) d2 HU.out.1 HU.out.2 info25s ?_; rw [HRC.out])
  refine (HD.out _).mono ?_; rintro e w2 ⟨⟨b, rfl, -⟩, hb⟩
  have HB2 := Lib.hid (HB.out.trans (hb.mono HB.out.size))
  have hR2 := below_row HR.out hb HR.out.lt
  have x9 := hR2.cell (i := 9) (by decide)
  have x14 := hR2.cell (i := 14) (by decide)
  have x15 := hR2.cell (i := 15) (by decide)
  have x16 := hR2.cell (i := 16) (by decide)
  simp only [sRuleF, sRuleC, List.getElem?_toArray, List.getElem?_cons_succ, List.getElem?_cons_zero, Option.getD_some] at x9 x14 x15 x16
  clear hb hR2 HR HRC HB HD
  cases b <;> go_wp2_with fail
  all_goals
    go_ret
    exact ⟨⟨_, rfl, fun _ => trivial⟩, HB2.out⟩
end Go.Proofs.YtnlpjncljbaapaaGreatDoor
