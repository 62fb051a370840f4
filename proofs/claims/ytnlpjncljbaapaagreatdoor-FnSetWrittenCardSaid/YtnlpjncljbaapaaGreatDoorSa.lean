/- sortedDates and slices.Equal over rows, walked. -/
import Derived.Test.YtnlpjncljbaapaaGreatDoorTsx
import Derived.Sort.OwnSortedInts
import Derived.Test.YtnlpjncljbaapaaGreatDoorPl
namespace Go.Proofs.YtnlpjncljbaapaaGreatDoor
open Go.RowKit Go.Sort

theorem rowO_of_own {w : World} {base : Nat} {e : TypeId} {q : Option Addr} {n c : Nat} {l : List Int} (h : w.ownsRow base e 1 (.slice q n c) n (intVs l)) : RowO w q n l := by
  have hl : n = l.length := by have := h.1; simp [intVs] at this; exact this.symm
  refine ⟨hl, fun i x hx => ?_⟩
  have hi : i < l.length := (List.getElem?_eq_some_iff.1 hx).1
  rcases h.2 with ⟨_, h0⟩ | ⟨g, cap, cur, hv, hb, hh, hnc, hcm, hcs, ht⟩
  · omega
  · cases hv
    refine ⟨g, 0, rfl, (Array.getElem?_eq_some_iff.1 hh).1, ?_⟩
    have h1 : (cur.toList.take (n * 1))[i]? = (intVs l)[i]? := by rw [ht]
    rw [List.getElem?_take_of_lt (by omega)] at h1
    simp only [World.cell?, hh, Nat.zero_add]
    simp only [Option.isSome_none, Bool.false_eq_true, if_false]
    rw [← Array.getElem?_toList, h1]
    simp [intVs, hx]
/-- The dates in order. -/
def sortL (l : List Int) : List Int := l.mergeSort fun x y => decide (x ≤ y)
theorem sort_own {w : World} {base : Nat} {v : Value} {n : Nat} {l : List Int} (h : w.ownsRow base 2 1 v n (intVs l)) (hn : n ≤ 2147483647) (hbase : base ≤ w.heap.size) :
    Calls Tryz.prog 49 #[v] w fun e w' => e = .returned (.tuple #[]) ∧ w'.ownsRow base 2 1 v n (intVs (sortL l)) ∧ Below base w w' := by
  have hl : n = l.length := by have := h.1; simp [intVs] at this; exact this.symm
  rcases h.2 with ⟨hv, h0⟩ | ⟨g, cap, cur, hv, hb, hh, hnc, hcm, hcs, ht⟩
  · subst hv; subst h0
    have hl0 : l = [] := by rw [← List.length_eq_zero_iff]; omega
    subst hl0
    exact (Tryz.slices_Sort_int_none _ _ w).mono fun e w' ⟨h1, h2⟩ => ⟨h1, by rw [h2, show sortL [] = [] by simp [sortL]]; exact h, by rw [h2]; exact .refl _ _⟩
  · subst hv
    subst hl
    rw [Nat.mul_one] at ht hcs
    refine (Tryz.slices_Sort_int g 0 cap l w (holds_of_blockI hh ht) (Array.getElem?_eq_some_iff.1 hh).1 (by omega)).mono fun e w' ⟨h1, k, os, h2⟩ => ⟨h1, ?_, ?_⟩
    · rw [h2]
      exact ownsRow_sortedI (ss := l) (List.length_mergeSort _) hb hh hnc hcm (by omega)
    · rw [h2]
      exact (Below.refl _ _).grown (grownBy_sortedI _) hbase (fun j hj => by cases hj; exact hb)
set_option maxRecDepth 100000 in
set_option maxHeartbeats 1000000 in
theorem sorted_any (p : Option Addr) (n c : Nat) (l : List Int) (w : World) (hr : RowO w p n l) (hn : n ≤ 2147483647) :
    Calls Tryz.prog 26 #[.slice p n c] w fun e w' => ∃ v', e = .returned v' ∧ w'.ownsRow w.heap.size 2 1 v' n (intVs (sortL l)) ∧ Below w.heap.size w w' := by
  have hC := Lib.hid (clone_any p n c l w hr hn)
  clear hr
  go_enter Tryz.func26, Tryz.ntmps26
  go_wp2_with fail
  refine hC.out.mono ?_; rintro e w1 ⟨v, rfl, hO, hb⟩
  have HB := Lib.hid hb
  have hS := Lib.hid (sort_own hO hn hb.size)
  clear hO hb hC
  go_wp2_with fail
  refine hS.out.mono ?_; rintro e w2 ⟨rfl, hO, hb⟩
  have HO := Lib.hid hO
  have HB2 := Lib.hid (HB.out.trans (hb.mono (Nat.le_refl _)))
  clear hO hb hS
  go_wp2_with fail
  go_ret
  exact ⟨_, rfl, HO.out, HB2.out⟩
theorem equal25_rows (p : Option Addr) (n c : Nat) (q : Option Addr) (m d : Nat) (l : List Int) (w : World) (h1 : RowO w p n l) (h2 : RowO w q m l) (hn : n ≤ 2147483647) :
    Calls Tryz.prog 25 #[.slice p n c, .slice q m d] w fun e w' => e = .returned (.bool true) ∧ Below w.heap.size w w' := by
  have e1 := h1.1
  have e2 := h2.1
  by_cases h0 : l = []
  · subst h0
    subst e1; subst e2
    exact (Tryz.slices_Equal_int_empty_f25 p q c 0 d w (by omega)).mono fun e w' ⟨h, k⟩ => ⟨h, by rw [k]; exact .refl _ _⟩
  · obtain ⟨x, hx⟩ : ∃ x, l[0]? = some x := ⟨_, List.getElem?_eq_getElem (by cases l; exact absurd rfl h0; simp)⟩
    obtain ⟨g, o, rfl, -, -⟩ := h1.2 0 x hx
    obtain ⟨g2, o2, rfl, -, -⟩ := h2.2 0 x hx
    refine (Tryz.slices_Equal_int_f25 g o n c g2 o2 m d l l w (by omega) (by omega) (by omega) (by omega) (fun j hj => ?_) (fun j hj => ?_)).mono fun e w' ⟨h, k, hk⟩ => ⟨?_, ?_⟩
    · obtain ⟨g', o', e, _, hc⟩ := h1.2 j _ (List.getElem?_eq_getElem hj)
      injection e with e; injection e with e1 e2 e3; subst e1; subst e2
      rw [hc]; simp [List.getD, hj]
    · obtain ⟨g', o', e, _, hc⟩ := h2.2 j _ (List.getElem?_eq_getElem hj)
      injection e with e; injection e with e1 e2 e3; subst e1; subst e2
      rw [hc]; simp [List.getD, hj]
    · rw [h, e1, e2]; simp
    · rw [hk]; exact pw_drewN (.refl _ _) _
theorem equal86_rows (p : Option Addr) (n c : Nat) (q : Option Addr) (m d : Nat) (l : List Int) (w : World) (h1 : RowO w p n l) (h2 : RowO w q m l) (hn : n ≤ 2147483647) :
    Calls Tryz.prog 86 #[.slice p n c, .slice q m d] w fun e w' => e = .returned (.bool true) ∧ Below w.heap.size w w' := by
  have e1 := h1.1
  have e2 := h2.1
  by_cases h0 : l = []
  · subst h0
    subst e1; subst e2
    exact (Tryz.slices_Equal_int_empty p q c 0 d w (by omega)).mono fun e w' ⟨h, k⟩ => ⟨h, by rw [k]; exact .refl _ _⟩
  · obtain ⟨x, hx⟩ : ∃ x, l[0]? = some x := ⟨_, List.getElem?_eq_getElem (by cases l; exact absurd rfl h0; simp)⟩
    obtain ⟨g, o, rfl, -, -⟩ := h1.2 0 x hx
    obtain ⟨g2, o2, rfl, -, -⟩ := h2.2 0 x hx
    refine (Tryz.slices_Equal_int g o n c g2 o2 m d l l w (by omega) (by omega) (by omega) (by omega) (fun j hj => ?_) (fun j hj => ?_)).mono fun e w' ⟨h, k, hk⟩ => ⟨?_, ?_⟩
    · obtain ⟨g', o', e, _, hc⟩ := h1.2 j _ (List.getElem?_eq_getElem hj)
      injection e with e; injection e with e1 e2 e3; subst e1; subst e2
      rw [hc]; simp [List.getD, hj]
    · obtain ⟨g', o', e, _, hc⟩ := h2.2 j _ (List.getElem?_eq_getElem hj)
      injection e with e; injection e with e1 e2 e3; subst e1; subst e2
      rw [hc]; simp [List.getD, hj]
    · rw [h, e1, e2]; simp
    · rw [hk]; exact pw_drewN (.refl _ _) _
theorem neDay (a b : Int) (w : World) : Sem.run Tryz.prog (binOp .neq 98 (.agg #[.int .i64 a, .int .i64 b]) (.agg #[.int .i64 a, .int .i64 b])) w = .ok (.bool false) w := by
  have u3 := Tryz.underlying3
  have a3 := Tryz.isAgg3
  have z3 := Tryz.sizeOf3
  have hS : Tryz.prog.underlying 98 = some (.struct (Tryz.prog.fieldsOf 98)) := by kernel_rfl
  have hp : Tryz.prog.stoodInHeld 98 = false := by kernel_rfl
  rw [run_neq_struct, show (10000 : Nat) = 9999 + 1 from rfl, run_equalIn_agg w 9999 98 _ _ hS hp]
  simp only [Program.fieldsOf, Tryz.underlying98]
  go_simp
set_option maxRecDepth 100000 in
set_option maxHeartbeats 1000000 in
theorem equalDays (p : Option Addr) (n c : Nat) (q : Option Addr) (m d : Nat) (l : List (Int × Int)) (w : World) (h1 : RowDO w p n l) (h2 : RowDO w q m l) (hn : n ≤ 2147483647) :
    Calls Tryz.prog 87 #[.slice p n c, .slice q m d] w fun e w' => e = .returned (.bool true) ∧ Below w.heap.size w w' := by
  obtain rfl : m = n := h2.1.trans h1.1.symm
  have HN := Lib.hid h1.1
  have H1 := Lib.hid h1.2
  have H2 := Lib.hid h2.2
  clear h1 h2
  go_enter Tryz.func87, Tryz.ntmps87
  go_wp2_with fail
  go_loopw [5, 13] (fun _ v wr => ∃ k : Nat, k ≤ m ∧ v = .int .i64 k ∧ Below w.heap.size w wr) (fun _ v _ => m - (intOf v).toNat)
  case atStart => exact ⟨0, Nat.zero_le _, rfl, .refl _ _⟩
  case round =>
    obtain ⟨k, hk, rfl, hb⟩ := hrel
    by_cases hkn : k < m
    · have hkl : k < l.length := by have := HN.out; omega
      obtain ⟨kd, nd, hget⟩ : ∃ kd nd, l[k]? = some (kd, nd) := ⟨_, _, List.getElem?_eq_getElem hkl⟩
      obtain ⟨g, o, rfl, hg, hc, hc2⟩ := H1.out k _ _ hget
      obtain ⟨g', o', rfl, hg', hd, hd2⟩ := H2.out k _ _ hget
      have hc := (hb.cell (p := ⟨g, o + k * 2, none⟩) hg).trans hc
      have hc2 := (hb.cell (p := ⟨g, o + k * 2 + 1, none⟩) hg).trans hc2
      have hd := (hb.cell (p := ⟨g', o' + k * 2, none⟩) hg').trans hd
      have hd2 := (hb.cell (p := ⟨g', o' + k * 2 + 1, none⟩) hg').trans hd2
      have hq := fun W : World => neDay kd nd W
      have hgd := fun op x y (W : World) => gdDay op x y kd nd kd nd W
      clear hget
      go_wp2_with fail
      go_quiet (fail)
      go_wp2_with fail
      go_roundw
      case rel => exact ⟨k + 1, by omega, by go_num, pw_drewN hb _⟩
      case measure => simp [intOf]; omega
    · obtain rfl : k = m := by omega
      go_wp2_with fail
      go_ret
      exact ⟨rfl, hb⟩
end Go.Proofs.YtnlpjncljbaapaaGreatDoor

/- spec.Same and textSame on rules that agree, walked. -/
namespace Go.Proofs.YtnlpjncljbaapaaGreatDoor
open Go.RowKit

/-- The rows of two rules that agree. -/
structure SameRows (w : World) (p : Nat → Option Addr) (n : Nat → Nat) (q : Nat → Option Addr) (m : Nat → Nat) (l : Nat → List Int) (dl : List (Int × Int)) : Prop where
  a : ∀ k, 8 ≤ k → k < 18 → k ≠ 13 → RowO w (p k) (n k) (l k)
  b : ∀ k, 8 ≤ k → k < 18 → k ≠ 13 → RowO w (q k) (m k) (l k)
  ad : RowDO w (p 13) (n 13) dl
  bd : RowDO w (q 13) (m 13) dl
theorem SameRows.below {w w' : World} {p : Nat → Option Addr} {n : Nat → Nat} {q : Nat → Option Addr} {m : Nat → Nat} {l : Nat → List Int} {dl : List (Int × Int)} (h : SameRows w p n q m l dl) (hb : Below w.heap.size w w') : SameRows w' p n q m l dl :=
  ⟨fun k a b c => (h.a k a b c).below hb, fun k a b c => (h.b k a b c).below hb, h.ad.below hb, h.bd.below hb⟩
theorem two_rules (a b : Array Value) (fa fb : Nat → Value) (w : World) (ha : ∀ W : World, (W.alloc (.cells a 25)).rowIs W.heap.size 25 18 fa) (hb : ∀ W : World, (W.alloc (.cells b 25)).rowIs W.heap.size 25 18 fb) :
    Below w.heap.size w ((w.alloc (.cells a 25)).alloc (.cells b 25)) ∧ ((w.alloc (.cells a 25)).alloc (.cells b 25)).rowIs w.heap.size 25 18 fa ∧ ((w.alloc (.cells a 25)).alloc (.cells b 25)).rowIs (w.heap.size + 1) 25 18 fb :=
  ⟨((Below.refl _ _).alloc (Nat.le_refl _) _).alloc (by simp) _, below_row (ha w) ((Below.refl _ _).alloc (Nat.le_refl _) _) (ha w).lt, by have := hb (w.alloc (.cells a 25)); rwa [show (w.alloc (.cells a 25)).heap.size = w.heap.size + 1 by simp] at this⟩
set_option maxRecDepth 100000 in
set_option maxHeartbeats 8000000 in
theorem same_any (fr : Nat) (iv wk ct : Int) (hu : Bool) (un : Int) (p : Nat → Option Addr) (n c : Nat → Nat) (q : Nat → Option Addr) (m d : Nat → Nat) (l : Nat → List Int) (dl : List (Int × Int)) (w : World) (h : SameRows w p n q m l dl) (hn : SmallN n) :
    Calls Tryz.prog 48 #[.agg (sRuleC fr false 0 iv wk ct hu un p n c), .agg (sRuleC fr false 0 iv wk ct hu un q m d)] w fun e w' => e = .returned (.bool true) ∧ Below w.heap.size w w' := by
  obtain ⟨hB, hR1, hR2⟩ := two_rules _ _ _ _ w (fun W => sRule_at fr false 0 iv wk ct hu un p n c W) (fun W => sRule_at fr false 0 iv wk ct hu un q m d W)
  have HE := Lib.hid fun (W : World) (hW : Below w.heap.size w W) (k : Nat) (a : 8 ≤ k) (b : k < 18) (e : k ≠ 13) => equal86_rows (p k) (n k) (c k) (q k) (m k) (d k) (l k) W ((h.below hW).a k a b e) ((h.below hW).b k a b e) (hn k a b)
  have HD := Lib.hid fun (W : World) (hW : Below w.heap.size w W) => equalDays (p 13) (n 13) (c 13) (q 13) (m 13) (d 13) dl W (h.below hW).ad (h.below hW).bd (hn 13 (by omega) (by omega))
  clear h hn
  go_enter Tryz.func48, Tryz.ntmps48
  unfold sRuleC at *
  go_upto_region 1 with fail
  generalize hw1 : w.alloc (.cells #[_, _, _, _, _, _, _, _, _, _, _, _, _, _, _, _, _, _] 25) = w1 at *
  generalize hw2 : w1.alloc (.cells #[_, _, _, _, _, _, _, _, _, _, _, _, _, _, _, _, _, _] 25) = w2 at *
  have hx := hR1.lt
  have hy := hR2.lt
  have HX := Lib.hid fun i (hi : i < 18) => hR1.cell (i := i) hi
  have HY := Lib.hid fun i (hi : i < 18) => hR2.cell (i := i) hi
  have HB := Lib.hid hB
  have HI := Lib.hid (Below.refl w2.heap.size w2)
  clear hw1 hw2 hR1 hR2 hB
  have x0 := HX.out 0 (by omega)
  have y0 := HY.out 0 (by omega)
  have x1 := HX.out 1 (by omega)
  have y1 := HY.out 1 (by omega)
  have x2 := HX.out 2 (by omega)
  have y2 := HY.out 2 (by omega)
  have x3 := HX.out 3 (by omega)
  have y3 := HY.out 3 (by omega)
  have x4 := HX.out 4 (by omega)
  have y4 := HY.out 4 (by omega)
  have x5 := HX.out 5 (by omega)
  have y5 := HY.out 5 (by omega)
  have x6 := HX.out 6 (by omega)
  have y6 := HY.out 6 (by omega)
  have x7 := HX.out 7 (by omega)
  have y7 := HY.out 7 (by omega)
  have x8 := HX.out 8 (by omega)
  have y8 := HY.out 8 (by omega)
  simp only [sRuleF, sRuleC, List.getElem?_toArray, List.getElem?_cons_succ, List.getElem?_cons_zero, Option.getD_some] at x0 y0 x1 y1 x2 y2 x3 y3 x4 y4 x5 y5 x6 y6 x7 y7 x8 y8
  cases hu with
  | false =>
    go_wp2_with fail
    refine (HE.out _ (HB.out.trans (HI.out.mono HB.out.size)) 8 (by omega) (by omega) (by omega)).mono ?_; rintro e v0 ⟨rfl, b0⟩
    have H0 := Lib.hid (HI.out.trans (b0.mono HI.out.size))
    clear b0 x0 y0 x1 y1 x2 y2 x3 y3 x4 y4 x5 y5 x6 y6 x7 y7 x8 y8
    have x9 := (H0.out.cell (p := ⟨w.heap.size, 9, none⟩) hx).trans (HX.out 9 (by omega))
    have y9 := (H0.out.cell (p := ⟨w.heap.size + 1, 9, none⟩) hy).trans (HY.out 9 (by omega))
    simp only [sRuleF, sRuleC, List.getElem?_toArray, List.getElem?_cons_succ, List.getElem?_cons_zero, Option.getD_some] at x9 y9
    go_wp2_with fail
    refine (HE.out _ (HB.out.trans (H0.out.mono HB.out.size)) 9 (by omega) (by omega) (by omega)).mono ?_; rintro e v1 ⟨rfl, b1⟩
    have H1 := Lib.hid (H0.out.trans (b1.mono H0.out.size))
    clear b1 x9 y9
    have x10 := (H1.out.cell (p := ⟨w.heap.size, 10, none⟩) hx).trans (HX.out 10 (by omega))
    have y10 := (H1.out.cell (p := ⟨w.heap.size + 1, 10, none⟩) hy).trans (HY.out 10 (by omega))
    simp only [sRuleF, sRuleC, List.getElem?_toArray, List.getElem?_cons_succ, List.getElem?_cons_zero, Option.getD_some] at x10 y10
    go_wp2_with fail
    refine (HE.out _ (HB.out.trans (H1.out.mono HB.out.size)) 10 (by omega) (by omega) (by omega)).mono ?_; rintro e v2 ⟨rfl, b2⟩
    have H2 := Lib.hid (H1.out.trans (b2.mono H1.out.size))
    clear b2 x10 y10
    have x11 := (H2.out.cell (p := ⟨w.heap.size, 11, none⟩) hx).trans (HX.out 11 (by omega))
    have y11 := (H2.out.cell (p := ⟨w.heap.size + 1, 11, none⟩) hy).trans (HY.out 11 (by omega))
    simp only [sRuleF, sRuleC, List.getElem?_toArray, List.getElem?_cons_succ, List.getElem?_cons_zero, Option.getD_some] at x11 y11
    go_wp2_with fail
    refine (HE.out _ (HB.out.trans (H2.out.mono HB.out.size)) 11 (by omega) (by omega) (by omega)).mono ?_; rintro e v3 ⟨rfl, b3⟩
    have H3 := Lib.hid (H2.out.trans (b3.mono H2.out.size))
    clear b3 x11 y11
    have x12 := (H3.out.cell (p := ⟨w.heap.size, 12, none⟩) hx).trans (HX.out 12 (by omega))
    have y12 := (H3.out.cell (p := ⟨w.heap.size + 1, 12, none⟩) hy).trans (HY.out 12 (by omega))
    simp only [sRuleF, sRuleC, List.getElem?_toArray, List.getElem?_cons_succ, List.getElem?_cons_zero, Option.getD_some] at x12 y12
    go_wp2_with fail
    refine (HE.out _ (HB.out.trans (H3.out.mono HB.out.size)) 12 (by omega) (by omega) (by omega)).mono ?_; rintro e v4 ⟨rfl, b4⟩
    have H4 := Lib.hid (H3.out.trans (b4.mono H3.out.size))
    clear b4 x12 y12
    have x13 := (H4.out.cell (p := ⟨w.heap.size, 13, none⟩) hx).trans (HX.out 13 (by omega))
    have y13 := (H4.out.cell (p := ⟨w.heap.size + 1, 13, none⟩) hy).trans (HY.out 13 (by omega))
    simp only [sRuleF, sRuleC, List.getElem?_toArray, List.getElem?_cons_succ, List.getElem?_cons_zero, Option.getD_some] at x13 y13
    go_wp2_with fail
    refine (HD.out _ (HB.out.trans (H4.out.mono HB.out.size))).mono ?_; rintro e v5 ⟨rfl, b5⟩
    have H5 := Lib.hid (H4.out.trans (b5.mono H4.out.size))
    clear b5 x13 y13
    have x14 := (H5.out.cell (p := ⟨w.heap.size, 14, none⟩) hx).trans (HX.out 14 (by omega))
    have y14 := (H5.out.cell (p := ⟨w.heap.size + 1, 14, none⟩) hy).trans (HY.out 14 (by omega))
    simp only [sRuleF, sRuleC, List.getElem?_toArray, List.getElem?_cons_succ, List.getElem?_cons_zero, Option.getD_some] at x14 y14
    go_wp2_with fail
    refine (HE.out _ (HB.out.trans (H5.out.mono HB.out.size)) 14 (by omega) (by omega) (by omega)).mono ?_; rintro e v6 ⟨rfl, b6⟩
    have H6 := Lib.hid (H5.out.trans (b6.mono H5.out.size))
    clear b6 x14 y14
    have x15 := (H6.out.cell (p := ⟨w.heap.size, 15, none⟩) hx).trans (HX.out 15 (by omega))
    have y15 := (H6.out.cell (p := ⟨w.heap.size + 1, 15, none⟩) hy).trans (HY.out 15 (by omega))
    simp only [sRuleF, sRuleC, List.getElem?_toArray, List.getElem?_cons_succ, List.getElem?_cons_zero, Option.getD_some] at x15 y15
    go_wp2_with fail
    refine (HE.out _ (HB.out.trans (H6.out.mono HB.out.size)) 15 (by omega) (by omega) (by omega)).mono ?_; rintro e v7 ⟨rfl, b7⟩
    have H7 := Lib.hid (H6.out.trans (b7.mono H6.out.size))
    clear b7 x15 y15
    have x16 := (H7.out.cell (p := ⟨w.heap.size, 16, none⟩) hx).trans (HX.out 16 (by omega))
    have y16 := (H7.out.cell (p := ⟨w.heap.size + 1, 16, none⟩) hy).trans (HY.out 16 (by omega))
    simp only [sRuleF, sRuleC, List.getElem?_toArray, List.getElem?_cons_succ, List.getElem?_cons_zero, Option.getD_some] at x16 y16
    go_wp2_with fail
    refine (HE.out _ (HB.out.trans (H7.out.mono HB.out.size)) 16 (by omega) (by omega) (by omega)).mono ?_; rintro e v8 ⟨rfl, b8⟩
    have H8 := Lib.hid (H7.out.trans (b8.mono H7.out.size))
    clear b8 x16 y16
    have x17 := (H8.out.cell (p := ⟨w.heap.size, 17, none⟩) hx).trans (HX.out 17 (by omega))
    have y17 := (H8.out.cell (p := ⟨w.heap.size + 1, 17, none⟩) hy).trans (HY.out 17 (by omega))
    simp only [sRuleF, sRuleC, List.getElem?_toArray, List.getElem?_cons_succ, List.getElem?_cons_zero, Option.getD_some] at x17 y17
    go_wp2_with fail
    refine (HE.out _ (HB.out.trans (H8.out.mono HB.out.size)) 17 (by omega) (by omega) (by omega)).mono ?_; rintro e v9 ⟨rfl, b9⟩
    have H9 := Lib.hid (H8.out.trans (b9.mono H8.out.size))
    clear b9 x17 y17
    go_wp2_with fail
    go_ret
    exact ⟨rfl, HB.out.trans (H9.out.mono HB.out.size)⟩
  | true =>
    go_wp2_with fail
    refine (HE.out _ (HB.out.trans (HI.out.mono HB.out.size)) 8 (by omega) (by omega) (by omega)).mono ?_; rintro e v0 ⟨rfl, b0⟩
    have H0 := Lib.hid (HI.out.trans (b0.mono HI.out.size))
    clear b0 x0 y0 x1 y1 x2 y2 x3 y3 x4 y4 x5 y5 x6 y6 x7 y7 x8 y8
    have x9 := (H0.out.cell (p := ⟨w.heap.size, 9, none⟩) hx).trans (HX.out 9 (by omega))
    have y9 := (H0.out.cell (p := ⟨w.heap.size + 1, 9, none⟩) hy).trans (HY.out 9 (by omega))
    simp only [sRuleF, sRuleC, List.getElem?_toArray, List.getElem?_cons_succ, List.getElem?_cons_zero, Option.getD_some] at x9 y9
    go_wp2_with fail
    refine (HE.out _ (HB.out.trans (H0.out.mono HB.out.size)) 9 (by omega) (by omega) (by omega)).mono ?_; rintro e v1 ⟨rfl, b1⟩
    have H1 := Lib.hid (H0.out.trans (b1.mono H0.out.size))
    clear b1 x9 y9
    have x10 := (H1.out.cell (p := ⟨w.heap.size, 10, none⟩) hx).trans (HX.out 10 (by omega))
    have y10 := (H1.out.cell (p := ⟨w.heap.size + 1, 10, none⟩) hy).trans (HY.out 10 (by omega))
    simp only [sRuleF, sRuleC, List.getElem?_toArray, List.getElem?_cons_succ, List.getElem?_cons_zero, Option.getD_some] at x10 y10
    go_wp2_with fail
    refine (HE.out _ (HB.out.trans (H1.out.mono HB.out.size)) 10 (by omega) (by omega) (by omega)).mono ?_; rintro e v2 ⟨rfl, b2⟩
    have H2 := Lib.hid (H1.out.trans (b2.mono H1.out.size))
    clear b2 x10 y10
    have x11 := (H2.out.cell (p := ⟨w.heap.size, 11, none⟩) hx).trans (HX.out 11 (by omega))
    have y11 := (H2.out.cell (p := ⟨w.heap.size + 1, 11, none⟩) hy).trans (HY.out 11 (by omega))
    simp only [sRuleF, sRuleC, List.getElem?_toArray, List.getElem?_cons_succ, List.getElem?_cons_zero, Option.getD_some] at x11 y11
    go_wp2_with fail
    refine (HE.out _ (HB.out.trans (H2.out.mono HB.out.size)) 11 (by omega) (by omega) (by omega)).mono ?_; rintro e v3 ⟨rfl, b3⟩
    have H3 := Lib.hid (H2.out.trans (b3.mono H2.out.size))
    clear b3 x11 y11
    have x12 := (H3.out.cell (p := ⟨w.heap.size, 12, none⟩) hx).trans (HX.out 12 (by omega))
    have y12 := (H3.out.cell (p := ⟨w.heap.size + 1, 12, none⟩) hy).trans (HY.out 12 (by omega))
    simp only [sRuleF, sRuleC, List.getElem?_toArray, List.getElem?_cons_succ, List.getElem?_cons_zero, Option.getD_some] at x12 y12
    go_wp2_with fail
    refine (HE.out _ (HB.out.trans (H3.out.mono HB.out.size)) 12 (by omega) (by omega) (by omega)).mono ?_; rintro e v4 ⟨rfl, b4⟩
    have H4 := Lib.hid (H3.out.trans (b4.mono H3.out.size))
    clear b4 x12 y12
    have x13 := (H4.out.cell (p := ⟨w.heap.size, 13, none⟩) hx).trans (HX.out 13 (by omega))
    have y13 := (H4.out.cell (p := ⟨w.heap.size + 1, 13, none⟩) hy).trans (HY.out 13 (by omega))
    simp only [sRuleF, sRuleC, List.getElem?_toArray, List.getElem?_cons_succ, List.getElem?_cons_zero, Option.getD_some] at x13 y13
    go_wp2_with fail
    refine (HD.out _ (HB.out.trans (H4.out.mono HB.out.size))).mono ?_; rintro e v5 ⟨rfl, b5⟩
    have H5 := Lib.hid (H4.out.trans (b5.mono H4.out.size))
    clear b5 x13 y13
    have x14 := (H5.out.cell (p := ⟨w.heap.size, 14, none⟩) hx).trans (HX.out 14 (by omega))
    have y14 := (H5.out.cell (p := ⟨w.heap.size + 1, 14, none⟩) hy).trans (HY.out 14 (by omega))
    simp only [sRuleF, sRuleC, List.getElem?_toArray, List.getElem?_cons_succ, List.getElem?_cons_zero, Option.getD_some] at x14 y14
    go_wp2_with fail
    refine (HE.out _ (HB.out.trans (H5.out.mono HB.out.size)) 14 (by omega) (by omega) (by omega)).mono ?_; rintro e v6 ⟨rfl, b6⟩
    have H6 := Lib.hid (H5.out.trans (b6.mono H5.out.size))
    clear b6 x14 y14
    have x15 := (H6.out.cell (p := ⟨w.heap.size, 15, none⟩) hx).trans (HX.out 15 (by omega))
    have y15 := (H6.out.cell (p := ⟨w.heap.size + 1, 15, none⟩) hy).trans (HY.out 15 (by omega))
    simp only [sRuleF, sRuleC, List.getElem?_toArray, List.getElem?_cons_succ, List.getElem?_cons_zero, Option.getD_some] at x15 y15
    go_wp2_with fail
    refine (HE.out _ (HB.out.trans (H6.out.mono HB.out.size)) 15 (by omega) (by omega) (by omega)).mono ?_; rintro e v7 ⟨rfl, b7⟩
    have H7 := Lib.hid (H6.out.trans (b7.mono H6.out.size))
    clear b7 x15 y15
    have x16 := (H7.out.cell (p := ⟨w.heap.size, 16, none⟩) hx).trans (HX.out 16 (by omega))
    have y16 := (H7.out.cell (p := ⟨w.heap.size + 1, 16, none⟩) hy).trans (HY.out 16 (by omega))
    simp only [sRuleF, sRuleC, List.getElem?_toArray, List.getElem?_cons_succ, List.getElem?_cons_zero, Option.getD_some] at x16 y16
    go_wp2_with fail
    refine (HE.out _ (HB.out.trans (H7.out.mono HB.out.size)) 16 (by omega) (by omega) (by omega)).mono ?_; rintro e v8 ⟨rfl, b8⟩
    have H8 := Lib.hid (H7.out.trans (b8.mono H7.out.size))
    clear b8 x16 y16
    have x17 := (H8.out.cell (p := ⟨w.heap.size, 17, none⟩) hx).trans (HX.out 17 (by omega))
    have y17 := (H8.out.cell (p := ⟨w.heap.size + 1, 17, none⟩) hy).trans (HY.out 17 (by omega))
    simp only [sRuleF, sRuleC, List.getElem?_toArray, List.getElem?_cons_succ, List.getElem?_cons_zero, Option.getD_some] at x17 y17
    go_wp2_with fail
    refine (HE.out _ (HB.out.trans (H8.out.mono HB.out.size)) 17 (by omega) (by omega) (by omega)).mono ?_; rintro e v9 ⟨rfl, b9⟩
    have H9 := Lib.hid (H8.out.trans (b9.mono H8.out.size))
    clear b9 x17 y17
    go_wp2_with fail
    go_ret
    exact ⟨rfl, HB.out.trans (H9.out.mono HB.out.size)⟩
theorem same_rows (fr : Nat) (iv wk ct : Int) (hu : Bool) (un : Int) (p : Nat → Option Addr) (n c : Nat → Nat) (q : Nat → Option Addr) (m d : Nat → Nat) (l : Nat → List Int) (dl : List (Int × Int)) (F G : Nat → Value) (w : World) (h : SameRows w p n q m l dl) (hn : SmallN n)
    (hF : ∀ i, i < 18 → F i = sRuleF fr false 0 iv wk ct hu un p n c i) (hG : ∀ i, i < 18 → G i = sRuleF fr false 0 iv wk ct hu un q m d i) :
    Calls Tryz.prog 48 #[.agg (rowA 18 F), .agg (rowA 18 G)] w fun e w' => e = .returned (.bool true) ∧ Below w.heap.size w w' := by
  rw [rowA_congr hF, rowA_congr hG, sRuleF_row, sRuleF_row]
  exact same_any fr iv wk ct hu un p n c q m d l dl w h hn
theorem sRuleF_upd (fr : Nat) (i1 i2 wk ct : Int) (hu : Bool) (un : Int) (p : Nat → Option Addr) (n c : Nat → Nat) (i : Nat) (hi : i < 18) : (if i = 3 then Value.int .i64 i2 else sRuleF fr false 0 i1 wk ct hu un p n c i) = sRuleF fr false 0 i2 wk ct hu un p n c i := by
  have h18 : i = 0 ∨ i = 1 ∨ i = 2 ∨ i = 3 ∨ i = 4 ∨ i = 5 ∨ i = 6 ∨ i = 7 ∨ i = 8 ∨ i = 9 ∨ i = 10 ∨ i = 11 ∨ i = 12 ∨ i = 13 ∨ i = 14 ∨ i = 15 ∨ i = 16 ∨ i = 17 := by omega
  rcases h18 with h | h | h | h | h | h | h | h | h | h | h | h | h | h | h | h | h | h <;> subst h <;> rfl
set_option maxRecDepth 100000 in
set_option maxHeartbeats 8000000 in
theorem textSame_any (fr : Nat) (i1 i2 wk ct : Int) (hu : Bool) (un : Int) (p : Nat → Option Addr) (n c : Nat → Nat) (q : Nat → Option Addr) (m d : Nat → Nat) (l : Nat → List Int) (dl : List (Int × Int)) (w : World) (h : SameRows w p n q m l dl) (hn : SmallN n) (hi : max i1 1 = max i2 1) :
    Calls Tryz.prog 24 #[.agg (sRuleC fr false 0 i1 wk ct hu un p n c), .agg (sRuleC fr false 0 i2 wk ct hu un q m d)] w fun e w' => e = .returned (.bool true) ∧ Below w.heap.size w w' := by
  obtain ⟨hB, hR1, hR2⟩ := two_rules _ _ _ _ w (fun W => sRule_at fr false 0 i1 wk ct hu un p n c W) (fun W => sRule_at fr false 0 i2 wk ct hu un q m d W)
  have HE := Lib.hid fun (F G : Nat → Value) (W : World) (hW : Below w.heap.size w W) (iv : Int) => same_rows fr iv wk ct hu un p n c q m d l dl F G W (h.below hW) hn
  have HM := Lib.hid hi
  obtain ⟨d5, hud⟩ := Go.Proofs.YtnlpjncljbaapaaGreatDoor.u25
  have HU := Lib.hid hud
  clear h hn hi hud
  go_enter Tryz.func24, Tryz.ntmps24
  unfold sRuleC at *
  go_upto_region 1 with fail
  generalize hw1 : w.alloc (.cells #[_, _, _, _, _, _, _, _, _, _, _, _, _, _, _, _, _, _] 25) = w1 at *
  generalize hw2 : w1.alloc (.cells #[_, _, _, _, _, _, _, _, _, _, _, _, _, _, _, _, _, _] 25) = w2 at *
  have hx := hR1.lt
  have hy := hR2.lt
  have x3 := hR1.cell (i := 3) (by omega)
  have y3 := hR2.cell (i := 3) (by omega)
  have fx := hR1.frozen 3
  have fy := hR2.frozen 3
  simp only [sRuleF, sRuleC, List.getElem?_toArray, List.getElem?_cons_succ, List.getElem?_cons_zero, Option.getD_some] at x3 y3
  have HR1 := Lib.hid hR1
  have HR2 := Lib.hid hR2
  have HB := Lib.hid hB
  clear hw1 hw2 hR1 hR2 hB
  have HT := Lib.hid (show ∀ W : World, (W = ((w2.setCell ⟨w.heap.size, 3, none⟩ (.int .i64 (max i1 1))).setCell ⟨w.heap.size + 1, 3, none⟩ (.int .i64 (max i2 1))).drew ∨ W = ((w2.setCell ⟨w.heap.size + 1, 3, none⟩ (.int .i64 (max i2 1))).setCell ⟨w.heap.size, 3, none⟩ (.int .i64 (max i1 1))).drew) →
      W.rowIs w.heap.size 25 18 (fun j => if j = 3 then .int .i64 (max i1 1) else sRuleF fr false 0 i1 wk ct hu un p n c j) ∧ W.rowIs (w.heap.size + 1) 25 18 (fun j => if j = 3 then .int .i64 (max i2 1) else sRuleF fr false 0 i2 wk ct hu un q m d j) ∧ Below w.heap.size w W from fun W hW => by
    have o1 : w.heap.size ≠ w.heap.size + 1 := by omega
    have o2 : w.heap.size + 1 ≠ w.heap.size := by omega
    rcases hW with rfl | rfl
    · exact ⟨(HR1.out.set 3 _).setOther (a := ⟨w.heap.size + 1, 3, none⟩) o1 _, (HR2.out.setOther (a := ⟨w.heap.size, 3, none⟩) o2 _).set 3 _, ((HB.out.setCell (by simp) _).setCell (by simp) _).drew⟩
    · exact ⟨(HR1.out.setOther (a := ⟨w.heap.size + 1, 3, none⟩) o1 _).set 3 _, (HR2.out.set 3 _).setOther (a := ⟨w.heap.size, 3, none⟩) o2 _, ((HB.out.setCell (by simp) _).setCell (by simp) _).drew⟩)
  go_region
  all_goals
    generalize hW : World.drew _ = W
    obtain ⟨a1, a2, a3⟩ := HT.out W (by first | exact Or.inl hW.symm | exact Or.inr hW.symm)
    have A1 := Lib.hid a1
    have A2 := Lib.hid a2
    have A3 := Lib.hid a3
    clear hW a1 a2 a3 x3 y3 fx fy
    go_wp2_with (first
      | ((with_reducible refine gd_load 25 ?_); refine wpl_load_row0 rfl 25 _ rfl w.heap.size 25 18 18 _ rfl A1.out (by decide) d5 HU.out.1 HU.out.2 info25s ?_)
      | ((with_reducible refine gd_load 25 ?_); refine wpl_load_row0 rfl 25 _ rfl (w.heap.size + 1) 25 18 18 _ rfl A2.out (by decide) d5 HU.out.1 HU.out.2 info25s ?_))
    refine (HE.out _ _ W A3.out (max i1 1) (sRuleF_upd fr i1 _ wk ct hu un p n c) (fun i hi => by rw [HM.out]; exact sRuleF_upd fr i2 _ wk ct hu un q m d i hi)).mono ?_; rintro e w5 ⟨rfl, hb5⟩
    go_wp2_with fail
    go_ret
    exact ⟨rfl, A3.out.trans (hb5.mono A3.out.size)⟩
end Go.Proofs.YtnlpjncljbaapaaGreatDoor
