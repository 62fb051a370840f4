/- laws.toTextSet, walked. -/
import Derived.Test.YtnlpjncljbaapaaGreatDoorWo
namespace Go.Proofs.YtnlpjncljbaapaaGreatDoor
open Go.RowKit

theorem own_ne_row {w : World} {base n N t m : Nat} {e : TypeId} {size : Nat} {v : Value} {xs : List Value} {f : Nat → Value} (h : w.ownsRow base e size v n xs) (hz : w.rowIs N t m f) (hne : e ≠ t) : v.ownBlock ≠ some N := fun e1 => by
  obtain ⟨c, hc, -⟩ := hz
  rcases h.2 with ⟨rfl, -⟩ | ⟨g, cap, cur, rfl, hb, hh, -⟩
  · cases e1
  · cases e1
    rw [hc] at hh
    injection hh with hh
    injection hh with _ h2 _
    exact hne h2.symm
theorem told_upd2 (t : Int) (b : Bool) (f F : Nat → Value) (u1 u2 : Value) (j : Nat) (hj : j < 22) : updR (toldF t b f u1 u2) 2 (rowA 18 F) j = toldF t b F u1 u2 j := by
  unfold updR
  rw [rowA_size]
  by_cases h : 2 ≤ j ∧ j < 2 + 18
  · rw [if_pos h, rowA_get (by omega)]
    unfold toldF
    rw [if_neg (by omega), if_neg (by omega), if_pos (by omega)]
    rfl
  · rw [if_neg h]
    have hj : j = 0 ∨ j = 1 ∨ j = 20 ∨ j = 21 := by omega
    rcases hj with h | h | h | h <;> subst h <;> rfl
theorem of_new38 {B : Nat} {w1 X : World} (_ : Below B w1 (X.alloc (.cells zSet 38))) : (X.alloc (.cells zSet 38)).rowIs X.heap.size 38 22 zSetF := zSet_at X
theorem of_new38d {B : Nat} {w1 X : World} (_ : Below B w1 (X.alloc (.cells zSet 38)).drew) : (X.alloc (.cells zSet 38)).drew.rowIs X.heap.size 38 22 zSetF := zSet_at X
theorem stored38 {B N : Nat} {w1 W : World} {vs : List Value} {f : Nat → Value} (_ : Below B w1 (W.setCells N 0 vs)) (hz : W.rowIs N 38 22 f) : (W.setCells N 0 vs).rowIs N 38 22 (fun j => if 0 ≤ j ∧ j < 0 + vs.length then vs[j - 0]?.getD undef else f j) := setCells_row vs 0 W f hz
theorem keep38 {B base n N : Nat} {w1 W : World} {v : Value} {xs vs : List Value} {f : Nat → Value} (_ : Below B w1 (W.setCells N 0 vs)) (hz : W.rowIs N 38 22 f) (h : W.ownsRow base 2 1 v n xs) : (W.setCells N 0 vs).ownsRow base 2 1 v n xs := own_ne h (setCells_grown vs 0 _ (World.grownBy.refl _ _)) (own_ne_row h hz (by decide))
theorem sSet_at28 (t : Int) (hr : Bool) (fr : Nat) (hs : Bool) (st iv wk ct : Int) (hu : Bool) (un : Int) (p : Nat → Option Addr) (n c : Nat → Nat) (pr : Option Addr) (nr cr : Nat) (px : Option Addr) (nx cx : Nat) (w : World) :
    (w.alloc (.cells (sSetC t hr fr hs st iv wk ct hu un p n c pr nr cr px nx cx) 28)).rowIs w.heap.size 28 22 (sSetF t hr fr hs st iv wk ct hu un p n c pr nr cr px nx cx) :=
  World.rowIs_alloc w (sSetC t hr fr hs st iv wk ct hu un p n c pr nr cr px nx cx) 28 _ fun i hi => by
    have h : (sSetC t hr fr hs st iv wk ct hu un p n c pr nr cr px nx cx)[i]? = some ((sSetC t hr fr hs st iv wk ct hu un p n c pr nr cr px nx cx)[i]) := Array.getElem?_eq_getElem hi
    simp only [sSetF, h, Option.getD_some]
/-- The set that toTextSet gives. -/
def GivesTo (t : Int) (hr : Bool) (o : Opt) (nr nx : Nat) (rds exs : List Int) (w : World) (e : Ending) (w' : World) : Prop :=
  ∃ f sl q1 c1 q2 c2, e = .returned (.agg (rowA 22 (toldF t hr f (.slice q1 nr c1) (.slice q2 nx c2)))) ∧ (OptGood o → RuleIn w' t hr f sl (if hr then some o else none)) ∧ RowO w' q1 nr rds ∧ RowO w' q2 nx exs ∧ Below w.heap.size w w'
set_option maxRecDepth 100000 in
set_option maxHeartbeats 40000000 in
theorem toTextSet_any (t : Int) (hr : Bool) (fr : Nat) (iv wk ct : Int) (hu : Bool) (un : Int) (p : Nat → Option Addr) (n c : Nat → Nat) (pr : Option Addr) (nr cr : Nat) (px : Option Addr) (nx cx : Nat) (l : Nat → List Int) (dl : List (Int × Int)) (rds exs : List Int) (w : World)
    (hin : hr = true → SetIn w p n c pr nr cr px nx cx l dl rds exs) (hrr : RowO w pr nr rds) (hrx : RowO w px nx exs) (ht : t ≠ 0) (hun : hr = true → hu = !(decide (un = 0))) (hz : hr = false → sSetC t hr fr false 0 iv wk ct hu un p n c pr nr cr px nx cx = sSetC t false 0 false 0 0 0 0 false 0 (fun _ => none) (fun _ => 0) (fun _ => 0) pr nr cr px nx cx)
    (hn : hr = true → ∀ k, 8 ≤ k → k < 18 → n k ≤ 1000) (hnr : nr ≤ 1000) (hnx : nx ≤ 1000) :
    Calls Tryz.prog 21 #[.agg (sSetC t hr fr false 0 iv wk ct hu un p n c pr nr cr px nx cx)] w fun e w' => GivesTo t hr (rawOf fr un ct iv l dl wk) nr nx rds exs w e w' := by
  have HF := Lib.hid ((sSet_at28 t hr fr false 0 iv wk ct hu un p n c pr nr cr px nx cx w).alloc (.cells zSet 38))
  have HR0 := Lib.hid (show ((w.alloc (.cells (sSetC t hr fr false 0 iv wk ct hu un p n c pr nr cr px nx cx) 28)).alloc (.cells zSet 38)).rowIs (w.heap.size + 1) 38 22 zSetF from by have := zSet_at (w.alloc (.cells (sSetC t hr fr false 0 iv wk ct hu un p n c pr nr cr px nx cx) 28)); simpa using this)
  have HB0 := Lib.hid ((below_a1 (w := w) (o := .cells (sSetC t hr fr false 0 iv wk ct hu un p n c pr nr cr px nx cx) 28)).alloc (by simp) (.cells zSet 38))
  have HZ := Lib.hid (show ((w.alloc (.cells (sSetC t hr fr false 0 iv wk ct hu un p n c pr nr cr px nx cx) 28)).alloc (.cells zSet 38)).heap.size = w.heap.size + 2 by simp)
  have HI0 := Lib.hid (fun e => (hin e).below HB0.out)
  have HRR := Lib.hid (hrr.below HB0.out)
  have HRX := Lib.hid (hrx.below HB0.out)
  have HT := Lib.hid (And.intro ht (And.intro hun hz))
  have HN := Lib.hid (And.intro hn (And.intro hnr hnx))
  obtain ⟨d8, hd8⟩ := u38
  obtain ⟨d6, hd6⟩ := u25
  have HU := Lib.hid (And.intro hd8 hd6)
  clear hin hrr hrx ht hun hz hn hnr hnx hd8 hd6
  go_enter Tryz.func21, Tryz.ntmps21
  generalize hA : sSetC t hr fr false 0 iv wk ct hu un p n c pr nr cr px nx cx = A at *
  unfold zSet at *
  go_upto_region 1 with fail
  generalize hw1 : (w.alloc (.cells A 28)).alloc (.cells #[_, _, _, _, _, _, _, _, _, _, _, _, _, _, _, _, _, _, _, _, _, _] 38) = w1 at *
  clear hw1
  generalize hG : w.heap.size = G at *
  have hG1 : G < w1.heap.size := by have := HZ.out; omega
  have HX := Lib.hid fun (k : Nat) (hk : k < 22) (W : World) (hW : Below w1.heap.size w1 W) => (hW.cell (p := ⟨G, k, none⟩) hG1).trans (HF.out.cell hk)
  have HC1 := Lib.hid fun (W : World) (hW : Below w1.heap.size w1 W) => (clone_any pr nr cr rds W (HRR.out.below hW) (Nat.le_trans HN.out.2.1 (by decide))).mono (fun e w' (h1 : ∃ v', e = .returned v' ∧ w'.ownsRow W.heap.size 2 1 v' nr (intVs rds) ∧ Below W.heap.size W w') => show ∃ q c, e = .returned (.slice q nr c) ∧ w'.ownsRow w1.heap.size 2 1 (.slice q nr c) nr (intVs rds) ∧ Below W.heap.size W w' from by
    obtain ⟨v', rfl, h2, h3⟩ := h1
    obtain ⟨q, c, rfl, -⟩ := own_slice h2
    exact ⟨q, c, rfl, Joins.ownsRow_le h2 hW.size, h3⟩)
  have HC2 := Lib.hid fun (W : World) (hW : Below w1.heap.size w1 W) => (clone_any px nx cx exs W (HRX.out.below hW) (Nat.le_trans HN.out.2.2 (by decide))).mono (fun e w' (h1 : ∃ v', e = .returned v' ∧ w'.ownsRow W.heap.size 2 1 v' nx (intVs exs) ∧ Below W.heap.size W w') => show ∃ q c, e = .returned (.slice q nx c) ∧ w'.ownsRow w1.heap.size 2 1 (.slice q nx c) nx (intVs exs) ∧ Below W.heap.size W w' from by
    obtain ⟨v', rfl, h2, h3⟩ := h1
    obtain ⟨q, c, rfl, -⟩ := own_slice h2
    exact ⟨q, c, rfl, Joins.ownsRow_le h2 hW.size, h3⟩)
  have HK := Lib.hid (show ∀ W : World, Below w1.heap.size w1 W → (fun w' : World => Below w1.heap.size w1 w' ∧ w'.cell? ⟨G, 0, none⟩ = some (.int .i64 t) ∧ w'.cell? ⟨G, 1, none⟩ = some (.bool hr) ∧ w'.cell? ⟨G, 20, none⟩ = some (.slice pr nr cr) ∧ w'.cell? ⟨G, 21, none⟩ = some (.slice px nx cx)) W from fun W hW => ⟨hW, HX.out 0 (by omega) W hW, HX.out 1 (by omega) W hW, HX.out 20 (by omega) W hW, HX.out 21 (by omega) W hW⟩)
  go_cut [3] from 5 to 27 (fun v3 wc => ∃ N q1 c1 q2 c2, v3 = .pointer (some ⟨N, 0, none⟩) ∧ w1.heap.size ≤ N ∧ wc.rowIs N 38 22 (toldF t hr zRuleF (.slice q1 nr c1) (.slice q2 nx c2)) ∧ wc.ownsRow w1.heap.size 2 1 (.slice q1 nr c1) nr (intVs rds) ∧ wc.ownsRow w1.heap.size 2 1 (.slice q2 nx c2) nx (intVs exs) ∧ Below w1.heap.size w1 wc)
  case rest =>
    obtain ⟨N, q1, c1, q2, c2, rfl, hN, hRN, ho1, ho2, hB⟩ := hcut
    have HRN := Lib.hid hRN
    have HB := Lib.hid hB
    have HO1 := Lib.hid ho1
    have HO2 := Lib.hid ho2
    have x1 : wc.cell? ⟨G, 1, none⟩ = some (.bool hr) := HX.out 1 (by omega) wc hB
    have hNz : N < wc.heap.size := hRN.lt
    have hGc : G + 1 < wc.heap.size := by have := hB.size; have := HZ.out; omega
    clear hRN hB ho1 ho2 HC1 HC2 HK
    cases hr with
    | false =>
      have HRt := Lib.hid (below_row HR0.out HB.out HR0.out.lt)
      go_wp2_with (first | ((with_reducible refine gd_load 38 ?_); refine wpl_load_row0 rfl 38 _ rfl N 38 22 22 _ rfl HRN.out (by omega) d8 HU.out.1.1 HU.out.1.2 info38s ?_) | ((with_reducible refine gd_store 38 ?_); refine wpl_store_row rfl 38 _ _ rfl (G + 1) 0 38 22 _ (rowA 22 (toldF t false zRuleF (.slice q1 nr c1) (.slice q2 nx c2))) rfl rfl HRt.out (by simp [rowA_size]) (by rw [info38s, rowA_size]) (rowA_all fun i hi => toldF_one t false _ zRuleF_one rfl rfl i hi) ?_; intro w8 hR8 hg8))
      refine bodyPost_ret (results_row rfl _ (G + 1) 38 22 _ (by rfl) hR8 d8 HU.out.1.1 HU.out.1.2 info38s) rfl ?_
      rw [updR_all]
      have hb := HB.out.size
      have hz := HZ.out
      exact ⟨zRuleF, fun _ => undef, q1, c1, q2, c2, rfl, fun _ => ⟨rfl, rfl⟩, rowO_of_own (own_grown HO1.out hg8 (by omega)), rowO_of_own (own_grown HO2.out hg8 (by omega)), by rw [hG]; exact (HB0.out.trans (HB.out.mono (by omega))).grown hg8 (by have := HB.out.size; omega) (fun j hj => by cases hj; omega)⟩
    | true =>
      have hF2 := below_row HF.out HB.out HF.out.lt
      have HF2 := Lib.hid hF2
      have hM : ∃ M, M = wc.heap.size := ⟨_, rfl⟩
      have HR25 := Lib.hid (sRule_at fr false 0 iv wk ct hu un p n c wc)
      have HB25 := Lib.hid (HB.out.alloc HB.out.size (.cells (sRuleC fr false 0 iv wk ct hu un p n c) 25))
      have HRN5 := Lib.hid (HRN.out.alloc (.cells (sRuleC fr false 0 iv wk ct hu un p n c) 25))
      have HO15 := Lib.hid (HO1.out.alloc (.cells (sRuleC fr false 0 iv wk ct hu un p n c) 25))
      have HO25 := Lib.hid (HO2.out.alloc (.cells (sRuleC fr false 0 iv wk ct hu un p n c) 25))
      have x0 : (wc.alloc (.cells (sRuleC fr false 0 iv wk ct hu un p n c) 25)).cell? ⟨G, 0, none⟩ = some (.int .i64 t) := (hF2.alloc (.cells (sRuleC fr false 0 iv wk ct hu un p n c) 25)).cell (i := 0) (by decide)
      have e18 : rowA 18 (fun i => sSetF t true fr false 0 iv wk ct hu un p n c pr nr cr px nx cx (2 + i)) = sRuleC fr false 0 iv wk ct hu un p n c := sSetF_rule ..
      have HE := Lib.hid e18
      have hcz : (wc.alloc (.cells (sRuleC fr false 0 iv wk ct hu un p n c) 25)).heap.size = wc.heap.size + 1 := by simp
      have HCZ := Lib.hid hcz
      clear hF2 hM e18 hcz HB
      have hHS := sRuleF_row fr false 0 iv wk ct hu un p n c
      generalize hRC : sRuleC fr false 0 iv wk ct hu un p n c = RC at *
      have hone : RC.all (·.oneCell') = true := by rw [← hRC]; exact sRuleC_one ..
      have hsz : RC.size = 18 := by rw [← hRC]; rfl
      have HRC := Lib.hid (And.intro hone hsz)
      clear hRC hHS hone hsz
      go_upto_region 4 with (first | (with_reducible refine gd_load 25 ?_; refine wpl_load_row rfl 25 _ rfl G 2 28 22 18 _ rfl HF2.out (by decide) d6 HU.out.2.1 HU.out.2.2 info25s ?_; rw [HE.out]) | ((with_reducible refine gd_store 25 ?_); refine wpl_store_last rfl 25 _ _ rfl _ RC rfl rfl (by rw [info25s, HRC.out.2]) (by rw [HRC.out.2]; rfl) HRC.out.1 ?_))
      try simp only [Act.put]
      generalize wc.alloc (.cells RC 25) = w3 at *
      generalize hM : wc.heap.size = M at *
      have hM3 : M < w3.heap.size := by have := HCZ.out; omega
      obtain ⟨v1, y1⟩ : ∃ v, w3.cell? ⟨M, 1, none⟩ = some v := ⟨_, HR25.out.cell (by decide)⟩
      obtain ⟨v2, y2⟩ : ∃ v, w3.cell? ⟨M, 2, none⟩ = some v := ⟨_, HR25.out.cell (by decide)⟩
      have f1 := HR25.out.frozen 1
      have f2 := HR25.out.frozen 2
      have HGM := Lib.hid (show G ≠ M by omega)
      go_cut [] from 20 to 27 (fun wd => wd.rowIs M 25 18 (sRuleF fr true t iv wk ct hu un p n c) ∧ Ch (fun i => i = M) w3 wd)
      case first =>
        go_region
        go_wp2_with fail
        go_meet
        refine ⟨((HR25.out.set 1 (.bool true)).set 2 (.int .i64 t)).drew.congr fun j hj => ?_, ((Ch.set (X := fun i => i = M) (w := w3) rfl).trans (.set rfl)).drew⟩
        have h18 : j = 0 ∨ j = 1 ∨ j = 2 ∨ j = 3 ∨ j = 4 ∨ j = 5 ∨ j = 6 ∨ j = 7 ∨ j = 8 ∨ j = 9 ∨ j = 10 ∨ j = 11 ∨ j = 12 ∨ j = 13 ∨ j = 14 ∨ j = 15 ∨ j = 16 ∨ j = 17 := by omega
        rcases h18 with h | h | h | h | h | h | h | h | h | h | h | h | h | h | h | h | h | h <;> subst h <;> rfl
      obtain ⟨hR4, hC4⟩ := hcut
      have HR4 := Lib.hid hR4
      have hsw := hC4.size
      have HB4 := Lib.hid (hC4.below HB25.out (fun i hi => by have := HB25.out.size; omega) HB25.out.size)
      have HRN4 := Lib.hid (HRN5.out.of_block (hC4.block N (by omega) (by omega)))
      have HO14 := Lib.hid (own_ch HO15.out hC4 (fun g hg e => own_ne_row HO15.out HR25.out (by decide) (e ▸ hg)))
      have HO24 := Lib.hid (own_ch HO25.out hC4 (fun g hg e => own_ne_row HO25.out HR25.out (by decide) (e ▸ hg)))
      clear hR4 hC4 y1 y2 f1 f2 x0 HR25 HB25 HRN5 HO15 HO25
      have e18 : rowA 18 (sRuleF fr true t iv wk ct hu un p n c) = sRuleC fr true t iv wk ct hu un p n c := sRuleF_row ..
      have HE8 := Lib.hid e18
      clear e18
      have hIN := (HI0.out rfl).below HB4.out
      have H43 := Lib.hid (textRule_any fr t iv wk ct hu un p n c l dl wc hIN.ro hIN.rd HT.out.1 (HT.out.2.1 rfl) (fun k a b _ => HN.out.1 rfl k a b) (HN.out.1 rfl 13 (by decide) (by decide)))
      clear hIN
      go_wp2_with (with_reducible refine gd_load 25 ?_; refine wpl_load_row0 rfl 25 _ rfl M 25 18 18 _ rfl HR4.out (by decide) d6 HU.out.2.1 HU.out.2.2 info25s ?_; rw [HE8.out])
      refine H43.out.mono ?_; rintro e w5 ⟨sl, v, B5, rfl, hI5, hOX, hB5, ho5, hb5⟩
      obtain ⟨q5, c5, rfl, -⟩ := own_slice ho5
      have HI5 := Lib.hid hI5
      have HOX := Lib.hid hOX
      have HO5 := Lib.hid ho5
      have HB5 := Lib.hid (HB4.out.trans (hb5.mono HB4.out.size))
      have HRN5 := Lib.hid (below_row HRN4.out hb5 HRN4.out.lt)
      have HO15 := Lib.hid (own_below HO14.out hb5)
      have HO25 := Lib.hid (own_below HO24.out hb5)
      have HT5 := Lib.hid (below_row HR0.out HB5.out HR0.out.lt)
      have hNc : N < wc.heap.size := HRN4.out.lt
      have hz5 := hb5.size
      have hNB : N < B5 := by omega
      have hGB : G + 1 < B5 := by omega
      have HNW := Lib.hid (And.intro hNc (And.intro hNB (And.intro hGB hz5)))
      clear hI5 hOX ho5 hb5 hNc hNB hGB hB5
      go_wp2_with (first
        | ((with_reducible refine gd_store 36 ?_); refine wpl_store_row rfl 36 _ _ rfl N 2 38 22 _ (rowA 18 (ruleF (rawOf fr un ct iv l dl wk) t sl (.slice q5 dl.length c5))) rfl rfl HRN5.out (by simp [rowA_size]) (by rw [info36s, rowA_size]) (rowA_all fun i hi => ruleF_one _ _ _ _ rfl i) ?_; intro w6 hR6 hg6; have HR6 := Lib.hid (hR6.congr (fun j hj => told_upd2 t true zRuleF (ruleF (rawOf fr un ct iv l dl wk) t sl (.slice q5 dl.length c5)) (.slice q1 nr c1) (.slice q2 nx c2) j hj)); have HG6 := Lib.hid hg6; have HT6 := Lib.hid (HT5.out.of_block (hg6.block (G + 1) HT5.out.lt (by have := HZ.out; intro e; injection e with e; omega))); clear hR6 hg6)
        | ((with_reducible refine gd_load 38 ?_); refine wpl_load_row0 rfl 38 _ rfl N 38 22 22 _ rfl HR6.out (by omega) d8 HU.out.1.1 HU.out.1.2 info38s ?_)
        | ((with_reducible refine gd_store 38 ?_); refine wpl_store_row rfl 38 _ _ rfl (G + 1) 0 38 22 _ (rowA 22 (toldF t true (ruleF (rawOf fr un ct iv l dl wk) t sl (.slice q5 dl.length c5)) (.slice q1 nr c1) (.slice q2 nx c2))) rfl rfl HT6.out (by simp [rowA_size]) (by rw [info38s, rowA_size]) (rowA_all fun i hi => toldF_one t true _ (fun j _ => ruleF_one _ _ _ _ rfl j) rfl rfl i hi) ?_; intro w7 hR7 hg7))
      refine bodyPost_ret (results_row rfl _ (G + 1) 38 22 _ (by rfl) hR7 d8 HU.out.1.1 HU.out.1.2 info38s) rfl ?_
      rw [updR_all]
      have hz := HZ.out
      have hw := HNW.out
      have hF : ∀ {base m : Nat} {v : Value} {xs : List Value}, w5.ownsRow base 2 1 v m xs → w1.heap.size ≤ base → w7.ownsRow base 2 1 v m xs := fun h hb => own_grown (own_ne h HG6.out (own_ne_row h HRN5.out (by decide))) hg7 (by omega)
      have hI7 := (HI5.out.chX (X := fun i => i = N) (Ch.of_grown HG6.out (fun g e => by injection e with e; exact e.symm)) (fun i hi => hi ▸ HOX.out N hw.1)).chX (X := fun i => i = G + 1) (Ch.of_grown hg7 (fun g e => by injection e with e; exact e.symm)) (fun i hi => hi ▸ HOX.out (G + 1) (by omega))
      refine ⟨_, sl, q1, c1, q2, c2, rfl, fun hg => ?_, rowO_of_own (hF HO15.out (Nat.le_refl _)), rowO_of_own (hF HO25.out (Nat.le_refl _)), ?_⟩
      · exact ⟨rfl, .slice q5 dl.length c5, B5, rfl, hI7, own_grown (own_grown HO5.out HG6.out hw.2.1) hg7 hw.2.2.1, hg⟩
      · rw [hG]
        exact ((HB0.out.trans (HB5.out.mono (by omega))).grown HG6.out (by have := HB5.out.size; omega) (fun j hj => by cases hj; omega)).grown hg7 (by have := HB5.out.size; have := HG6.out.size; omega) (fun j hj => by cases hj; omega)
  case first =>
  try simp only [List.append_eq, List.cons_append, List.nil_append]
  refine wp_region_noPanic ?_
  refine wp_region_held_drew (S := (fun w' : World => Below w1.heap.size w1 w' ∧ w'.cell? ⟨G, 0, none⟩ = some (.int .i64 t) ∧ w'.cell? ⟨G, 1, none⟩ = some (.bool hr) ∧ w'.cell? ⟨G, 20, none⟩ = some (.slice pr nr cr) ∧ w'.cell? ⟨G, 21, none⟩ = some (.slice px nx cx))) (by kernel_rfl) (HK.out _ ((Below.refl _ _).drew)) (fun hHeld => ?_)
  refine wpAnyH_take (i := 0) (v := ?_) (arr_at rfl) (by as_aux_lemma => kernel_rfl) (by as_aux_lemma => kernel_rfl) (by as_aux_lemma => kernel_rfl) (fun _ _ _ h => h) (Or.inl ⟨by rfl, ?_⟩) hHeld ?_
  rotate_left
  · intro w hSw
    (try dsimp only at hSw)
    go_simp
    all_goals with_reducible rfl
  try simp only [Act.put, List.setIfInBounds_toArray, List.set_cons_zero, List.set_cons_succ]
  refine wpAnyH_take (i := 1) (v := ?_) (arr_at rfl) (by as_aux_lemma => kernel_rfl) (by as_aux_lemma => kernel_rfl) (by as_aux_lemma => kernel_rfl) (fun _ _ _ h => h) (Or.inl ⟨by rfl, ?_⟩) hHeld ?_
  rotate_left
  · intro w hSw
    (try dsimp only at hSw)
    go_simp
    all_goals with_reducible rfl
  try simp only [Act.put, List.setIfInBounds_toArray, List.set_cons_zero, List.set_cons_succ]
  refine wpAnyH_take (i := 2) (v := ?_) (arr_at rfl) (by as_aux_lemma => kernel_rfl) (by as_aux_lemma => kernel_rfl) (by as_aux_lemma => kernel_rfl) (fun _ _ _ h => h) (Or.inl ⟨by rfl, ?_⟩) hHeld ?_
  rotate_left
  · intro w hSw
    (try dsimp only at hSw)
    go_simp
    all_goals with_reducible rfl
  try simp only [Act.put, List.setIfInBounds_toArray, List.set_cons_zero, List.set_cons_succ]
  refine wpAnyH_take (i := 3) (v := ?_) (arr_at rfl) (by as_aux_lemma => kernel_rfl) (by as_aux_lemma => kernel_rfl) (by as_aux_lemma => kernel_rfl) (fun _ _ _ h => h) (Or.inl ⟨by rfl, ?_⟩) hHeld ?_
  rotate_left
  · intro w hSw
    (try dsimp only at hSw)
    go_simp
    all_goals with_reducible rfl
  try simp only [Act.put, List.setIfInBounds_toArray, List.set_cons_zero, List.set_cons_succ]
  refine wpAnyH_take (i := 4) (v := ?_) (arr_at rfl) (by as_aux_lemma => kernel_rfl) (by as_aux_lemma => kernel_rfl) (by as_aux_lemma => kernel_rfl) (fun _ _ _ h => h) (Or.inl ⟨by rfl, ?_⟩) hHeld ?_
  rotate_left
  · intro w hSw
    (try dsimp only at hSw)
    go_simp
    all_goals with_reducible rfl
  try simp only [Act.put, List.setIfInBounds_toArray, List.set_cons_zero, List.set_cons_succ]
  refine wpAnyH_take (i := 5) (v := ?_) (arr_at rfl) (by as_aux_lemma => kernel_rfl) (by as_aux_lemma => kernel_rfl) (by as_aux_lemma => kernel_rfl) (fun _ _ _ h => h) (Or.inl ⟨by rfl, ?_⟩) hHeld ?_
  rotate_left
  · intro w hSw
    (try dsimp only at hSw)
    go_simp
    all_goals with_reducible rfl
  try simp only [Act.put, List.setIfInBounds_toArray, List.set_cons_zero, List.set_cons_succ]
  refine wpAnyH_take (i := 7) (v := ?_) (arr_at rfl) (by as_aux_lemma => kernel_rfl) (by as_aux_lemma => kernel_rfl) (by as_aux_lemma => kernel_rfl) (fun _ _ _ h => h) (Or.inl ⟨by rfl, ?_⟩) hHeld ?_
  rotate_left
  · intro w hSw
    (try dsimp only at hSw)
    go_simp
    all_goals with_reducible rfl
  try simp only [Act.put, List.setIfInBounds_toArray, List.set_cons_zero, List.set_cons_succ]
  refine wpAnyH_take (i := 8) (v := ?_) (arr_at rfl) (by as_aux_lemma => kernel_rfl) (by as_aux_lemma => kernel_rfl) (by as_aux_lemma => kernel_rfl) (fun _ _ _ h => h) (Or.inl ⟨by rfl, ?_⟩) hHeld ?_
  rotate_left
  · intro w hSw
    (try dsimp only at hSw)
    go_simp
    all_goals with_reducible rfl
  try simp only [Act.put, List.setIfInBounds_toArray, List.set_cons_zero, List.set_cons_succ]
  refine wpAnyH_ready (rs := [6, 11]) (by as_aux_lemma => kernel_rfl) (by simp) ?_
  refine AllReadyH.cons (arr_at rfl) (fun K hK => ?_) ?_
  ·
    go_simp
    go_at_call 30; refine (HC1.out _ hHeld.1).mono ?_; rintro e w2 ⟨q1, c1, rfl, ho1, hb2⟩
    try go_wp2_with fail
    refine hK.out _ _ ?_ (fun hNew => ?_)
    · exact HK.out _ (Below.trans hHeld.1 (hb2.mono hHeld.1.size))
    clear hK K hHeld
    have hHeld := hNew
    clear hNew
    clear hb2
    try simp only [Act.put, List.setIfInBounds_toArray, List.set_cons_zero, List.set_cons_succ]
    refine wpAnyH_ready (rs := [9, 11]) (by as_aux_lemma => kernel_rfl) (by simp) ?_
    refine AllReadyH.cons (arr_at rfl) (fun K hK => ?_) ?_
    ·
      go_simp
      go_at_call 30; refine (HC2.out _ hHeld.1).mono ?_; rintro e w2 ⟨q2, c2, rfl, ho2, hb2⟩
      first | have ho1 := own_below ho1 hb2 | have ho1 := own_below (ho1.alloc _) hb2
      try go_wp2_with fail
      refine hK.out _ _ ?_ (fun hNew => ?_)
      · exact HK.out _ (Below.trans hHeld.1 (hb2.mono hHeld.1.size))
      clear hK K hHeld
      have hHeld := hNew
      clear hNew
      clear hb2
      try simp only [Act.put, List.setIfInBounds_toArray, List.set_cons_zero, List.set_cons_succ]
      refine wpAnyH_take (i := 10) (v := ?_) (arr_at rfl) (by as_aux_lemma => kernel_rfl) (by as_aux_lemma => kernel_rfl) (by as_aux_lemma => kernel_rfl) (fun _ _ _ h => h) (Or.inl ⟨by rfl, ?_⟩) hHeld ?_
      rotate_left
      · intro w hSw
        (try dsimp only at hSw)
        go_simp
        all_goals with_reducible rfl
      try simp only [Act.put, List.setIfInBounds_toArray, List.set_cons_zero, List.set_cons_succ]
      refine wpAnyH_ready (rs := [11]) (by as_aux_lemma => kernel_rfl) (by simp) ?_
      refine AllReadyH.cons (arr_at rfl) (fun K hK => ?_) ?_
      ·
        have hX := hHeld.1.size
        go_simp
        refine hK.out _ _ ?_ (fun hNew => ?_)
        · exact HK.out _ (hHeld.1.alloc hHeld.1.size _)
        clear hK K hHeld
        have hHeld := hNew
        clear hNew
        first | have hZ := of_new38 hHeld.1 | have hZ := of_new38d hHeld.1
        try simp only [Act.put, List.setIfInBounds_toArray, List.set_cons_zero, List.set_cons_succ]
        refine wpAnyH_ready (rs := [12]) (by as_aux_lemma => kernel_rfl) (by simp) ?_
        refine AllReadyH.cons (arr_at rfl) (fun K hK => ?_) ?_
        ·
          rw [if_pos (by rfl)]
          refine wp_store_mid 38 _ _ rfl _ 0 _ rfl rfl (rowIs_there hZ 0 22 (by omega)) info38s (by simp [Value.oneCell']) ?_
          refine hK.out _ _ ?_ (fun hNew => ?_)
          · exact HK.out _ (Below.grown hHeld.1 (setCells_grown _ _ _ (World.grownBy.refl _ _)) hHeld.1.size (fun k hk => by cases hk; exact hX))
          clear hK K hHeld
          have hHeld := hNew
          clear hNew
          have hRW := stored38 hHeld.1 hZ
          have ho1 := keep38 hHeld.1 hZ (by first | exact ho1 | exact ho1.alloc _)
          have ho2 := keep38 hHeld.1 hZ (by first | exact ho2 | exact ho2.alloc _)
          try simp only [Act.put]
          refine wpAnyH_done (by as_aux_lemma => kernel_rfl) ?_ _
          refine NoPanic.normal ?_
          as_aux_lemma =>
            go_wp2_with fail
            go_meet
            exact ⟨_, q1, c1, q2, c2, rfl, hX, World.rowIs.congr hRW fun j hj => by
                have h22 : j = 0 ∨ j = 1 ∨ j = 2 ∨ j = 3 ∨ j = 4 ∨ j = 5 ∨ j = 6 ∨ j = 7 ∨ j = 8 ∨ j = 9 ∨ j = 10 ∨ j = 11 ∨ j = 12 ∨ j = 13 ∨ j = 14 ∨ j = 15 ∨ j = 16 ∨ j = 17 ∨ j = 18 ∨ j = 19 ∨ j = 20 ∨ j = 21 := by omega
                rcases h22 with h | h | h | h | h | h | h | h | h | h | h | h | h | h | h | h | h | h | h | h | h | h <;> subst h <;> simp [toldF, zRuleF, zRule], ho1, ho2, hHeld.1⟩
        exact AllReadyH.nil
      exact AllReadyH.nil
    refine AllReadyH.cons (arr_at rfl) (fun K hK => ?_) ?_
    ·
      have hX := hHeld.1.size
      go_simp
      refine hK.out _ _ ?_ (fun hNew => ?_)
      · exact HK.out _ (hHeld.1.alloc hHeld.1.size _)
      clear hK K hHeld
      have hHeld := hNew
      clear hNew
      first | have hZ := of_new38 hHeld.1 | have hZ := of_new38d hHeld.1
      try simp only [Act.put, List.setIfInBounds_toArray, List.set_cons_zero, List.set_cons_succ]
      refine wpAnyH_ready (rs := [9]) (by as_aux_lemma => kernel_rfl) (by simp) ?_
      refine AllReadyH.cons (arr_at rfl) (fun K hK => ?_) ?_
      ·
        go_simp
        go_at_call 30; refine (HC2.out _ hHeld.1).mono ?_; rintro e w2 ⟨q2, c2, rfl, ho2, hb2⟩
        have hZ := below_row hZ hb2 hZ.lt
        first | have ho1 := own_below ho1 hb2 | have ho1 := own_below (ho1.alloc _) hb2
        try go_wp2_with fail
        refine hK.out _ _ ?_ (fun hNew => ?_)
        · exact HK.out _ (Below.trans hHeld.1 (hb2.mono hHeld.1.size))
        clear hK K hHeld
        have hHeld := hNew
        clear hNew
        clear hb2
        try simp only [Act.put, List.setIfInBounds_toArray, List.set_cons_zero, List.set_cons_succ]
        refine wpAnyH_take (i := 10) (v := ?_) (arr_at rfl) (by as_aux_lemma => kernel_rfl) (by as_aux_lemma => kernel_rfl) (by as_aux_lemma => kernel_rfl) (fun _ _ _ h => h) (Or.inl ⟨by rfl, ?_⟩) hHeld ?_
        rotate_left
        · intro w hSw
          (try dsimp only at hSw)
          go_simp
          all_goals with_reducible rfl
        try simp only [Act.put, List.setIfInBounds_toArray, List.set_cons_zero, List.set_cons_succ]
        refine wpAnyH_ready (rs := [12]) (by as_aux_lemma => kernel_rfl) (by simp) ?_
        refine AllReadyH.cons (arr_at rfl) (fun K hK => ?_) ?_
        ·
          rw [if_pos (by rfl)]
          refine wp_store_mid 38 _ _ rfl _ 0 _ rfl rfl (rowIs_there hZ 0 22 (by omega)) info38s (by simp [Value.oneCell']) ?_
          refine hK.out _ _ ?_ (fun hNew => ?_)
          · exact HK.out _ (Below.grown hHeld.1 (setCells_grown _ _ _ (World.grownBy.refl _ _)) hHeld.1.size (fun k hk => by cases hk; exact hX))
          clear hK K hHeld
          have hHeld := hNew
          clear hNew
          have hRW := stored38 hHeld.1 hZ
          have ho1 := keep38 hHeld.1 hZ (by first | exact ho1 | exact ho1.alloc _)
          have ho2 := keep38 hHeld.1 hZ (by first | exact ho2 | exact ho2.alloc _)
          try simp only [Act.put]
          refine wpAnyH_done (by as_aux_lemma => kernel_rfl) ?_ _
          refine NoPanic.normal ?_
          as_aux_lemma =>
            go_wp2_with fail
            go_meet
            exact ⟨_, q1, c1, q2, c2, rfl, hX, World.rowIs.congr hRW fun j hj => by
                have h22 : j = 0 ∨ j = 1 ∨ j = 2 ∨ j = 3 ∨ j = 4 ∨ j = 5 ∨ j = 6 ∨ j = 7 ∨ j = 8 ∨ j = 9 ∨ j = 10 ∨ j = 11 ∨ j = 12 ∨ j = 13 ∨ j = 14 ∨ j = 15 ∨ j = 16 ∨ j = 17 ∨ j = 18 ∨ j = 19 ∨ j = 20 ∨ j = 21 := by omega
                rcases h22 with h | h | h | h | h | h | h | h | h | h | h | h | h | h | h | h | h | h | h | h | h | h <;> subst h <;> simp [toldF, zRuleF, zRule], ho1, ho2, hHeld.1⟩
        exact AllReadyH.nil
      exact AllReadyH.nil
    exact AllReadyH.nil
  refine AllReadyH.cons (arr_at rfl) (fun K hK => ?_) ?_
  ·
    have hX := hHeld.1.size
    go_simp
    refine hK.out _ _ ?_ (fun hNew => ?_)
    · exact HK.out _ (hHeld.1.alloc hHeld.1.size _)
    clear hK K hHeld
    have hHeld := hNew
    clear hNew
    first | have hZ := of_new38 hHeld.1 | have hZ := of_new38d hHeld.1
    try simp only [Act.put, List.setIfInBounds_toArray, List.set_cons_zero, List.set_cons_succ]
    refine wpAnyH_ready (rs := [6]) (by as_aux_lemma => kernel_rfl) (by simp) ?_
    refine AllReadyH.cons (arr_at rfl) (fun K hK => ?_) ?_
    ·
      go_simp
      go_at_call 30; refine (HC1.out _ hHeld.1).mono ?_; rintro e w2 ⟨q1, c1, rfl, ho1, hb2⟩
      have hZ := below_row hZ hb2 hZ.lt
      try go_wp2_with fail
      refine hK.out _ _ ?_ (fun hNew => ?_)
      · exact HK.out _ (Below.trans hHeld.1 (hb2.mono hHeld.1.size))
      clear hK K hHeld
      have hHeld := hNew
      clear hNew
      clear hb2
      try simp only [Act.put, List.setIfInBounds_toArray, List.set_cons_zero, List.set_cons_succ]
      refine wpAnyH_ready (rs := [9]) (by as_aux_lemma => kernel_rfl) (by simp) ?_
      refine AllReadyH.cons (arr_at rfl) (fun K hK => ?_) ?_
      ·
        go_simp
        go_at_call 30; refine (HC2.out _ hHeld.1).mono ?_; rintro e w2 ⟨q2, c2, rfl, ho2, hb2⟩
        have hZ := below_row hZ hb2 hZ.lt
        first | have ho1 := own_below ho1 hb2 | have ho1 := own_below (ho1.alloc _) hb2
        try go_wp2_with fail
        refine hK.out _ _ ?_ (fun hNew => ?_)
        · exact HK.out _ (Below.trans hHeld.1 (hb2.mono hHeld.1.size))
        clear hK K hHeld
        have hHeld := hNew
        clear hNew
        clear hb2
        try simp only [Act.put, List.setIfInBounds_toArray, List.set_cons_zero, List.set_cons_succ]
        refine wpAnyH_take (i := 10) (v := ?_) (arr_at rfl) (by as_aux_lemma => kernel_rfl) (by as_aux_lemma => kernel_rfl) (by as_aux_lemma => kernel_rfl) (fun _ _ _ h => h) (Or.inl ⟨by rfl, ?_⟩) hHeld ?_
        rotate_left
        · intro w hSw
          (try dsimp only at hSw)
          go_simp
          all_goals with_reducible rfl
        try simp only [Act.put, List.setIfInBounds_toArray, List.set_cons_zero, List.set_cons_succ]
        refine wpAnyH_ready (rs := [12]) (by as_aux_lemma => kernel_rfl) (by simp) ?_
        refine AllReadyH.cons (arr_at rfl) (fun K hK => ?_) ?_
        ·
          rw [if_pos (by rfl)]
          refine wp_store_mid 38 _ _ rfl _ 0 _ rfl rfl (rowIs_there hZ 0 22 (by omega)) info38s (by simp [Value.oneCell']) ?_
          refine hK.out _ _ ?_ (fun hNew => ?_)
          · exact HK.out _ (Below.grown hHeld.1 (setCells_grown _ _ _ (World.grownBy.refl _ _)) hHeld.1.size (fun k hk => by cases hk; exact hX))
          clear hK K hHeld
          have hHeld := hNew
          clear hNew
          have hRW := stored38 hHeld.1 hZ
          have ho1 := keep38 hHeld.1 hZ (by first | exact ho1 | exact ho1.alloc _)
          have ho2 := keep38 hHeld.1 hZ (by first | exact ho2 | exact ho2.alloc _)
          try simp only [Act.put]
          refine wpAnyH_done (by as_aux_lemma => kernel_rfl) ?_ _
          refine NoPanic.normal ?_
          as_aux_lemma =>
            go_wp2_with fail
            go_meet
            exact ⟨_, q1, c1, q2, c2, rfl, hX, World.rowIs.congr hRW fun j hj => by
                have h22 : j = 0 ∨ j = 1 ∨ j = 2 ∨ j = 3 ∨ j = 4 ∨ j = 5 ∨ j = 6 ∨ j = 7 ∨ j = 8 ∨ j = 9 ∨ j = 10 ∨ j = 11 ∨ j = 12 ∨ j = 13 ∨ j = 14 ∨ j = 15 ∨ j = 16 ∨ j = 17 ∨ j = 18 ∨ j = 19 ∨ j = 20 ∨ j = 21 := by omega
                rcases h22 with h | h | h | h | h | h | h | h | h | h | h | h | h | h | h | h | h | h | h | h | h | h <;> subst h <;> simp [toldF, zRuleF, zRule], ho1, ho2, hHeld.1⟩
        exact AllReadyH.nil
      exact AllReadyH.nil
    exact AllReadyH.nil
  exact AllReadyH.nil
end Go.Proofs.YtnlpjncljbaapaaGreatDoor
