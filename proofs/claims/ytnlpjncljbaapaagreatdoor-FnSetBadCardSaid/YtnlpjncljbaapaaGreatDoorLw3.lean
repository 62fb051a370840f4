/- laws.FnSetBad, walked. -/
import Derived.Test.YtnlpjncljbaapaaGreatDoorAw
import Derived.Test.YtnlpjncljbaapaaGreatDoorLe
import Derived.Test.YtnlpjncljbaapaaGreatDoorLw
namespace Go.Proofs.YtnlpjncljbaapaaGreatDoor
open Go.RowKit

/-- The lines of a set with a bad one behind them make no set. -/
theorem lines_bad (t : Int) (ls : List (List UInt8)) (its : List Item) (k : Nat) (hk : k < 7) (ht : 0 < t ∧ t < 315537897600) (hla : LinesAre ls its) (hf : ∀ (k : Nat) o, (its ++ [Item.bad])[k]? = some (.rule o) → k = 0) (hn : ls.length ≤ 100) (W : World) (hG : Glob W) (v : Value) (base m : Nat) (hm : m = ls.length + 2)
    (hown : W.ownsRow base 9 1 v m (strVs (dtL t :: ls ++ [badL k]))) : Calls Tryz.prog 12 #[v] W fun e w' => GivesNone zSet W e w' := by
  subst hm
  rcases hown.2 with ⟨_, h0⟩ | ⟨g, cap, cur, rfl, hg, hh, hcap, _⟩
  · omega
  refine parseLines_bad _ W fun W2 h2 => ?_
  have hgl : g < W.heap.size := (Array.getElem?_eq_some_iff.1 hh).1
  have hst : StrsAt W g (dtL t :: (ls ++ [badL k])) := StrsAt.of_own hown
  have := lines_any (ls ++ [badL k]) (its ++ [.bad]) (dtL t) ⟨(dateL t).toArray⟩ t g cap W2 (hG.on h2) (hst.below h2 hgl) (Nat.lt_of_lt_of_le hgl h2.size) (by simp; omega) (by simp; omega)
    (dt_named t) ht (fun W => dtStart_ok t W (by omega) ht.2) (hla.app (.one (bad_line k hk))).1.symm (hla.app (.one (bad_line k hk))).2 hf
  rw [show (ls ++ [badL k]).length + 1 = ls.length + 2 by simp] at this
  exact this.mono fun e w' h => h.1 (by simp)
theorem heap_old {w : World} {o : Obj} {k : Nat} (h : k < w.heap.size) : (w.alloc o).heap[k]? = w.heap[k]? := ((Below.refl w.heap.size w).alloc (Nat.le_refl _) o).block k h
theorem three_below {w w5 W w9 : World} (h5 : Below w.heap.size w w5) (h : Below w5.heap.size w5 W) (h9 : Below W.heap.size W w9) : Below w.heap.size w w9 := (h5.trans (h.mono h5.size)).trans (h9.mono (Nat.le_trans h5.size h.size))
/-- A block for a set of impl's, made in the region; the row v's block is another. -/
def Z38 (w5 : World) (v : Value) (W : World) (N : Nat) : Prop := w5.heap.size ≤ N ∧ v.ownBlock ≠ some N ∧ W.heap[N]? = some (.cells zSet 38)
theorem Z38.lt {w5 W : World} {v : Value} {N : Nat} (h : Z38 w5 v W N) : N < W.heap.size := (Array.getElem?_eq_some_iff.1 h.2.2).1
theorem Z38.below {w5 W W' : World} {v : Value} {N : Nat} (h : Z38 w5 v W N) (hb : Below W.heap.size W W') : Z38 w5 v W' N := ⟨h.1, h.2.1, (hb.block N h.lt).trans h.2.2⟩
theorem Z38.alloc {w5 W : World} {v : Value} {N : Nat} (h : Z38 w5 v W N) (o : Obj) : Z38 w5 v (W.alloc o) N := h.below ((Below.refl _ _).alloc (Nat.le_refl _) o)
theorem Z38.grown {w5 W W' : World} {v : Value} {N : Nat} (h : Z38 w5 v W N) (hg : W.grownBy W' v.ownBlock) : Z38 w5 v W' N := ⟨h.1, h.2.1, (hg.block N h.lt fun e => h.2.1 e.symm).trans h.2.2⟩
theorem Z38.new {w5 w6 X : World} {v : Value} {B m : Nat} {e : TypeId} {xs : List Value} (ho : w6.ownsRow B e 1 v m xs) (h5 : w5.heap.size ≤ X.heap.size) (h6 : w6.heap.size ≤ X.heap.size) : Z38 w5 v (X.alloc (.cells zSet 38)) X.heap.size :=
  ⟨h5, fun h => by have := (ho.lt _ h).2; omega, heap_alloc_new _ _⟩
theorem Z38.first {w5 w6 X W : World} {v : Value} {B m : Nat} {e : TypeId} {xs : List Value} (ho : w6.ownsRow B e 1 v m xs) (h5 : w5.heap.size ≤ X.heap.size) (hW : W.heap[X.heap.size]? = some (.cells zSet 38)) (hB : W.heap.size ≤ B) (hb : Below W.heap.size W w6) : Z38 w5 v w6 X.heap.size := by
  have hlt : X.heap.size < W.heap.size := (Array.getElem?_eq_some_iff.1 hW).1
  exact ⟨h5, fun h => by have := (ho.lt _ h).1; omega, (hb.block _ hlt).trans hW⟩
theorem store38 {W : World} {N : Nat} (h : W.heap[N]? = some (.cells zSet 38)) : Sem.run Tryz.prog (storeCells ⟨N, 0, none⟩ zSet.toList) W = .ok () (W.setCells N 0 zSet.toList) := by
  have hz : zSet.toList.length = 22 := rfl
  refine run_storeCells_cells N 0 zSet.toList 0 W (fun j hj => ?_) (fun j hj => ?_) (fun v hv => ?_)
  · simp only [Nat.zero_add]
    rw [Joins.cell_of_block h]
    simp at hj
    simp [hj]
  · simp only [Nat.zero_add]
    simp [World.frozen?, h]
  · have := zSet_one
    rw [Array.all_eq_true'] at this
    exact this v (by simpa using hv)
theorem Z38.run {w5 W : World} {v : Value} {N : Nat} (h : Z38 w5 v W N) : Sem.run Tryz.prog (storeCells ⟨N, 0, none⟩ zSet.toList) W = .ok () (W.setCells N 0 zSet.toList) := store38 h.2.2
set_option maxRecDepth 100000 in
set_option maxHeartbeats 16000000 in
theorem law_bad (t : Int) (hr : Bool) (fr : Nat) (hs : Bool) (st iv wk ct : Int) (hu : Bool) (un : Int) (p : Nat → Option Addr) (n c : Nat → Nat) (pr : Option Addr) (nr cr : Nat) (px : Option Addr) (nx cx : Nat) (l : Nat → List Int) (dl : List (Int × Int)) (rds exs : List Int) (which : Nat) (w : World) (hG : Glob w)
    (h : SetIn w p n c pr nr cr px nx cx l dl rds exs) (hwh : which ≤ 255) :
    Calls Tryz.prog 3 #[.agg (sSetC t hr fr hs st iv wk ct hu un p n c pr nr cr px nx cx), .int .u8 which] w fun e w' => e = .returned (.bool true) ∧ Below w.heap.size w w' := by
  have hB := below_a1 (w := w) (o := .cells (sSetC t hr fr hs st iv wk ct hu un p n c pr nr cr px nx cx) 28)
  have hR := sSet_at t hr fr hs st iv wk ct hu un p n c pr nr cr px nx cx w
  have HRC := Lib.hid (sSetF_row t hr fr hs st iv wk ct hu un p n c pr nr cr px nx cx)
  have HF := Lib.hid fun W : World => fits2_any t hr fr hs st iv wk ct hu un p n c pr nr cr px nx cx W
  have HAW := Lib.hid fun (W : World) (hW : Below w.heap.size w W) => awake_any W (hG.on hW)
  have HIN := Lib.hid h
  have HG := Lib.hid hG
  obtain ⟨d8, hud8⟩ := Go.Proofs.YtnlpjncljbaapaaGreatDoor.u28
  have HU8 := Lib.hid hud8
  clear hud8 h hG
  go_enter Tryz.func3, Tryz.ntmps3
  unfold sSetC at *
  go_upto_region 1 with fail
  generalize hw1 : w.alloc (.cells #[_, _, _, _, _, _, _, _, _, _, _, _, _, _, _, _, _, _, _, _, _, _] 28) = w1 at *
  have HB := Lib.hid hB
  have HR := Lib.hid hR
  clear hw1 hB hR
  go_wp2_with ((with_reducible refine gd_load 28 ?_); refine wpl_load_row0 rfl 28 _ rfl w.heap.size 28 22 22 _ rfl HR.out (by decide) d8 HU8.out.1 HU8.out.2 info28s ?_; rw [HRC.out])
  refine (HF.out _).mono ?_; rintro e w2 ⟨⟨b, rfl, hfit⟩, hb2⟩
  have HB2 := Lib.hid (HB.out.trans (hb2.mono HB.out.size))
  have HR2 := Lib.hid (below_row HR.out hb2 HR.out.lt)
  clear hb2
  cases b with
  | false => go_wp2_with fail; go_ret; exact ⟨rfl, HB2.out⟩
  | true =>
  obtain ⟨hn, hnr, hnx⟩ := hfit rfl
  have HT := Lib.hid fun (W : World) (hW : Below w.heap.size w W) => textSet_any t hr fr hs st iv wk ct hu un p n c pr nr cr px nx cx l dl rds exs W (fun k a b e => (HIN.out.ro k a b e).below hW) (HIN.out.rd.below hW) hn HIN.out.nc (HIN.out.rr.below hW) (HIN.out.rx.below hW) hnr hnx HIN.out.px
  have HN := Lib.hid hn
  clear hfit hn
  unfold sSetC at HT
  go_wp2_with ((with_reducible refine gd_load 28 ?_); refine wpl_load_row0 rfl 28 _ rfl w.heap.size 28 22 22 _ rfl HR2.out (by decide) d8 HU8.out.1 HU8.out.2 info28s ?_; rw [HRC.out])
  refine (HT.out _ HB2.out).mono ?_; rintro e w3 ⟨f, b, rfl, hone, hsay, hb3⟩
  have HB3 := Lib.hid (HB2.out.trans (hb3.mono HB2.out.size))
  have HR3 := Lib.hid (below_row HR2.out hb3 HR2.out.lt)
  have HONE := Lib.hid hone
  have HSAY := Lib.hid hsay
  clear hb3 hone hsay
  cases b with
  | false =>
    go_wp2_with ((with_reducible refine gd_store 28 ?_); refine wpl_store_row rfl 28 _ _ rfl w.heap.size 0 28 22 _ (rowA 22 f) rfl rfl HR3.out (by simp [rowA_size]) (by rw [info28s, rowA_size]) (rowA_all HONE.out) ?_; intro w4 hR4 hg4)
    have HB4 := Lib.hid (HB3.out.grown hg4 HB3.out.size (fun k hk => by cases hk; exact Nat.le_refl _))
    refine (HAW.out _ HB4.out).mono ?_; rintro e w5 ⟨rfl, hb5⟩
    go_wp2_with fail
    go_ret
    exact ⟨rfl, HB4.out.trans (hb5.mono HB4.out.size)⟩
  | true =>
  have HS := Lib.hid (HSAY.out rfl)
  clear HSAY
  go_upto_region 7 with ((with_reducible refine gd_store 28 ?_); refine wpl_store_row rfl 28 _ _ rfl w.heap.size 0 28 22 _ (rowA 22 f) rfl rfl HR3.out (by simp [rowA_size]) (by rw [info28s, rowA_size]) (rowA_all HONE.out) ?_; intro w4 hR4 hg4)
  have hB4 := HB3.out.grown hg4 HB3.out.size (fun k hk => by cases hk; exact Nat.le_refl _)
  have hf4 : ∀ i, i < 22 → w4.cell? ⟨w.heap.size, i, none⟩ = some (f i) := fun i hi => by
    rw [hR4.cell hi]
    unfold updR
    rw [if_pos ⟨Nat.zero_le _, by rw [rowA_size]; omega⟩, Nat.sub_zero, rowA_get hi]
    rfl
  obtain ⟨k, hk⟩ : ∃ k : Nat, k = which % 7 := ⟨_, rfl⟩
  have hk7 : k < 7 := by omega
  have hki : ((which : Int)).tmod 7 = (k : Int) := by rw [Int.tmod_eq_emod_of_nonneg (by omega)]; omega
  have hww : IntKind.i64.wrap (which : Int) = (which : Int) := by simp [IntKind.wrap, IntKind.bits, IntKind.signed]; omega
  obtain ⟨z, hwz, hzk⟩ : ∃ z : Int, IntKind.i64.wrap (which : Int) = z ∧ z.tmod 7 = (k : Int) := ⟨_, hww, hki⟩
  have hk70 : (0 : Int) ≤ (k : Int) := by omega
  have hk77 : (k : Int) < 7 := by omega
  have hk78 : (k : Int) < ((7 : Nat) : Int) := by omega
  have hk79 : decide (0 ≤ (k : Int)) = true := by simp
  have hk80 : decide ((k : Int) < 7) = true := by simp; omega
  obtain ⟨A, hA⟩ : ∃ A, A = w4.heap.size := ⟨_, rfl⟩
  have hwA : w.heap.size < A := by rw [hA]; exact Nat.lt_of_lt_of_le hR4.lt (Nat.le_refl _)
  generalize hw5 : w4.alloc (.cells #[_, _, _, _, _, _, _] 33) = w5 at *
  have hA5 : A < w5.heap.size := by rw [← hw5, hA]; simp
  have hf5 : ∀ i, i < 22 → w5.cell? ⟨w.heap.size, i, none⟩ = some (f i) := fun i hi => by
    rw [← hw5, World.cell?_alloc_lt _ _ _ (show w.heap.size < w4.heap.size by omega)]
    exact hf4 i hi
  have hb5 : w5.cell? ⟨A, k, none⟩ = some (.string ⟨(badL k).toArray⟩) := by
    rw [← hw5, hA]
    have h7 : k = 0 ∨ k = 1 ∨ k = 2 ∨ k = 3 ∨ k = 4 ∨ k = 5 ∨ k = 6 := by omega
    rcases h7 with h | h | h | h | h | h | h <;> subst h <;> exact cell_new rfl
  have HB5 := Lib.hid (show Below w.heap.size w w5 by rw [← hw5]; exact hB4.alloc hB4.size _)
  have HK := Lib.hid (show ∀ W : World, Below w5.heap.size w5 W → (fun w' : World => Below w5.heap.size w5 w' ∧ w'.cell? ⟨A, k, none⟩ = some (.string ⟨(badL k).toArray⟩)) W from fun W hW => ⟨hW, (hW.cell (p := ⟨A, k, none⟩) hA5).trans hb5⟩)
  have HRG := Lib.hid (show ∀ W : World, Below w5.heap.size w5 W → W.rangeAt w.heap.size 0 [f 0, f 1, f 2, f 3, f 4, f 5, f 6, f 7, f 8, f 9, f 10, f 11, f 12, f 13, f 14, f 15, f 16, f 17, f 18, f 19, f 20, f 21] from fun W hW j v hv => by
    rw [show ([f 0, f 1, f 2, f 3, f 4, f 5, f 6, f 7, f 8, f 9, f 10, f 11, f 12, f 13, f 14, f 15, f 16, f 17, f 18, f 19, f 20, f 21] : List Value) = (List.range 22).map f from rfl] at hv
    have hj : j < 22 := by
      have := (List.getElem?_eq_some_iff.1 hv).1
      simpa using this
    rw [List.getElem?_map, List.getElem?_range hj] at hv
    obtain rfl : f j = v := by simpa using hv
    rw [Nat.zero_add]
    exact (hW.cell (p := ⟨w.heap.size, j, none⟩) (by show w.heap.size < w5.heap.size; omega)).trans (hf5 j hj))
  rw [← hA]
  have HC13 := Lib.hid (show ∀ W : World, Below w5.heap.size w5 W → Calls Tryz.prog 13 #[.agg #[f 0, f 1, f 2, f 3, f 4, f 5, f 6, f 7, f 8, f 9, f 10, f 11, f 12, f 13, f 14, f 15, f 16, f 17, f 18, f 19, f 20, f 21], .slice none 0 0] W fun e w' => GivesOwn (setLines t hr (txOf fr hu un ct iv l dl wk) rds exs) W e w' from fun W hW =>
    texts_any W (HG.out.on (HB5.out.trans (hW.mono HB5.out.size))) (HIN.out.below (HB5.out.trans (hW.mono HB5.out.size))) HS.out)
  have HC12 := Lib.hid (show ∀ (W : World) (v : Value) (base m : Nat), Below w5.heap.size w5 W → m = (setLines t hr (txOf fr hu un ct iv l dl wk) rds exs).length + 1 → W.ownsRow base 9 1 v m (strVs (setLines t hr (txOf fr hu un ct iv l dl wk) rds exs ++ [badL k])) → Calls Tryz.prog 12 #[v] W fun e w' => GivesNone zSet W e w' from fun W v base m hW hm hown => by
    rw [setLines_cons] at hm hown
    exact lines_bad t _ _ k hk7 (says_start HS.out) (says_rest HS.out) (rule_first (by simp)) (by have h1 := restL_len hr (txOf fr hu un ct iv l dl wk) rds exs; have h2 := HS.out.2.1; have h3 := HS.out.2.2.1; have h4 := HIN.out.rr.1; have h5 := HIN.out.rx.1; omega) W (HG.out.on (HB5.out.trans (hW.mono HB5.out.size))) v base m (by simpa using hm) hown)
  have HBS := Lib.hid (Eq.refl (badL k))
  obtain ⟨sb, hsb⟩ : ∃ sb : ByteArray, sb = ⟨(badL k).toArray⟩ := ⟨_, rfl⟩
  have HSB := Lib.hid hsb
  rw [← hsb] at HK
  obtain ⟨i0, hi, hzz⟩ := Option.map_eq_some_iff.1 info9
  simp only [Prod.mk.injEq] at hzz
  obtain ⟨hz0, hz1, hz2⟩ := hzz
  have HI := Lib.hid (And.intro hi (And.intro hz0 (And.intro hz1 hz2)))
  have HSL := Lib.hid (show (setLines t hr (txOf fr hu un ct iv l dl wk) rds exs).length ≤ 30 from by rw [setLines_cons]; have h1 := restL_len hr (txOf fr hu un ct iv l dl wk) rds exs; have h2 := HS.out.2.1; have h3 := HS.out.2.2.1; have h4 := HIN.out.rr.1; have h5 := HIN.out.rx.1; simp; omega)
  clear hA hk hww hki hf4 hf5 hb5 hB4 hR4 hg4 hw5 hi hz0 hz1 hz2 hsb HIN HG HS HT HF HRC HN HONE HR3 HR2 HR HB HB2 HB3 hnr hnx
  have HSP := Lib.hid (show 0 < (setLines t hr (txOf fr hu un ct iv l dl wk) rds exs).length from by rw [setLines_cons]; simp)
  generalize setLines t hr (txOf fr hu un ct iv l dl wk) rds exs = SL at *
  have hstA : ∀ X : World, Sem.run Tryz.prog (storeCells ⟨X.heap.size, 0, none⟩ zSet.toList) (X.alloc (.cells #[.int .i64 0, .bool false, .int .u8 0, .bool false, .int .i64 0, .int .i64 0, .int .i64 0, .int .i64 0, .bool false, .int .i64 0, .slice none 0 0, .slice none 0 0, .slice none 0 0, .slice none 0 0, .slice none 0 0, .slice none 0 0, .slice none 0 0, .slice none 0 0, .slice none 0 0, .slice none 0 0, .slice none 0 0, .slice none 0 0] 38)) = .ok () ((X.alloc (.cells #[.int .i64 0, .bool false, .int .u8 0, .bool false, .int .i64 0, .int .i64 0, .int .i64 0, .int .i64 0, .bool false, .int .i64 0, .slice none 0 0, .slice none 0 0, .slice none 0 0, .slice none 0 0, .slice none 0 0, .slice none 0 0, .slice none 0 0, .slice none 0 0, .slice none 0 0, .slice none 0 0, .slice none 0 0, .slice none 0 0] 38)).setCells X.heap.size 0 zSet.toList) := fun X => store38 (heap_alloc_new X (.cells zSet 38))
  generalize (Value.agg #[Value.int .i64 t, _, _, _, _, _, _, _, _, _, _, _, _, _, _, _, _, _, _, _, _, _]) = X0
  generalize (Value.tuple #[Value.agg (rowA 22 f), Value.bool true]) = X1
  generalize (Value.agg (rowA 22 f)) = X2
  generalize (Value.agg #[Value.string _, Value.string _, Value.string _, Value.string _, Value.string _, Value.string _, Value.string _]) = X3
  as_aux_lemma =>
  refine wp_region_noPanic ?_
  refine wp_region_held_drew (S := (fun w' : World => Below w5.heap.size w5 w' ∧ w'.cell? ⟨A, k, none⟩ = some (.string sb))) (by kernel_rfl) (HK.out _ ((Below.refl _ _).drew)) (fun hHeld => ?_)
  refine wpAnyH_take (i := 0) (arr_at rfl) (by kernel_rfl) (by kernel_rfl) (by kernel_rfl) (fun _ _ _ h => h) (yieldsIf_load_mid (by rfl) 28 _ rfl w.heap.size 0 rfl [f 0, f 1, f 2, f 3, f 4, f 5, f 6, f 7, f 8, f 9, f 10, f 11, f 12, f 13, f 14, f 15, f 16, f 17, f 18, f 19, f 20, f 21] _ (fun W hS => HRG.out W hS.1) Tryz.underlying28 rfl info28s) hHeld ?_
  simp only [Act.put, List.setIfInBounds_toArray, List.set_cons_zero, List.set_cons_succ]
  refine wpAnyH_take (i := 2) (v := ?_) (arr_at rfl) (by kernel_rfl) (by kernel_rfl) (by kernel_rfl) (fun _ _ _ h => h) (Or.inl ⟨by rfl, ?_⟩) hHeld ?_
  rotate_left
  · intro w hSw
    (try dsimp only at hSw)
    go_simp
    all_goals with_reducible rfl
  try simp only [Act.put, List.setIfInBounds_toArray, List.set_cons_zero, List.set_cons_succ]
  refine wpAnyH_take (i := 3) (v := ?_) (arr_at rfl) (by kernel_rfl) (by kernel_rfl) (by kernel_rfl) (fun _ _ _ h => h) (Or.inl ⟨by rfl, ?_⟩) hHeld ?_
  rotate_left
  · intro w hSw
    (try dsimp only at hSw)
    go_simp
    all_goals with_reducible rfl
  try simp only [Act.put, List.setIfInBounds_toArray, List.set_cons_zero, List.set_cons_succ]
  refine wpAnyH_take (i := 4) (v := ?_) (arr_at rfl) (by kernel_rfl) (by kernel_rfl) (by kernel_rfl) (fun _ _ _ h => h) (Or.inl ⟨by rfl, ?_⟩) hHeld ?_
  rotate_left
  · intro w hSw
    (try dsimp only at hSw)
    go_simp
    all_goals with_reducible rfl
  try simp only [Act.put, List.setIfInBounds_toArray, List.set_cons_zero, List.set_cons_succ]
  refine wpAnyH_take (i := 5) (v := ?_) (arr_at rfl) (by kernel_rfl) (by kernel_rfl) (by kernel_rfl) (fun _ _ _ h => h) (Or.inl ⟨by rfl, ?_⟩) hHeld ?_
  rotate_left
  · intro w hSw
    (try dsimp only at hSw)
    go_simp
    all_goals with_reducible rfl
  try simp only [Act.put, List.setIfInBounds_toArray, List.set_cons_zero, List.set_cons_succ]
  refine wpAnyH_take (i := 6) (v := ?_) (arr_at rfl) (by kernel_rfl) (by kernel_rfl) (by kernel_rfl) (fun _ _ _ h => h) (Or.inl ⟨by rfl, ?_⟩) hHeld ?_
  rotate_left
  · intro w hSw
    (try dsimp only at hSw)
    go_simp
    all_goals with_reducible rfl
  try simp only [Act.put, List.setIfInBounds_toArray, List.set_cons_zero, List.set_cons_succ]
  refine wpAnyH_ready (rs := [1, 7, 13]) (by kernel_rfl) (by simp) ?_
  refine AllReadyH.cons (arr_at rfl) (fun K hK => ?_) ?_
  · as_aux_lemma =>
    go_simp
    go_at_call 13; refine (HC13.out _ (And.left (by assumption))).mono ?_; rintro e w6 ⟨B6, v6, m6, rfl, hB6, hown6, hm6, hb6⟩; have hbk6 : ∀ k, v6.ownBlock = some k → w5.heap.size ≤ k := (fun k hk => Nat.le_trans (Below.size (And.left (by assumption))) (Nat.le_trans hB6 (own_base hown6 k hk))); have hBl6 : B6 ≤ w6.heap.size := own_top hown6 (by rw [← hm6]; exact HSP.out); have hm30 : m6 ≤ 30 := (by rw [← hm6]; exact HSL.out); have hs6 : w5.heap.size ≤ w6.heap.size := Nat.le_trans (Below.size (And.left (by assumption))) hb6.size; (first | (have hz6 := Z38.first (w5 := w5) (X := w5.drew) hown6 (Nat.le_refl _) (heap_alloc_new _ _) hB6 hb6; (try simp at hz6)) | (have hz6 := Z38.first (w5 := w5) (X := w5.drew) hown6 (Nat.le_refl _) ((heap_old (by simp)).trans (heap_alloc_new _ _)) hB6 hb6; (try simp at hz6)) | (have hz6 := Z38.first (w5 := w5) (X := w5.drew.alloc (.cells #[.string sb] 9)) hown6 (by simp) (heap_alloc_new _ _) hB6 hb6; (try simp at hz6)) | skip)
    try go_wp2_with fail
    refine hK.out _ _ ?_ (fun hNew => ?_)
    · (first | exact HK.out _ (Below.grown (And.left (by assumption)) (setCells_grown _ _ _ (World.grownBy.refl _ _)) (Below.size (And.left (by assumption))) (fun k hk => by cases hk; first | exact hN8 | exact hs8)) | exact HK.out _ ((Below.refl _ _).drew) | exact HK.out _ (And.left (by assumption)) | exact HK.out _ (Below.grown (And.left (by assumption)) hg7 (Below.size (And.left (by assumption))) hbk6) | exact HK.out _ (Below.trans (And.left (by assumption)) (hb8.mono (Below.size (And.left (by assumption))))) | exact HK.out _ (Below.alloc (And.left (by assumption)) (Below.size (And.left (by assumption))) _) | exact HK.out _ (Below.trans (And.left (by assumption)) (hb6.mono (Below.size (And.left (by assumption))))))
    clear hK K hHeld
    have hHeld := hNew
    clear hNew
    try simp only [Act.put, List.setIfInBounds_toArray, List.set_cons_zero, List.set_cons_succ]
    refine wpAnyH_ready (rs := [7, 13]) (by kernel_rfl) (by simp) ?_
    refine AllReadyH.cons (arr_at rfl) (fun K hK => ?_) ?_
    · as_aux_lemma =>
      go_simp
      refine hK.out _ _ ?_ (fun hNew => ?_)
      · (first | exact HK.out _ (Below.grown (And.left (by assumption)) (setCells_grown _ _ _ (World.grownBy.refl _ _)) (Below.size (And.left (by assumption))) (fun k hk => by cases hk; first | exact hN8 | exact hs8)) | exact HK.out _ ((Below.refl _ _).drew) | exact HK.out _ (And.left (by assumption)) | exact HK.out _ (Below.grown (And.left (by assumption)) hg7 (Below.size (And.left (by assumption))) hbk6) | exact HK.out _ (Below.trans (And.left (by assumption)) (hb8.mono (Below.size (And.left (by assumption))))) | exact HK.out _ (Below.alloc (And.left (by assumption)) (Below.size (And.left (by assumption))) _) | exact HK.out _ (Below.trans (And.left (by assumption)) (hb6.mono (Below.size (And.left (by assumption))))))
      clear hK K hHeld
      have hHeld := hNew
      clear hNew
      try simp only [Act.put, List.setIfInBounds_toArray, List.set_cons_zero, List.set_cons_succ]
      refine wpAnyH_ready (rs := [8, 13]) (by kernel_rfl) (by simp) ?_
      refine AllReadyH.cons (arr_at rfl) (fun K hK => ?_) ?_
      ·
        refine step_append_lies _ rfl (.tmp 23) (.tmp 29) 41 rfl B6 9 i0 (.string ⟨#[]⟩) 1 16 Tryz.underlying41 HI.out.1 HI.out.2.1 HI.out.2.2.1 HI.out.2.2.2 rfl (by decide) v6 m6 (strVs SL) rfl (by first | exact hown6 | exact hown6.alloc _ | exact (hown6.alloc _).alloc _) _ _ _ [.string sb] rfl rfl (news1 (by first | exact cell_new rfl | exact (Joins.cell_alloc_mark_at _ _ _ _ _ _ (by simp)).trans rfl | exact (hb6.cell (by first | omega | (simp <;> omega))).trans ((Joins.cell_alloc_mark_at _ _ _ _ _ _ (by simp)).trans rfl) | exact (World.cell?_alloc_lt _ _ _ (by first | omega | (simp <;> omega))).trans (cell_new rfl) | exact (hb6.cell (by first | omega | (simp <;> omega))).trans (cell_new rfl) | exact (hb6.cell (by first | omega | (simp <;> omega))).trans ((World.cell?_alloc_lt _ _ _ (by first | omega | (simp <;> omega))).trans (cell_new rfl)) | exact (World.cell?_alloc_lt _ _ _ (Nat.lt_of_lt_of_le (by first | omega | (simp <;> omega)) hb6.size)).trans ((hb6.cell (by first | omega | (simp <;> omega))).trans (cell_new rfl)))) (by simp [Value.oneCell']) (by decide) (by simp only [maxLen]; omega) (by omega) (by first | exact hBl6 | (simp only [World.size_alloc]; omega)) _ rfl ?_; intro g7 c7 w7 hown7 hg7 hg7b hg7l; have hs7 : w5.heap.size ≤ w7.heap.size := Nat.le_trans (Below.size (And.left (by assumption))) hg7.size; have hs67 : w6.heap.size ≤ w7.heap.size := Nat.le_trans (by first | omega | (simp <;> omega)) hg7.size; (first | have hz7 := Z38.grown hz6 hg7 | have hz7 := Z38.grown (Z38.alloc hz6 _) hg7 | (have hz7 := Z38.grown (Z38.new (w5 := w5) hown6 (by first | omega | (simp <;> omega)) (by first | omega | (simp <;> omega))) hg7; (try simp at hz7)) | (have hz7 := Z38.grown (Z38.alloc (Z38.new (w5 := w5) hown6 (by first | omega | (simp <;> omega)) (by first | omega | (simp <;> omega))) _) hg7; (try simp at hz7)) | skip)
        refine hK.out _ _ ?_ (fun hNew => ?_)
        · (first | exact HK.out _ (Below.grown (And.left (by assumption)) (setCells_grown _ _ _ (World.grownBy.refl _ _)) (Below.size (And.left (by assumption))) (fun k hk => by cases hk; first | exact hN8 | exact hs8)) | exact HK.out _ ((Below.refl _ _).drew) | exact HK.out _ (And.left (by assumption)) | exact HK.out _ (Below.grown (And.left (by assumption)) hg7 (Below.size (And.left (by assumption))) hbk6) | exact HK.out _ (Below.trans (And.left (by assumption)) (hb8.mono (Below.size (And.left (by assumption))))) | exact HK.out _ (Below.alloc (And.left (by assumption)) (Below.size (And.left (by assumption))) _) | exact HK.out _ (Below.trans (And.left (by assumption)) (hb6.mono (Below.size (And.left (by assumption))))))
        clear hK K hHeld
        have hHeld := hNew
        clear hNew
        try simp only [Act.put, List.setIfInBounds_toArray, List.set_cons_zero, List.set_cons_succ]
        refine wpAnyH_ready (rs := [9, 13]) (by kernel_rfl) (by simp) ?_
        refine AllReadyH.cons (arr_at rfl) (fun K hK => ?_) ?_
        ·
          go_simp
          go_at_call 12; refine (HC12.out _ _ B6 (m6 + 1) (And.left (by assumption)) (by omega) (by rw [strVs_snoc, ← HSB.out]; first | exact hown7 | exact hown7.alloc _)).mono ?_; rintro e w8 ⟨rfl, hb8⟩; have hs8 : w5.heap.size ≤ w8.heap.size := Nat.le_trans (Below.size (And.left (by assumption))) hb8.size; (first | (have hz8 := Z38.below hz7 hb8; have hst8 := hz8.run; have hN8 := hz8.1) | (have hz8 := Z38.below (Z38.new (w5 := w5) (X := w7) hown6 hs7 hs67) hb8; have hst8 := hz8.run; have hN8 := hz8.1) | skip)
          try go_wp2_with fail
          refine hK.out _ _ ?_ (fun hNew => ?_)
          · (first | exact HK.out _ (Below.grown (And.left (by assumption)) (setCells_grown _ _ _ (World.grownBy.refl _ _)) (Below.size (And.left (by assumption))) (fun k hk => by cases hk; first | exact hN8 | exact hs8)) | exact HK.out _ ((Below.refl _ _).drew) | exact HK.out _ (And.left (by assumption)) | exact HK.out _ (Below.grown (And.left (by assumption)) hg7 (Below.size (And.left (by assumption))) hbk6) | exact HK.out _ (Below.trans (And.left (by assumption)) (hb8.mono (Below.size (And.left (by assumption))))) | exact HK.out _ (Below.alloc (And.left (by assumption)) (Below.size (And.left (by assumption))) _) | exact HK.out _ (Below.trans (And.left (by assumption)) (hb6.mono (Below.size (And.left (by assumption))))))
          clear hK K hHeld
          have hHeld := hNew
          clear hNew
          try simp only [Act.put, List.setIfInBounds_toArray, List.set_cons_zero, List.set_cons_succ]
          refine wpAnyH_take (i := 10) (v := ?_) (arr_at rfl) (by kernel_rfl) (by kernel_rfl) (by kernel_rfl) (fun _ _ _ h => h) (Or.inl ⟨by rfl, ?_⟩) hHeld ?_
          rotate_left
          · intro w hSw
            (try dsimp only at hSw)
            go_simp
            all_goals with_reducible rfl
          try simp only [Act.put, List.setIfInBounds_toArray, List.set_cons_zero, List.set_cons_succ]
          refine wpAnyH_take (i := 11) (v := ?_) (arr_at rfl) (by kernel_rfl) (by kernel_rfl) (by kernel_rfl) (fun _ _ _ h => h) (Or.inl ⟨by rfl, ?_⟩) hHeld ?_
          rotate_left
          · intro w hSw
            (try dsimp only at hSw)
            go_simp
            all_goals with_reducible rfl
          try simp only [Act.put, List.setIfInBounds_toArray, List.set_cons_zero, List.set_cons_succ]
          refine wpAnyH_take (i := 12) (v := ?_) (arr_at rfl) (by kernel_rfl) (by kernel_rfl) (by kernel_rfl) (fun _ _ _ h => h) (Or.inl ⟨by rfl, ?_⟩) hHeld ?_
          rotate_left
          · intro w hSw
            (try dsimp only at hSw)
            go_simp
            all_goals with_reducible rfl
          try simp only [Act.put, List.setIfInBounds_toArray, List.set_cons_zero, List.set_cons_succ]
          refine wpAnyH_ready (rs := [13]) (by kernel_rfl) (by simp) ?_
          refine AllReadyH.cons (arr_at rfl) (fun K hK => ?_) ?_
          ·
            go_simp
            refine hK.out _ _ ?_ (fun hNew => ?_)
            · (first | exact HK.out _ (Below.grown (And.left (by assumption)) (setCells_grown _ _ _ (World.grownBy.refl _ _)) (Below.size (And.left (by assumption))) (fun k hk => by cases hk; first | exact hN8 | exact hs8)) | exact HK.out _ ((Below.refl _ _).drew) | exact HK.out _ (And.left (by assumption)) | exact HK.out _ (Below.grown (And.left (by assumption)) hg7 (Below.size (And.left (by assumption))) hbk6) | exact HK.out _ (Below.trans (And.left (by assumption)) (hb8.mono (Below.size (And.left (by assumption))))) | exact HK.out _ (Below.alloc (And.left (by assumption)) (Below.size (And.left (by assumption))) _) | exact HK.out _ (Below.trans (And.left (by assumption)) (hb6.mono (Below.size (And.left (by assumption))))))
            clear hK K hHeld
            have hHeld := hNew
            clear hNew
            try simp only [Act.put, List.setIfInBounds_toArray, List.set_cons_zero, List.set_cons_succ]
            refine wpAnyH_ready (rs := [14]) (by kernel_rfl) (by simp) ?_
            refine AllReadyH.cons (arr_at rfl) (fun K hK => ?_) ?_
            ·
              go_simp
              refine hK.out _ _ ?_ (fun hNew => ?_)
              · (first | exact HK.out _ (Below.grown (And.left (by assumption)) (setCells_grown _ _ _ (World.grownBy.refl _ _)) (Below.size (And.left (by assumption))) (fun k hk => by cases hk; first | exact hN8 | exact hs8)) | exact HK.out _ ((Below.refl _ _).drew) | exact HK.out _ (And.left (by assumption)) | exact HK.out _ (Below.grown (And.left (by assumption)) hg7 (Below.size (And.left (by assumption))) hbk6) | exact HK.out _ (Below.trans (And.left (by assumption)) (hb8.mono (Below.size (And.left (by assumption))))) | exact HK.out _ (Below.alloc (And.left (by assumption)) (Below.size (And.left (by assumption))) _) | exact HK.out _ (Below.trans (And.left (by assumption)) (hb6.mono (Below.size (And.left (by assumption))))))
              clear hK K hHeld
              have hHeld := hNew
              clear hNew
              try simp only [Act.put]
              refine wpAnyH_take (i := 15) (v := ?_) (arr_at rfl) (by kernel_rfl) (by kernel_rfl) (by kernel_rfl) (fun _ _ _ h => h) (Or.inl ⟨by rfl, ?_⟩) hHeld ?_
              rotate_left
              · intro w hSw
                (try dsimp only at hSw)
                go_simp
                all_goals with_reducible rfl
              try simp only [Act.put, List.setIfInBounds_toArray, List.set_cons_zero, List.set_cons_succ]
              refine wpAnyH_done (by kernel_rfl) ?_ _
              refine NoPanic.normal ?_
              as_aux_lemma =>
                go_wp2_with fail
                refine (HAW.out _ (Below.trans HB5.out (Below.mono (And.left (by assumption)) HB5.out.size))).mono ?_; rintro e w9 ⟨rfl, hb9⟩
                go_wp2_with fail
                go_ret
                exact ⟨rfl, three_below HB5.out (And.left (by assumption)) hb9⟩
            exact AllReadyH.nil
          exact AllReadyH.nil
        refine AllReadyH.cons (arr_at rfl) (fun K hK => ?_) ?_
        ·
          go_simp
          refine hK.out _ _ ?_ (fun hNew => ?_)
          · (first | exact HK.out _ (Below.grown (And.left (by assumption)) (setCells_grown _ _ _ (World.grownBy.refl _ _)) (Below.size (And.left (by assumption))) (fun k hk => by cases hk; first | exact hN8 | exact hs8)) | exact HK.out _ ((Below.refl _ _).drew) | exact HK.out _ (And.left (by assumption)) | exact HK.out _ (Below.grown (And.left (by assumption)) hg7 (Below.size (And.left (by assumption))) hbk6) | exact HK.out _ (Below.trans (And.left (by assumption)) (hb8.mono (Below.size (And.left (by assumption))))) | exact HK.out _ (Below.alloc (And.left (by assumption)) (Below.size (And.left (by assumption))) _) | exact HK.out _ (Below.trans (And.left (by assumption)) (hb6.mono (Below.size (And.left (by assumption))))))
          clear hK K hHeld
          have hHeld := hNew
          clear hNew
          try simp only [Act.put, List.setIfInBounds_toArray, List.set_cons_zero, List.set_cons_succ]
          refine wpAnyH_ready (rs := [9]) (by kernel_rfl) (by simp) ?_
          refine AllReadyH.cons (arr_at rfl) (fun K hK => ?_) ?_
          ·
            go_simp
            go_at_call 12; refine (HC12.out _ _ B6 (m6 + 1) (And.left (by assumption)) (by omega) (by rw [strVs_snoc, ← HSB.out]; first | exact hown7 | exact hown7.alloc _)).mono ?_; rintro e w8 ⟨rfl, hb8⟩; have hs8 : w5.heap.size ≤ w8.heap.size := Nat.le_trans (Below.size (And.left (by assumption))) hb8.size; (first | (have hz8 := Z38.below hz7 hb8; have hst8 := hz8.run; have hN8 := hz8.1) | (have hz8 := Z38.below (Z38.new (w5 := w5) (X := w7) hown6 hs7 hs67) hb8; have hst8 := hz8.run; have hN8 := hz8.1) | skip)
            try go_wp2_with fail
            refine hK.out _ _ ?_ (fun hNew => ?_)
            · (first | exact HK.out _ (Below.grown (And.left (by assumption)) (setCells_grown _ _ _ (World.grownBy.refl _ _)) (Below.size (And.left (by assumption))) (fun k hk => by cases hk; first | exact hN8 | exact hs8)) | exact HK.out _ ((Below.refl _ _).drew) | exact HK.out _ (And.left (by assumption)) | exact HK.out _ (Below.grown (And.left (by assumption)) hg7 (Below.size (And.left (by assumption))) hbk6) | exact HK.out _ (Below.trans (And.left (by assumption)) (hb8.mono (Below.size (And.left (by assumption))))) | exact HK.out _ (Below.alloc (And.left (by assumption)) (Below.size (And.left (by assumption))) _) | exact HK.out _ (Below.trans (And.left (by assumption)) (hb6.mono (Below.size (And.left (by assumption))))))
            clear hK K hHeld
            have hHeld := hNew
            clear hNew
            try simp only [Act.put, List.setIfInBounds_toArray, List.set_cons_zero, List.set_cons_succ]
            refine wpAnyH_take (i := 10) (v := ?_) (arr_at rfl) (by kernel_rfl) (by kernel_rfl) (by kernel_rfl) (fun _ _ _ h => h) (Or.inl ⟨by rfl, ?_⟩) hHeld ?_
            rotate_left
            · intro w hSw
              (try dsimp only at hSw)
              go_simp
              all_goals with_reducible rfl
            try simp only [Act.put, List.setIfInBounds_toArray, List.set_cons_zero, List.set_cons_succ]
            refine wpAnyH_take (i := 11) (v := ?_) (arr_at rfl) (by kernel_rfl) (by kernel_rfl) (by kernel_rfl) (fun _ _ _ h => h) (Or.inl ⟨by rfl, ?_⟩) hHeld ?_
            rotate_left
            · intro w hSw
              (try dsimp only at hSw)
              go_simp
              all_goals with_reducible rfl
            try simp only [Act.put, List.setIfInBounds_toArray, List.set_cons_zero, List.set_cons_succ]
            refine wpAnyH_take (i := 12) (v := ?_) (arr_at rfl) (by kernel_rfl) (by kernel_rfl) (by kernel_rfl) (fun _ _ _ h => h) (Or.inl ⟨by rfl, ?_⟩) hHeld ?_
            rotate_left
            · intro w hSw
              (try dsimp only at hSw)
              go_simp
              all_goals with_reducible rfl
            try simp only [Act.put, List.setIfInBounds_toArray, List.set_cons_zero, List.set_cons_succ]
            refine wpAnyH_ready (rs := [14]) (by kernel_rfl) (by simp) ?_
            refine AllReadyH.cons (arr_at rfl) (fun K hK => ?_) ?_
            ·
              go_simp
              refine hK.out _ _ ?_ (fun hNew => ?_)
              · (first | exact HK.out _ (Below.grown (And.left (by assumption)) (setCells_grown _ _ _ (World.grownBy.refl _ _)) (Below.size (And.left (by assumption))) (fun k hk => by cases hk; first | exact hN8 | exact hs8)) | exact HK.out _ ((Below.refl _ _).drew) | exact HK.out _ (And.left (by assumption)) | exact HK.out _ (Below.grown (And.left (by assumption)) hg7 (Below.size (And.left (by assumption))) hbk6) | exact HK.out _ (Below.trans (And.left (by assumption)) (hb8.mono (Below.size (And.left (by assumption))))) | exact HK.out _ (Below.alloc (And.left (by assumption)) (Below.size (And.left (by assumption))) _) | exact HK.out _ (Below.trans (And.left (by assumption)) (hb6.mono (Below.size (And.left (by assumption))))))
              clear hK K hHeld
              have hHeld := hNew
              clear hNew
              try simp only [Act.put]
              refine wpAnyH_take (i := 15) (v := ?_) (arr_at rfl) (by kernel_rfl) (by kernel_rfl) (by kernel_rfl) (fun _ _ _ h => h) (Or.inl ⟨by rfl, ?_⟩) hHeld ?_
              rotate_left
              · intro w hSw
                (try dsimp only at hSw)
                go_simp
                all_goals with_reducible rfl
              try simp only [Act.put, List.setIfInBounds_toArray, List.set_cons_zero, List.set_cons_succ]
              refine wpAnyH_done (by kernel_rfl) ?_ _
              refine NoPanic.normal ?_
              as_aux_lemma =>
                go_wp2_with fail
                refine (HAW.out _ (Below.trans HB5.out (Below.mono (And.left (by assumption)) HB5.out.size))).mono ?_; rintro e w9 ⟨rfl, hb9⟩
                go_wp2_with fail
                go_ret
                exact ⟨rfl, three_below HB5.out (And.left (by assumption)) hb9⟩
            exact AllReadyH.nil
          exact AllReadyH.nil
        exact AllReadyH.nil
      refine AllReadyH.cons (arr_at rfl) (fun K hK => ?_) ?_
      ·
        go_simp
        refine hK.out _ _ ?_ (fun hNew => ?_)
        · (first | exact HK.out _ (Below.grown (And.left (by assumption)) (setCells_grown _ _ _ (World.grownBy.refl _ _)) (Below.size (And.left (by assumption))) (fun k hk => by cases hk; first | exact hN8 | exact hs8)) | exact HK.out _ ((Below.refl _ _).drew) | exact HK.out _ (And.left (by assumption)) | exact HK.out _ (Below.grown (And.left (by assumption)) hg7 (Below.size (And.left (by assumption))) hbk6) | exact HK.out _ (Below.trans (And.left (by assumption)) (hb8.mono (Below.size (And.left (by assumption))))) | exact HK.out _ (Below.alloc (And.left (by assumption)) (Below.size (And.left (by assumption))) _) | exact HK.out _ (Below.trans (And.left (by assumption)) (hb6.mono (Below.size (And.left (by assumption))))))
        clear hK K hHeld
        have hHeld := hNew
        clear hNew
        try simp only [Act.put, List.setIfInBounds_toArray, List.set_cons_zero, List.set_cons_succ]
        refine wpAnyH_ready (rs := [8]) (by kernel_rfl) (by simp) ?_
        refine AllReadyH.cons (arr_at rfl) (fun K hK => ?_) ?_
        ·
          refine step_append_lies _ rfl (.tmp 23) (.tmp 29) 41 rfl B6 9 i0 (.string ⟨#[]⟩) 1 16 Tryz.underlying41 HI.out.1 HI.out.2.1 HI.out.2.2.1 HI.out.2.2.2 rfl (by decide) v6 m6 (strVs SL) rfl (by first | exact hown6 | exact hown6.alloc _ | exact (hown6.alloc _).alloc _) _ _ _ [.string sb] rfl rfl (news1 (by first | exact cell_new rfl | exact (Joins.cell_alloc_mark_at _ _ _ _ _ _ (by simp)).trans rfl | exact (hb6.cell (by first | omega | (simp <;> omega))).trans ((Joins.cell_alloc_mark_at _ _ _ _ _ _ (by simp)).trans rfl) | exact (World.cell?_alloc_lt _ _ _ (by first | omega | (simp <;> omega))).trans (cell_new rfl) | exact (hb6.cell (by first | omega | (simp <;> omega))).trans (cell_new rfl) | exact (hb6.cell (by first | omega | (simp <;> omega))).trans ((World.cell?_alloc_lt _ _ _ (by first | omega | (simp <;> omega))).trans (cell_new rfl)) | exact (World.cell?_alloc_lt _ _ _ (Nat.lt_of_lt_of_le (by first | omega | (simp <;> omega)) hb6.size)).trans ((hb6.cell (by first | omega | (simp <;> omega))).trans (cell_new rfl)))) (by simp [Value.oneCell']) (by decide) (by simp only [maxLen]; omega) (by omega) (by first | exact hBl6 | (simp only [World.size_alloc]; omega)) _ rfl ?_; intro g7 c7 w7 hown7 hg7 hg7b hg7l; have hs7 : w5.heap.size ≤ w7.heap.size := Nat.le_trans (Below.size (And.left (by assumption))) hg7.size; have hs67 : w6.heap.size ≤ w7.heap.size := Nat.le_trans (by first | omega | (simp <;> omega)) hg7.size; (first | have hz7 := Z38.grown hz6 hg7 | have hz7 := Z38.grown (Z38.alloc hz6 _) hg7 | (have hz7 := Z38.grown (Z38.new (w5 := w5) hown6 (by first | omega | (simp <;> omega)) (by first | omega | (simp <;> omega))) hg7; (try simp at hz7)) | (have hz7 := Z38.grown (Z38.alloc (Z38.new (w5 := w5) hown6 (by first | omega | (simp <;> omega)) (by first | omega | (simp <;> omega))) _) hg7; (try simp at hz7)) | skip)
          refine hK.out _ _ ?_ (fun hNew => ?_)
          · (first | exact HK.out _ (Below.grown (And.left (by assumption)) (setCells_grown _ _ _ (World.grownBy.refl _ _)) (Below.size (And.left (by assumption))) (fun k hk => by cases hk; first | exact hN8 | exact hs8)) | exact HK.out _ ((Below.refl _ _).drew) | exact HK.out _ (And.left (by assumption)) | exact HK.out _ (Below.grown (And.left (by assumption)) hg7 (Below.size (And.left (by assumption))) hbk6) | exact HK.out _ (Below.trans (And.left (by assumption)) (hb8.mono (Below.size (And.left (by assumption))))) | exact HK.out _ (Below.alloc (And.left (by assumption)) (Below.size (And.left (by assumption))) _) | exact HK.out _ (Below.trans (And.left (by assumption)) (hb6.mono (Below.size (And.left (by assumption))))))
          clear hK K hHeld
          have hHeld := hNew
          clear hNew
          try simp only [Act.put, List.setIfInBounds_toArray, List.set_cons_zero, List.set_cons_succ]
          refine wpAnyH_ready (rs := [9]) (by kernel_rfl) (by simp) ?_
          refine AllReadyH.cons (arr_at rfl) (fun K hK => ?_) ?_
          ·
            go_simp
            go_at_call 12; refine (HC12.out _ _ B6 (m6 + 1) (And.left (by assumption)) (by omega) (by rw [strVs_snoc, ← HSB.out]; first | exact hown7 | exact hown7.alloc _)).mono ?_; rintro e w8 ⟨rfl, hb8⟩; have hs8 : w5.heap.size ≤ w8.heap.size := Nat.le_trans (Below.size (And.left (by assumption))) hb8.size; (first | (have hz8 := Z38.below hz7 hb8; have hst8 := hz8.run; have hN8 := hz8.1) | (have hz8 := Z38.below (Z38.new (w5 := w5) (X := w7) hown6 hs7 hs67) hb8; have hst8 := hz8.run; have hN8 := hz8.1) | skip)
            try go_wp2_with fail
            refine hK.out _ _ ?_ (fun hNew => ?_)
            · (first | exact HK.out _ (Below.grown (And.left (by assumption)) (setCells_grown _ _ _ (World.grownBy.refl _ _)) (Below.size (And.left (by assumption))) (fun k hk => by cases hk; first | exact hN8 | exact hs8)) | exact HK.out _ ((Below.refl _ _).drew) | exact HK.out _ (And.left (by assumption)) | exact HK.out _ (Below.grown (And.left (by assumption)) hg7 (Below.size (And.left (by assumption))) hbk6) | exact HK.out _ (Below.trans (And.left (by assumption)) (hb8.mono (Below.size (And.left (by assumption))))) | exact HK.out _ (Below.alloc (And.left (by assumption)) (Below.size (And.left (by assumption))) _) | exact HK.out _ (Below.trans (And.left (by assumption)) (hb6.mono (Below.size (And.left (by assumption))))))
            clear hK K hHeld
            have hHeld := hNew
            clear hNew
            try simp only [Act.put, List.setIfInBounds_toArray, List.set_cons_zero, List.set_cons_succ]
            refine wpAnyH_take (i := 10) (v := ?_) (arr_at rfl) (by kernel_rfl) (by kernel_rfl) (by kernel_rfl) (fun _ _ _ h => h) (Or.inl ⟨by rfl, ?_⟩) hHeld ?_
            rotate_left
            · intro w hSw
              (try dsimp only at hSw)
              go_simp
              all_goals with_reducible rfl
            try simp only [Act.put, List.setIfInBounds_toArray, List.set_cons_zero, List.set_cons_succ]
            refine wpAnyH_take (i := 11) (v := ?_) (arr_at rfl) (by kernel_rfl) (by kernel_rfl) (by kernel_rfl) (fun _ _ _ h => h) (Or.inl ⟨by rfl, ?_⟩) hHeld ?_
            rotate_left
            · intro w hSw
              (try dsimp only at hSw)
              go_simp
              all_goals with_reducible rfl
            try simp only [Act.put, List.setIfInBounds_toArray, List.set_cons_zero, List.set_cons_succ]
            refine wpAnyH_take (i := 12) (v := ?_) (arr_at rfl) (by kernel_rfl) (by kernel_rfl) (by kernel_rfl) (fun _ _ _ h => h) (Or.inl ⟨by rfl, ?_⟩) hHeld ?_
            rotate_left
            · intro w hSw
              (try dsimp only at hSw)
              go_simp
              all_goals with_reducible rfl
            try simp only [Act.put, List.setIfInBounds_toArray, List.set_cons_zero, List.set_cons_succ]
            refine wpAnyH_ready (rs := [14]) (by kernel_rfl) (by simp) ?_
            refine AllReadyH.cons (arr_at rfl) (fun K hK => ?_) ?_
            ·
              go_simp
              refine hK.out _ _ ?_ (fun hNew => ?_)
              · (first | exact HK.out _ (Below.grown (And.left (by assumption)) (setCells_grown _ _ _ (World.grownBy.refl _ _)) (Below.size (And.left (by assumption))) (fun k hk => by cases hk; first | exact hN8 | exact hs8)) | exact HK.out _ ((Below.refl _ _).drew) | exact HK.out _ (And.left (by assumption)) | exact HK.out _ (Below.grown (And.left (by assumption)) hg7 (Below.size (And.left (by assumption))) hbk6) | exact HK.out _ (Below.trans (And.left (by assumption)) (hb8.mono (Below.size (And.left (by assumption))))) | exact HK.out _ (Below.alloc (And.left (by assumption)) (Below.size (And.left (by assumption))) _) | exact HK.out _ (Below.trans (And.left (by assumption)) (hb6.mono (Below.size (And.left (by assumption))))))
              clear hK K hHeld
              have hHeld := hNew
              clear hNew
              try simp only [Act.put]
              refine wpAnyH_take (i := 15) (v := ?_) (arr_at rfl) (by kernel_rfl) (by kernel_rfl) (by kernel_rfl) (fun _ _ _ h => h) (Or.inl ⟨by rfl, ?_⟩) hHeld ?_
              rotate_left
              · intro w hSw
                (try dsimp only at hSw)
                go_simp
                all_goals with_reducible rfl
              try simp only [Act.put, List.setIfInBounds_toArray, List.set_cons_zero, List.set_cons_succ]
              refine wpAnyH_done (by kernel_rfl) ?_ _
              refine NoPanic.normal ?_
              as_aux_lemma =>
                go_wp2_with fail
                refine (HAW.out _ (Below.trans HB5.out (Below.mono (And.left (by assumption)) HB5.out.size))).mono ?_; rintro e w9 ⟨rfl, hb9⟩
                go_wp2_with fail
                go_ret
                exact ⟨rfl, three_below HB5.out (And.left (by assumption)) hb9⟩
            exact AllReadyH.nil
          exact AllReadyH.nil
        exact AllReadyH.nil
      exact AllReadyH.nil
    refine AllReadyH.cons (arr_at rfl) (fun K hK => ?_) ?_
    · as_aux_lemma =>
      go_simp
      refine hK.out _ _ ?_ (fun hNew => ?_)
      · (first | exact HK.out _ (Below.grown (And.left (by assumption)) (setCells_grown _ _ _ (World.grownBy.refl _ _)) (Below.size (And.left (by assumption))) (fun k hk => by cases hk; first | exact hN8 | exact hs8)) | exact HK.out _ ((Below.refl _ _).drew) | exact HK.out _ (And.left (by assumption)) | exact HK.out _ (Below.grown (And.left (by assumption)) hg7 (Below.size (And.left (by assumption))) hbk6) | exact HK.out _ (Below.trans (And.left (by assumption)) (hb8.mono (Below.size (And.left (by assumption))))) | exact HK.out _ (Below.alloc (And.left (by assumption)) (Below.size (And.left (by assumption))) _) | exact HK.out _ (Below.trans (And.left (by assumption)) (hb6.mono (Below.size (And.left (by assumption))))))
      clear hK K hHeld
      have hHeld := hNew
      clear hNew
      try simp only [Act.put, List.setIfInBounds_toArray, List.set_cons_zero, List.set_cons_succ]
      refine wpAnyH_ready (rs := [7]) (by kernel_rfl) (by simp) ?_
      refine AllReadyH.cons (arr_at rfl) (fun K hK => ?_) ?_
      ·
        go_simp
        refine hK.out _ _ ?_ (fun hNew => ?_)
        · (first | exact HK.out _ (Below.grown (And.left (by assumption)) (setCells_grown _ _ _ (World.grownBy.refl _ _)) (Below.size (And.left (by assumption))) (fun k hk => by cases hk; first | exact hN8 | exact hs8)) | exact HK.out _ ((Below.refl _ _).drew) | exact HK.out _ (And.left (by assumption)) | exact HK.out _ (Below.grown (And.left (by assumption)) hg7 (Below.size (And.left (by assumption))) hbk6) | exact HK.out _ (Below.trans (And.left (by assumption)) (hb8.mono (Below.size (And.left (by assumption))))) | exact HK.out _ (Below.alloc (And.left (by assumption)) (Below.size (And.left (by assumption))) _) | exact HK.out _ (Below.trans (And.left (by assumption)) (hb6.mono (Below.size (And.left (by assumption))))))
        clear hK K hHeld
        have hHeld := hNew
        clear hNew
        try simp only [Act.put, List.setIfInBounds_toArray, List.set_cons_zero, List.set_cons_succ]
        refine wpAnyH_ready (rs := [8]) (by kernel_rfl) (by simp) ?_
        refine AllReadyH.cons (arr_at rfl) (fun K hK => ?_) ?_
        ·
          refine step_append_lies _ rfl (.tmp 23) (.tmp 29) 41 rfl B6 9 i0 (.string ⟨#[]⟩) 1 16 Tryz.underlying41 HI.out.1 HI.out.2.1 HI.out.2.2.1 HI.out.2.2.2 rfl (by decide) v6 m6 (strVs SL) rfl (by first | exact hown6 | exact hown6.alloc _ | exact (hown6.alloc _).alloc _) _ _ _ [.string sb] rfl rfl (news1 (by first | exact cell_new rfl | exact (Joins.cell_alloc_mark_at _ _ _ _ _ _ (by simp)).trans rfl | exact (hb6.cell (by first | omega | (simp <;> omega))).trans ((Joins.cell_alloc_mark_at _ _ _ _ _ _ (by simp)).trans rfl) | exact (World.cell?_alloc_lt _ _ _ (by first | omega | (simp <;> omega))).trans (cell_new rfl) | exact (hb6.cell (by first | omega | (simp <;> omega))).trans (cell_new rfl) | exact (hb6.cell (by first | omega | (simp <;> omega))).trans ((World.cell?_alloc_lt _ _ _ (by first | omega | (simp <;> omega))).trans (cell_new rfl)) | exact (World.cell?_alloc_lt _ _ _ (Nat.lt_of_lt_of_le (by first | omega | (simp <;> omega)) hb6.size)).trans ((hb6.cell (by first | omega | (simp <;> omega))).trans (cell_new rfl)))) (by simp [Value.oneCell']) (by decide) (by simp only [maxLen]; omega) (by omega) (by first | exact hBl6 | (simp only [World.size_alloc]; omega)) _ rfl ?_; intro g7 c7 w7 hown7 hg7 hg7b hg7l; have hs7 : w5.heap.size ≤ w7.heap.size := Nat.le_trans (Below.size (And.left (by assumption))) hg7.size; have hs67 : w6.heap.size ≤ w7.heap.size := Nat.le_trans (by first | omega | (simp <;> omega)) hg7.size; (first | have hz7 := Z38.grown hz6 hg7 | have hz7 := Z38.grown (Z38.alloc hz6 _) hg7 | (have hz7 := Z38.grown (Z38.new (w5 := w5) hown6 (by first | omega | (simp <;> omega)) (by first | omega | (simp <;> omega))) hg7; (try simp at hz7)) | (have hz7 := Z38.grown (Z38.alloc (Z38.new (w5 := w5) hown6 (by first | omega | (simp <;> omega)) (by first | omega | (simp <;> omega))) _) hg7; (try simp at hz7)) | skip)
          refine hK.out _ _ ?_ (fun hNew => ?_)
          · (first | exact HK.out _ (Below.grown (And.left (by assumption)) (setCells_grown _ _ _ (World.grownBy.refl _ _)) (Below.size (And.left (by assumption))) (fun k hk => by cases hk; first | exact hN8 | exact hs8)) | exact HK.out _ ((Below.refl _ _).drew) | exact HK.out _ (And.left (by assumption)) | exact HK.out _ (Below.grown (And.left (by assumption)) hg7 (Below.size (And.left (by assumption))) hbk6) | exact HK.out _ (Below.trans (And.left (by assumption)) (hb8.mono (Below.size (And.left (by assumption))))) | exact HK.out _ (Below.alloc (And.left (by assumption)) (Below.size (And.left (by assumption))) _) | exact HK.out _ (Below.trans (And.left (by assumption)) (hb6.mono (Below.size (And.left (by assumption))))))
          clear hK K hHeld
          have hHeld := hNew
          clear hNew
          try simp only [Act.put, List.setIfInBounds_toArray, List.set_cons_zero, List.set_cons_succ]
          refine wpAnyH_ready (rs := [9]) (by kernel_rfl) (by simp) ?_
          refine AllReadyH.cons (arr_at rfl) (fun K hK => ?_) ?_
          ·
            go_simp
            go_at_call 12; refine (HC12.out _ _ B6 (m6 + 1) (And.left (by assumption)) (by omega) (by rw [strVs_snoc, ← HSB.out]; first | exact hown7 | exact hown7.alloc _)).mono ?_; rintro e w8 ⟨rfl, hb8⟩; have hs8 : w5.heap.size ≤ w8.heap.size := Nat.le_trans (Below.size (And.left (by assumption))) hb8.size; (first | (have hz8 := Z38.below hz7 hb8; have hst8 := hz8.run; have hN8 := hz8.1) | (have hz8 := Z38.below (Z38.new (w5 := w5) (X := w7) hown6 hs7 hs67) hb8; have hst8 := hz8.run; have hN8 := hz8.1) | skip)
            try go_wp2_with fail
            refine hK.out _ _ ?_ (fun hNew => ?_)
            · (first | exact HK.out _ (Below.grown (And.left (by assumption)) (setCells_grown _ _ _ (World.grownBy.refl _ _)) (Below.size (And.left (by assumption))) (fun k hk => by cases hk; first | exact hN8 | exact hs8)) | exact HK.out _ ((Below.refl _ _).drew) | exact HK.out _ (And.left (by assumption)) | exact HK.out _ (Below.grown (And.left (by assumption)) hg7 (Below.size (And.left (by assumption))) hbk6) | exact HK.out _ (Below.trans (And.left (by assumption)) (hb8.mono (Below.size (And.left (by assumption))))) | exact HK.out _ (Below.alloc (And.left (by assumption)) (Below.size (And.left (by assumption))) _) | exact HK.out _ (Below.trans (And.left (by assumption)) (hb6.mono (Below.size (And.left (by assumption))))))
            clear hK K hHeld
            have hHeld := hNew
            clear hNew
            try simp only [Act.put, List.setIfInBounds_toArray, List.set_cons_zero, List.set_cons_succ]
            refine wpAnyH_take (i := 10) (v := ?_) (arr_at rfl) (by kernel_rfl) (by kernel_rfl) (by kernel_rfl) (fun _ _ _ h => h) (Or.inl ⟨by rfl, ?_⟩) hHeld ?_
            rotate_left
            · intro w hSw
              (try dsimp only at hSw)
              go_simp
              all_goals with_reducible rfl
            try simp only [Act.put, List.setIfInBounds_toArray, List.set_cons_zero, List.set_cons_succ]
            refine wpAnyH_take (i := 11) (v := ?_) (arr_at rfl) (by kernel_rfl) (by kernel_rfl) (by kernel_rfl) (fun _ _ _ h => h) (Or.inl ⟨by rfl, ?_⟩) hHeld ?_
            rotate_left
            · intro w hSw
              (try dsimp only at hSw)
              go_simp
              all_goals with_reducible rfl
            try simp only [Act.put, List.setIfInBounds_toArray, List.set_cons_zero, List.set_cons_succ]
            refine wpAnyH_take (i := 12) (v := ?_) (arr_at rfl) (by kernel_rfl) (by kernel_rfl) (by kernel_rfl) (fun _ _ _ h => h) (Or.inl ⟨by rfl, ?_⟩) hHeld ?_
            rotate_left
            · intro w hSw
              (try dsimp only at hSw)
              go_simp
              all_goals with_reducible rfl
            try simp only [Act.put, List.setIfInBounds_toArray, List.set_cons_zero, List.set_cons_succ]
            refine wpAnyH_ready (rs := [14]) (by kernel_rfl) (by simp) ?_
            refine AllReadyH.cons (arr_at rfl) (fun K hK => ?_) ?_
            ·
              go_simp
              refine hK.out _ _ ?_ (fun hNew => ?_)
              · (first | exact HK.out _ (Below.grown (And.left (by assumption)) (setCells_grown _ _ _ (World.grownBy.refl _ _)) (Below.size (And.left (by assumption))) (fun k hk => by cases hk; first | exact hN8 | exact hs8)) | exact HK.out _ ((Below.refl _ _).drew) | exact HK.out _ (And.left (by assumption)) | exact HK.out _ (Below.grown (And.left (by assumption)) hg7 (Below.size (And.left (by assumption))) hbk6) | exact HK.out _ (Below.trans (And.left (by assumption)) (hb8.mono (Below.size (And.left (by assumption))))) | exact HK.out _ (Below.alloc (And.left (by assumption)) (Below.size (And.left (by assumption))) _) | exact HK.out _ (Below.trans (And.left (by assumption)) (hb6.mono (Below.size (And.left (by assumption))))))
              clear hK K hHeld
              have hHeld := hNew
              clear hNew
              try simp only [Act.put]
              refine wpAnyH_take (i := 15) (v := ?_) (arr_at rfl) (by kernel_rfl) (by kernel_rfl) (by kernel_rfl) (fun _ _ _ h => h) (Or.inl ⟨by rfl, ?_⟩) hHeld ?_
              rotate_left
              · intro w hSw
                (try dsimp only at hSw)
                go_simp
                all_goals with_reducible rfl
              try simp only [Act.put, List.setIfInBounds_toArray, List.set_cons_zero, List.set_cons_succ]
              refine wpAnyH_done (by kernel_rfl) ?_ _
              refine NoPanic.normal ?_
              as_aux_lemma =>
                go_wp2_with fail
                refine (HAW.out _ (Below.trans HB5.out (Below.mono (And.left (by assumption)) HB5.out.size))).mono ?_; rintro e w9 ⟨rfl, hb9⟩
                go_wp2_with fail
                go_ret
                exact ⟨rfl, three_below HB5.out (And.left (by assumption)) hb9⟩
            exact AllReadyH.nil
          exact AllReadyH.nil
        exact AllReadyH.nil
      exact AllReadyH.nil
    exact AllReadyH.nil
  refine AllReadyH.cons (arr_at rfl) (fun K hK => ?_) ?_
  · as_aux_lemma =>
    go_simp
    refine hK.out _ _ ?_ (fun hNew => ?_)
    · (first | exact HK.out _ (Below.grown (And.left (by assumption)) (setCells_grown _ _ _ (World.grownBy.refl _ _)) (Below.size (And.left (by assumption))) (fun k hk => by cases hk; first | exact hN8 | exact hs8)) | exact HK.out _ ((Below.refl _ _).drew) | exact HK.out _ (And.left (by assumption)) | exact HK.out _ (Below.grown (And.left (by assumption)) hg7 (Below.size (And.left (by assumption))) hbk6) | exact HK.out _ (Below.trans (And.left (by assumption)) (hb8.mono (Below.size (And.left (by assumption))))) | exact HK.out _ (Below.alloc (And.left (by assumption)) (Below.size (And.left (by assumption))) _) | exact HK.out _ (Below.trans (And.left (by assumption)) (hb6.mono (Below.size (And.left (by assumption))))))
    clear hK K hHeld
    have hHeld := hNew
    clear hNew
    try simp only [Act.put, List.setIfInBounds_toArray, List.set_cons_zero, List.set_cons_succ]
    refine wpAnyH_ready (rs := [1, 13]) (by kernel_rfl) (by simp) ?_
    refine AllReadyH.cons (arr_at rfl) (fun K hK => ?_) ?_
    · as_aux_lemma =>
      go_simp
      go_at_call 13; refine (HC13.out _ (And.left (by assumption))).mono ?_; rintro e w6 ⟨B6, v6, m6, rfl, hB6, hown6, hm6, hb6⟩; have hbk6 : ∀ k, v6.ownBlock = some k → w5.heap.size ≤ k := (fun k hk => Nat.le_trans (Below.size (And.left (by assumption))) (Nat.le_trans hB6 (own_base hown6 k hk))); have hBl6 : B6 ≤ w6.heap.size := own_top hown6 (by rw [← hm6]; exact HSP.out); have hm30 : m6 ≤ 30 := (by rw [← hm6]; exact HSL.out); have hs6 : w5.heap.size ≤ w6.heap.size := Nat.le_trans (Below.size (And.left (by assumption))) hb6.size; (first | (have hz6 := Z38.first (w5 := w5) (X := w5.drew) hown6 (Nat.le_refl _) (heap_alloc_new _ _) hB6 hb6; (try simp at hz6)) | (have hz6 := Z38.first (w5 := w5) (X := w5.drew) hown6 (Nat.le_refl _) ((heap_old (by simp)).trans (heap_alloc_new _ _)) hB6 hb6; (try simp at hz6)) | (have hz6 := Z38.first (w5 := w5) (X := w5.drew.alloc (.cells #[.string sb] 9)) hown6 (by simp) (heap_alloc_new _ _) hB6 hb6; (try simp at hz6)) | skip)
      try go_wp2_with fail
      refine hK.out _ _ ?_ (fun hNew => ?_)
      · (first | exact HK.out _ (Below.grown (And.left (by assumption)) (setCells_grown _ _ _ (World.grownBy.refl _ _)) (Below.size (And.left (by assumption))) (fun k hk => by cases hk; first | exact hN8 | exact hs8)) | exact HK.out _ ((Below.refl _ _).drew) | exact HK.out _ (And.left (by assumption)) | exact HK.out _ (Below.grown (And.left (by assumption)) hg7 (Below.size (And.left (by assumption))) hbk6) | exact HK.out _ (Below.trans (And.left (by assumption)) (hb8.mono (Below.size (And.left (by assumption))))) | exact HK.out _ (Below.alloc (And.left (by assumption)) (Below.size (And.left (by assumption))) _) | exact HK.out _ (Below.trans (And.left (by assumption)) (hb6.mono (Below.size (And.left (by assumption))))))
      clear hK K hHeld
      have hHeld := hNew
      clear hNew
      try simp only [Act.put, List.setIfInBounds_toArray, List.set_cons_zero, List.set_cons_succ]
      refine wpAnyH_ready (rs := [8, 13]) (by kernel_rfl) (by simp) ?_
      refine AllReadyH.cons (arr_at rfl) (fun K hK => ?_) ?_
      ·
        refine step_append_lies _ rfl (.tmp 23) (.tmp 29) 41 rfl B6 9 i0 (.string ⟨#[]⟩) 1 16 Tryz.underlying41 HI.out.1 HI.out.2.1 HI.out.2.2.1 HI.out.2.2.2 rfl (by decide) v6 m6 (strVs SL) rfl (by first | exact hown6 | exact hown6.alloc _ | exact (hown6.alloc _).alloc _) _ _ _ [.string sb] rfl rfl (news1 (by first | exact cell_new rfl | exact (Joins.cell_alloc_mark_at _ _ _ _ _ _ (by simp)).trans rfl | exact (hb6.cell (by first | omega | (simp <;> omega))).trans ((Joins.cell_alloc_mark_at _ _ _ _ _ _ (by simp)).trans rfl) | exact (World.cell?_alloc_lt _ _ _ (by first | omega | (simp <;> omega))).trans (cell_new rfl) | exact (hb6.cell (by first | omega | (simp <;> omega))).trans (cell_new rfl) | exact (hb6.cell (by first | omega | (simp <;> omega))).trans ((World.cell?_alloc_lt _ _ _ (by first | omega | (simp <;> omega))).trans (cell_new rfl)) | exact (World.cell?_alloc_lt _ _ _ (Nat.lt_of_lt_of_le (by first | omega | (simp <;> omega)) hb6.size)).trans ((hb6.cell (by first | omega | (simp <;> omega))).trans (cell_new rfl)))) (by simp [Value.oneCell']) (by decide) (by simp only [maxLen]; omega) (by omega) (by first | exact hBl6 | (simp only [World.size_alloc]; omega)) _ rfl ?_; intro g7 c7 w7 hown7 hg7 hg7b hg7l; have hs7 : w5.heap.size ≤ w7.heap.size := Nat.le_trans (Below.size (And.left (by assumption))) hg7.size; have hs67 : w6.heap.size ≤ w7.heap.size := Nat.le_trans (by first | omega | (simp <;> omega)) hg7.size; (first | have hz7 := Z38.grown hz6 hg7 | have hz7 := Z38.grown (Z38.alloc hz6 _) hg7 | (have hz7 := Z38.grown (Z38.new (w5 := w5) hown6 (by first | omega | (simp <;> omega)) (by first | omega | (simp <;> omega))) hg7; (try simp at hz7)) | (have hz7 := Z38.grown (Z38.alloc (Z38.new (w5 := w5) hown6 (by first | omega | (simp <;> omega)) (by first | omega | (simp <;> omega))) _) hg7; (try simp at hz7)) | skip)
        refine hK.out _ _ ?_ (fun hNew => ?_)
        · (first | exact HK.out _ (Below.grown (And.left (by assumption)) (setCells_grown _ _ _ (World.grownBy.refl _ _)) (Below.size (And.left (by assumption))) (fun k hk => by cases hk; first | exact hN8 | exact hs8)) | exact HK.out _ ((Below.refl _ _).drew) | exact HK.out _ (And.left (by assumption)) | exact HK.out _ (Below.grown (And.left (by assumption)) hg7 (Below.size (And.left (by assumption))) hbk6) | exact HK.out _ (Below.trans (And.left (by assumption)) (hb8.mono (Below.size (And.left (by assumption))))) | exact HK.out _ (Below.alloc (And.left (by assumption)) (Below.size (And.left (by assumption))) _) | exact HK.out _ (Below.trans (And.left (by assumption)) (hb6.mono (Below.size (And.left (by assumption))))))
        clear hK K hHeld
        have hHeld := hNew
        clear hNew
        try simp only [Act.put, List.setIfInBounds_toArray, List.set_cons_zero, List.set_cons_succ]
        refine wpAnyH_ready (rs := [9, 13]) (by kernel_rfl) (by simp) ?_
        refine AllReadyH.cons (arr_at rfl) (fun K hK => ?_) ?_
        ·
          go_simp
          go_at_call 12; refine (HC12.out _ _ B6 (m6 + 1) (And.left (by assumption)) (by omega) (by rw [strVs_snoc, ← HSB.out]; first | exact hown7 | exact hown7.alloc _)).mono ?_; rintro e w8 ⟨rfl, hb8⟩; have hs8 : w5.heap.size ≤ w8.heap.size := Nat.le_trans (Below.size (And.left (by assumption))) hb8.size; (first | (have hz8 := Z38.below hz7 hb8; have hst8 := hz8.run; have hN8 := hz8.1) | (have hz8 := Z38.below (Z38.new (w5 := w5) (X := w7) hown6 hs7 hs67) hb8; have hst8 := hz8.run; have hN8 := hz8.1) | skip)
          try go_wp2_with fail
          refine hK.out _ _ ?_ (fun hNew => ?_)
          · (first | exact HK.out _ (Below.grown (And.left (by assumption)) (setCells_grown _ _ _ (World.grownBy.refl _ _)) (Below.size (And.left (by assumption))) (fun k hk => by cases hk; first | exact hN8 | exact hs8)) | exact HK.out _ ((Below.refl _ _).drew) | exact HK.out _ (And.left (by assumption)) | exact HK.out _ (Below.grown (And.left (by assumption)) hg7 (Below.size (And.left (by assumption))) hbk6) | exact HK.out _ (Below.trans (And.left (by assumption)) (hb8.mono (Below.size (And.left (by assumption))))) | exact HK.out _ (Below.alloc (And.left (by assumption)) (Below.size (And.left (by assumption))) _) | exact HK.out _ (Below.trans (And.left (by assumption)) (hb6.mono (Below.size (And.left (by assumption))))))
          clear hK K hHeld
          have hHeld := hNew
          clear hNew
          try simp only [Act.put, List.setIfInBounds_toArray, List.set_cons_zero, List.set_cons_succ]
          refine wpAnyH_take (i := 10) (v := ?_) (arr_at rfl) (by kernel_rfl) (by kernel_rfl) (by kernel_rfl) (fun _ _ _ h => h) (Or.inl ⟨by rfl, ?_⟩) hHeld ?_
          rotate_left
          · intro w hSw
            (try dsimp only at hSw)
            go_simp
            all_goals with_reducible rfl
          try simp only [Act.put, List.setIfInBounds_toArray, List.set_cons_zero, List.set_cons_succ]
          refine wpAnyH_take (i := 11) (v := ?_) (arr_at rfl) (by kernel_rfl) (by kernel_rfl) (by kernel_rfl) (fun _ _ _ h => h) (Or.inl ⟨by rfl, ?_⟩) hHeld ?_
          rotate_left
          · intro w hSw
            (try dsimp only at hSw)
            go_simp
            all_goals with_reducible rfl
          try simp only [Act.put, List.setIfInBounds_toArray, List.set_cons_zero, List.set_cons_succ]
          refine wpAnyH_take (i := 12) (v := ?_) (arr_at rfl) (by kernel_rfl) (by kernel_rfl) (by kernel_rfl) (fun _ _ _ h => h) (Or.inl ⟨by rfl, ?_⟩) hHeld ?_
          rotate_left
          · intro w hSw
            (try dsimp only at hSw)
            go_simp
            all_goals with_reducible rfl
          try simp only [Act.put, List.setIfInBounds_toArray, List.set_cons_zero, List.set_cons_succ]
          refine wpAnyH_ready (rs := [13]) (by kernel_rfl) (by simp) ?_
          refine AllReadyH.cons (arr_at rfl) (fun K hK => ?_) ?_
          ·
            go_simp
            refine hK.out _ _ ?_ (fun hNew => ?_)
            · (first | exact HK.out _ (Below.grown (And.left (by assumption)) (setCells_grown _ _ _ (World.grownBy.refl _ _)) (Below.size (And.left (by assumption))) (fun k hk => by cases hk; first | exact hN8 | exact hs8)) | exact HK.out _ ((Below.refl _ _).drew) | exact HK.out _ (And.left (by assumption)) | exact HK.out _ (Below.grown (And.left (by assumption)) hg7 (Below.size (And.left (by assumption))) hbk6) | exact HK.out _ (Below.trans (And.left (by assumption)) (hb8.mono (Below.size (And.left (by assumption))))) | exact HK.out _ (Below.alloc (And.left (by assumption)) (Below.size (And.left (by assumption))) _) | exact HK.out _ (Below.trans (And.left (by assumption)) (hb6.mono (Below.size (And.left (by assumption))))))
            clear hK K hHeld
            have hHeld := hNew
            clear hNew
            try simp only [Act.put, List.setIfInBounds_toArray, List.set_cons_zero, List.set_cons_succ]
            refine wpAnyH_ready (rs := [14]) (by kernel_rfl) (by simp) ?_
            refine AllReadyH.cons (arr_at rfl) (fun K hK => ?_) ?_
            ·
              go_simp
              refine hK.out _ _ ?_ (fun hNew => ?_)
              · (first | exact HK.out _ (Below.grown (And.left (by assumption)) (setCells_grown _ _ _ (World.grownBy.refl _ _)) (Below.size (And.left (by assumption))) (fun k hk => by cases hk; first | exact hN8 | exact hs8)) | exact HK.out _ ((Below.refl _ _).drew) | exact HK.out _ (And.left (by assumption)) | exact HK.out _ (Below.grown (And.left (by assumption)) hg7 (Below.size (And.left (by assumption))) hbk6) | exact HK.out _ (Below.trans (And.left (by assumption)) (hb8.mono (Below.size (And.left (by assumption))))) | exact HK.out _ (Below.alloc (And.left (by assumption)) (Below.size (And.left (by assumption))) _) | exact HK.out _ (Below.trans (And.left (by assumption)) (hb6.mono (Below.size (And.left (by assumption))))))
              clear hK K hHeld
              have hHeld := hNew
              clear hNew
              try simp only [Act.put]
              refine wpAnyH_take (i := 15) (v := ?_) (arr_at rfl) (by kernel_rfl) (by kernel_rfl) (by kernel_rfl) (fun _ _ _ h => h) (Or.inl ⟨by rfl, ?_⟩) hHeld ?_
              rotate_left
              · intro w hSw
                (try dsimp only at hSw)
                go_simp
                all_goals with_reducible rfl
              try simp only [Act.put, List.setIfInBounds_toArray, List.set_cons_zero, List.set_cons_succ]
              refine wpAnyH_done (by kernel_rfl) ?_ _
              refine NoPanic.normal ?_
              as_aux_lemma =>
                go_wp2_with fail
                refine (HAW.out _ (Below.trans HB5.out (Below.mono (And.left (by assumption)) HB5.out.size))).mono ?_; rintro e w9 ⟨rfl, hb9⟩
                go_wp2_with fail
                go_ret
                exact ⟨rfl, three_below HB5.out (And.left (by assumption)) hb9⟩
            exact AllReadyH.nil
          exact AllReadyH.nil
        refine AllReadyH.cons (arr_at rfl) (fun K hK => ?_) ?_
        ·
          go_simp
          refine hK.out _ _ ?_ (fun hNew => ?_)
          · (first | exact HK.out _ (Below.grown (And.left (by assumption)) (setCells_grown _ _ _ (World.grownBy.refl _ _)) (Below.size (And.left (by assumption))) (fun k hk => by cases hk; first | exact hN8 | exact hs8)) | exact HK.out _ ((Below.refl _ _).drew) | exact HK.out _ (And.left (by assumption)) | exact HK.out _ (Below.grown (And.left (by assumption)) hg7 (Below.size (And.left (by assumption))) hbk6) | exact HK.out _ (Below.trans (And.left (by assumption)) (hb8.mono (Below.size (And.left (by assumption))))) | exact HK.out _ (Below.alloc (And.left (by assumption)) (Below.size (And.left (by assumption))) _) | exact HK.out _ (Below.trans (And.left (by assumption)) (hb6.mono (Below.size (And.left (by assumption))))))
          clear hK K hHeld
          have hHeld := hNew
          clear hNew
          try simp only [Act.put, List.setIfInBounds_toArray, List.set_cons_zero, List.set_cons_succ]
          refine wpAnyH_ready (rs := [9]) (by kernel_rfl) (by simp) ?_
          refine AllReadyH.cons (arr_at rfl) (fun K hK => ?_) ?_
          ·
            go_simp
            go_at_call 12; refine (HC12.out _ _ B6 (m6 + 1) (And.left (by assumption)) (by omega) (by rw [strVs_snoc, ← HSB.out]; first | exact hown7 | exact hown7.alloc _)).mono ?_; rintro e w8 ⟨rfl, hb8⟩; have hs8 : w5.heap.size ≤ w8.heap.size := Nat.le_trans (Below.size (And.left (by assumption))) hb8.size; (first | (have hz8 := Z38.below hz7 hb8; have hst8 := hz8.run; have hN8 := hz8.1) | (have hz8 := Z38.below (Z38.new (w5 := w5) (X := w7) hown6 hs7 hs67) hb8; have hst8 := hz8.run; have hN8 := hz8.1) | skip)
            try go_wp2_with fail
            refine hK.out _ _ ?_ (fun hNew => ?_)
            · (first | exact HK.out _ (Below.grown (And.left (by assumption)) (setCells_grown _ _ _ (World.grownBy.refl _ _)) (Below.size (And.left (by assumption))) (fun k hk => by cases hk; first | exact hN8 | exact hs8)) | exact HK.out _ ((Below.refl _ _).drew) | exact HK.out _ (And.left (by assumption)) | exact HK.out _ (Below.grown (And.left (by assumption)) hg7 (Below.size (And.left (by assumption))) hbk6) | exact HK.out _ (Below.trans (And.left (by assumption)) (hb8.mono (Below.size (And.left (by assumption))))) | exact HK.out _ (Below.alloc (And.left (by assumption)) (Below.size (And.left (by assumption))) _) | exact HK.out _ (Below.trans (And.left (by assumption)) (hb6.mono (Below.size (And.left (by assumption))))))
            clear hK K hHeld
            have hHeld := hNew
            clear hNew
            try simp only [Act.put, List.setIfInBounds_toArray, List.set_cons_zero, List.set_cons_succ]
            refine wpAnyH_take (i := 10) (v := ?_) (arr_at rfl) (by kernel_rfl) (by kernel_rfl) (by kernel_rfl) (fun _ _ _ h => h) (Or.inl ⟨by rfl, ?_⟩) hHeld ?_
            rotate_left
            · intro w hSw
              (try dsimp only at hSw)
              go_simp
              all_goals with_reducible rfl
            try simp only [Act.put, List.setIfInBounds_toArray, List.set_cons_zero, List.set_cons_succ]
            refine wpAnyH_take (i := 11) (v := ?_) (arr_at rfl) (by kernel_rfl) (by kernel_rfl) (by kernel_rfl) (fun _ _ _ h => h) (Or.inl ⟨by rfl, ?_⟩) hHeld ?_
            rotate_left
            · intro w hSw
              (try dsimp only at hSw)
              go_simp
              all_goals with_reducible rfl
            try simp only [Act.put, List.setIfInBounds_toArray, List.set_cons_zero, List.set_cons_succ]
            refine wpAnyH_take (i := 12) (v := ?_) (arr_at rfl) (by kernel_rfl) (by kernel_rfl) (by kernel_rfl) (fun _ _ _ h => h) (Or.inl ⟨by rfl, ?_⟩) hHeld ?_
            rotate_left
            · intro w hSw
              (try dsimp only at hSw)
              go_simp
              all_goals with_reducible rfl
            try simp only [Act.put, List.setIfInBounds_toArray, List.set_cons_zero, List.set_cons_succ]
            refine wpAnyH_ready (rs := [14]) (by kernel_rfl) (by simp) ?_
            refine AllReadyH.cons (arr_at rfl) (fun K hK => ?_) ?_
            ·
              go_simp
              refine hK.out _ _ ?_ (fun hNew => ?_)
              · (first | exact HK.out _ (Below.grown (And.left (by assumption)) (setCells_grown _ _ _ (World.grownBy.refl _ _)) (Below.size (And.left (by assumption))) (fun k hk => by cases hk; first | exact hN8 | exact hs8)) | exact HK.out _ ((Below.refl _ _).drew) | exact HK.out _ (And.left (by assumption)) | exact HK.out _ (Below.grown (And.left (by assumption)) hg7 (Below.size (And.left (by assumption))) hbk6) | exact HK.out _ (Below.trans (And.left (by assumption)) (hb8.mono (Below.size (And.left (by assumption))))) | exact HK.out _ (Below.alloc (And.left (by assumption)) (Below.size (And.left (by assumption))) _) | exact HK.out _ (Below.trans (And.left (by assumption)) (hb6.mono (Below.size (And.left (by assumption))))))
              clear hK K hHeld
              have hHeld := hNew
              clear hNew
              try simp only [Act.put]
              refine wpAnyH_take (i := 15) (v := ?_) (arr_at rfl) (by kernel_rfl) (by kernel_rfl) (by kernel_rfl) (fun _ _ _ h => h) (Or.inl ⟨by rfl, ?_⟩) hHeld ?_
              rotate_left
              · intro w hSw
                (try dsimp only at hSw)
                go_simp
                all_goals with_reducible rfl
              try simp only [Act.put, List.setIfInBounds_toArray, List.set_cons_zero, List.set_cons_succ]
              refine wpAnyH_done (by kernel_rfl) ?_ _
              refine NoPanic.normal ?_
              as_aux_lemma =>
                go_wp2_with fail
                refine (HAW.out _ (Below.trans HB5.out (Below.mono (And.left (by assumption)) HB5.out.size))).mono ?_; rintro e w9 ⟨rfl, hb9⟩
                go_wp2_with fail
                go_ret
                exact ⟨rfl, three_below HB5.out (And.left (by assumption)) hb9⟩
            exact AllReadyH.nil
          exact AllReadyH.nil
        exact AllReadyH.nil
      refine AllReadyH.cons (arr_at rfl) (fun K hK => ?_) ?_
      ·
        go_simp
        refine hK.out _ _ ?_ (fun hNew => ?_)
        · (first | exact HK.out _ (Below.grown (And.left (by assumption)) (setCells_grown _ _ _ (World.grownBy.refl _ _)) (Below.size (And.left (by assumption))) (fun k hk => by cases hk; first | exact hN8 | exact hs8)) | exact HK.out _ ((Below.refl _ _).drew) | exact HK.out _ (And.left (by assumption)) | exact HK.out _ (Below.grown (And.left (by assumption)) hg7 (Below.size (And.left (by assumption))) hbk6) | exact HK.out _ (Below.trans (And.left (by assumption)) (hb8.mono (Below.size (And.left (by assumption))))) | exact HK.out _ (Below.alloc (And.left (by assumption)) (Below.size (And.left (by assumption))) _) | exact HK.out _ (Below.trans (And.left (by assumption)) (hb6.mono (Below.size (And.left (by assumption))))))
        clear hK K hHeld
        have hHeld := hNew
        clear hNew
        try simp only [Act.put, List.setIfInBounds_toArray, List.set_cons_zero, List.set_cons_succ]
        refine wpAnyH_ready (rs := [8]) (by kernel_rfl) (by simp) ?_
        refine AllReadyH.cons (arr_at rfl) (fun K hK => ?_) ?_
        ·
          refine step_append_lies _ rfl (.tmp 23) (.tmp 29) 41 rfl B6 9 i0 (.string ⟨#[]⟩) 1 16 Tryz.underlying41 HI.out.1 HI.out.2.1 HI.out.2.2.1 HI.out.2.2.2 rfl (by decide) v6 m6 (strVs SL) rfl (by first | exact hown6 | exact hown6.alloc _ | exact (hown6.alloc _).alloc _) _ _ _ [.string sb] rfl rfl (news1 (by first | exact cell_new rfl | exact (Joins.cell_alloc_mark_at _ _ _ _ _ _ (by simp)).trans rfl | exact (hb6.cell (by first | omega | (simp <;> omega))).trans ((Joins.cell_alloc_mark_at _ _ _ _ _ _ (by simp)).trans rfl) | exact (World.cell?_alloc_lt _ _ _ (by first | omega | (simp <;> omega))).trans (cell_new rfl) | exact (hb6.cell (by first | omega | (simp <;> omega))).trans (cell_new rfl) | exact (hb6.cell (by first | omega | (simp <;> omega))).trans ((World.cell?_alloc_lt _ _ _ (by first | omega | (simp <;> omega))).trans (cell_new rfl)) | exact (World.cell?_alloc_lt _ _ _ (Nat.lt_of_lt_of_le (by first | omega | (simp <;> omega)) hb6.size)).trans ((hb6.cell (by first | omega | (simp <;> omega))).trans (cell_new rfl)))) (by simp [Value.oneCell']) (by decide) (by simp only [maxLen]; omega) (by omega) (by first | exact hBl6 | (simp only [World.size_alloc]; omega)) _ rfl ?_; intro g7 c7 w7 hown7 hg7 hg7b hg7l; have hs7 : w5.heap.size ≤ w7.heap.size := Nat.le_trans (Below.size (And.left (by assumption))) hg7.size; have hs67 : w6.heap.size ≤ w7.heap.size := Nat.le_trans (by first | omega | (simp <;> omega)) hg7.size; (first | have hz7 := Z38.grown hz6 hg7 | have hz7 := Z38.grown (Z38.alloc hz6 _) hg7 | (have hz7 := Z38.grown (Z38.new (w5 := w5) hown6 (by first | omega | (simp <;> omega)) (by first | omega | (simp <;> omega))) hg7; (try simp at hz7)) | (have hz7 := Z38.grown (Z38.alloc (Z38.new (w5 := w5) hown6 (by first | omega | (simp <;> omega)) (by first | omega | (simp <;> omega))) _) hg7; (try simp at hz7)) | skip)
          refine hK.out _ _ ?_ (fun hNew => ?_)
          · (first | exact HK.out _ (Below.grown (And.left (by assumption)) (setCells_grown _ _ _ (World.grownBy.refl _ _)) (Below.size (And.left (by assumption))) (fun k hk => by cases hk; first | exact hN8 | exact hs8)) | exact HK.out _ ((Below.refl _ _).drew) | exact HK.out _ (And.left (by assumption)) | exact HK.out _ (Below.grown (And.left (by assumption)) hg7 (Below.size (And.left (by assumption))) hbk6) | exact HK.out _ (Below.trans (And.left (by assumption)) (hb8.mono (Below.size (And.left (by assumption))))) | exact HK.out _ (Below.alloc (And.left (by assumption)) (Below.size (And.left (by assumption))) _) | exact HK.out _ (Below.trans (And.left (by assumption)) (hb6.mono (Below.size (And.left (by assumption))))))
          clear hK K hHeld
          have hHeld := hNew
          clear hNew
          try simp only [Act.put, List.setIfInBounds_toArray, List.set_cons_zero, List.set_cons_succ]
          refine wpAnyH_ready (rs := [9]) (by kernel_rfl) (by simp) ?_
          refine AllReadyH.cons (arr_at rfl) (fun K hK => ?_) ?_
          ·
            go_simp
            go_at_call 12; refine (HC12.out _ _ B6 (m6 + 1) (And.left (by assumption)) (by omega) (by rw [strVs_snoc, ← HSB.out]; first | exact hown7 | exact hown7.alloc _)).mono ?_; rintro e w8 ⟨rfl, hb8⟩; have hs8 : w5.heap.size ≤ w8.heap.size := Nat.le_trans (Below.size (And.left (by assumption))) hb8.size; (first | (have hz8 := Z38.below hz7 hb8; have hst8 := hz8.run; have hN8 := hz8.1) | (have hz8 := Z38.below (Z38.new (w5 := w5) (X := w7) hown6 hs7 hs67) hb8; have hst8 := hz8.run; have hN8 := hz8.1) | skip)
            try go_wp2_with fail
            refine hK.out _ _ ?_ (fun hNew => ?_)
            · (first | exact HK.out _ (Below.grown (And.left (by assumption)) (setCells_grown _ _ _ (World.grownBy.refl _ _)) (Below.size (And.left (by assumption))) (fun k hk => by cases hk; first | exact hN8 | exact hs8)) | exact HK.out _ ((Below.refl _ _).drew) | exact HK.out _ (And.left (by assumption)) | exact HK.out _ (Below.grown (And.left (by assumption)) hg7 (Below.size (And.left (by assumption))) hbk6) | exact HK.out _ (Below.trans (And.left (by assumption)) (hb8.mono (Below.size (And.left (by assumption))))) | exact HK.out _ (Below.alloc (And.left (by assumption)) (Below.size (And.left (by assumption))) _) | exact HK.out _ (Below.trans (And.left (by assumption)) (hb6.mono (Below.size (And.left (by assumption))))))
            clear hK K hHeld
            have hHeld := hNew
            clear hNew
            try simp only [Act.put, List.setIfInBounds_toArray, List.set_cons_zero, List.set_cons_succ]
            refine wpAnyH_take (i := 10) (v := ?_) (arr_at rfl) (by kernel_rfl) (by kernel_rfl) (by kernel_rfl) (fun _ _ _ h => h) (Or.inl ⟨by rfl, ?_⟩) hHeld ?_
            rotate_left
            · intro w hSw
              (try dsimp only at hSw)
              go_simp
              all_goals with_reducible rfl
            try simp only [Act.put, List.setIfInBounds_toArray, List.set_cons_zero, List.set_cons_succ]
            refine wpAnyH_take (i := 11) (v := ?_) (arr_at rfl) (by kernel_rfl) (by kernel_rfl) (by kernel_rfl) (fun _ _ _ h => h) (Or.inl ⟨by rfl, ?_⟩) hHeld ?_
            rotate_left
            · intro w hSw
              (try dsimp only at hSw)
              go_simp
              all_goals with_reducible rfl
            try simp only [Act.put, List.setIfInBounds_toArray, List.set_cons_zero, List.set_cons_succ]
            refine wpAnyH_take (i := 12) (v := ?_) (arr_at rfl) (by kernel_rfl) (by kernel_rfl) (by kernel_rfl) (fun _ _ _ h => h) (Or.inl ⟨by rfl, ?_⟩) hHeld ?_
            rotate_left
            · intro w hSw
              (try dsimp only at hSw)
              go_simp
              all_goals with_reducible rfl
            try simp only [Act.put, List.setIfInBounds_toArray, List.set_cons_zero, List.set_cons_succ]
            refine wpAnyH_ready (rs := [14]) (by kernel_rfl) (by simp) ?_
            refine AllReadyH.cons (arr_at rfl) (fun K hK => ?_) ?_
            ·
              go_simp
              refine hK.out _ _ ?_ (fun hNew => ?_)
              · (first | exact HK.out _ (Below.grown (And.left (by assumption)) (setCells_grown _ _ _ (World.grownBy.refl _ _)) (Below.size (And.left (by assumption))) (fun k hk => by cases hk; first | exact hN8 | exact hs8)) | exact HK.out _ ((Below.refl _ _).drew) | exact HK.out _ (And.left (by assumption)) | exact HK.out _ (Below.grown (And.left (by assumption)) hg7 (Below.size (And.left (by assumption))) hbk6) | exact HK.out _ (Below.trans (And.left (by assumption)) (hb8.mono (Below.size (And.left (by assumption))))) | exact HK.out _ (Below.alloc (And.left (by assumption)) (Below.size (And.left (by assumption))) _) | exact HK.out _ (Below.trans (And.left (by assumption)) (hb6.mono (Below.size (And.left (by assumption))))))
              clear hK K hHeld
              have hHeld := hNew
              clear hNew
              try simp only [Act.put]
              refine wpAnyH_take (i := 15) (v := ?_) (arr_at rfl) (by kernel_rfl) (by kernel_rfl) (by kernel_rfl) (fun _ _ _ h => h) (Or.inl ⟨by rfl, ?_⟩) hHeld ?_
              rotate_left
              · intro w hSw
                (try dsimp only at hSw)
                go_simp
                all_goals with_reducible rfl
              try simp only [Act.put, List.setIfInBounds_toArray, List.set_cons_zero, List.set_cons_succ]
              refine wpAnyH_done (by kernel_rfl) ?_ _
              refine NoPanic.normal ?_
              as_aux_lemma =>
                go_wp2_with fail
                refine (HAW.out _ (Below.trans HB5.out (Below.mono (And.left (by assumption)) HB5.out.size))).mono ?_; rintro e w9 ⟨rfl, hb9⟩
                go_wp2_with fail
                go_ret
                exact ⟨rfl, three_below HB5.out (And.left (by assumption)) hb9⟩
            exact AllReadyH.nil
          exact AllReadyH.nil
        exact AllReadyH.nil
      exact AllReadyH.nil
    refine AllReadyH.cons (arr_at rfl) (fun K hK => ?_) ?_
    · as_aux_lemma =>
      go_simp
      refine hK.out _ _ ?_ (fun hNew => ?_)
      · (first | exact HK.out _ (Below.grown (And.left (by assumption)) (setCells_grown _ _ _ (World.grownBy.refl _ _)) (Below.size (And.left (by assumption))) (fun k hk => by cases hk; first | exact hN8 | exact hs8)) | exact HK.out _ ((Below.refl _ _).drew) | exact HK.out _ (And.left (by assumption)) | exact HK.out _ (Below.grown (And.left (by assumption)) hg7 (Below.size (And.left (by assumption))) hbk6) | exact HK.out _ (Below.trans (And.left (by assumption)) (hb8.mono (Below.size (And.left (by assumption))))) | exact HK.out _ (Below.alloc (And.left (by assumption)) (Below.size (And.left (by assumption))) _) | exact HK.out _ (Below.trans (And.left (by assumption)) (hb6.mono (Below.size (And.left (by assumption))))))
      clear hK K hHeld
      have hHeld := hNew
      clear hNew
      try simp only [Act.put, List.setIfInBounds_toArray, List.set_cons_zero, List.set_cons_succ]
      refine wpAnyH_ready (rs := [1]) (by kernel_rfl) (by simp) ?_
      refine AllReadyH.cons (arr_at rfl) (fun K hK => ?_) ?_
      ·
        go_simp
        go_at_call 13; refine (HC13.out _ (And.left (by assumption))).mono ?_; rintro e w6 ⟨B6, v6, m6, rfl, hB6, hown6, hm6, hb6⟩; have hbk6 : ∀ k, v6.ownBlock = some k → w5.heap.size ≤ k := (fun k hk => Nat.le_trans (Below.size (And.left (by assumption))) (Nat.le_trans hB6 (own_base hown6 k hk))); have hBl6 : B6 ≤ w6.heap.size := own_top hown6 (by rw [← hm6]; exact HSP.out); have hm30 : m6 ≤ 30 := (by rw [← hm6]; exact HSL.out); have hs6 : w5.heap.size ≤ w6.heap.size := Nat.le_trans (Below.size (And.left (by assumption))) hb6.size; (first | (have hz6 := Z38.first (w5 := w5) (X := w5.drew) hown6 (Nat.le_refl _) (heap_alloc_new _ _) hB6 hb6; (try simp at hz6)) | (have hz6 := Z38.first (w5 := w5) (X := w5.drew) hown6 (Nat.le_refl _) ((heap_old (by simp)).trans (heap_alloc_new _ _)) hB6 hb6; (try simp at hz6)) | (have hz6 := Z38.first (w5 := w5) (X := w5.drew.alloc (.cells #[.string sb] 9)) hown6 (by simp) (heap_alloc_new _ _) hB6 hb6; (try simp at hz6)) | skip)
        try go_wp2_with fail
        refine hK.out _ _ ?_ (fun hNew => ?_)
        · (first | exact HK.out _ (Below.grown (And.left (by assumption)) (setCells_grown _ _ _ (World.grownBy.refl _ _)) (Below.size (And.left (by assumption))) (fun k hk => by cases hk; first | exact hN8 | exact hs8)) | exact HK.out _ ((Below.refl _ _).drew) | exact HK.out _ (And.left (by assumption)) | exact HK.out _ (Below.grown (And.left (by assumption)) hg7 (Below.size (And.left (by assumption))) hbk6) | exact HK.out _ (Below.trans (And.left (by assumption)) (hb8.mono (Below.size (And.left (by assumption))))) | exact HK.out _ (Below.alloc (And.left (by assumption)) (Below.size (And.left (by assumption))) _) | exact HK.out _ (Below.trans (And.left (by assumption)) (hb6.mono (Below.size (And.left (by assumption))))))
        clear hK K hHeld
        have hHeld := hNew
        clear hNew
        try simp only [Act.put, List.setIfInBounds_toArray, List.set_cons_zero, List.set_cons_succ]
        refine wpAnyH_ready (rs := [8]) (by kernel_rfl) (by simp) ?_
        refine AllReadyH.cons (arr_at rfl) (fun K hK => ?_) ?_
        ·
          refine step_append_lies _ rfl (.tmp 23) (.tmp 29) 41 rfl B6 9 i0 (.string ⟨#[]⟩) 1 16 Tryz.underlying41 HI.out.1 HI.out.2.1 HI.out.2.2.1 HI.out.2.2.2 rfl (by decide) v6 m6 (strVs SL) rfl (by first | exact hown6 | exact hown6.alloc _ | exact (hown6.alloc _).alloc _) _ _ _ [.string sb] rfl rfl (news1 (by first | exact cell_new rfl | exact (Joins.cell_alloc_mark_at _ _ _ _ _ _ (by simp)).trans rfl | exact (hb6.cell (by first | omega | (simp <;> omega))).trans ((Joins.cell_alloc_mark_at _ _ _ _ _ _ (by simp)).trans rfl) | exact (World.cell?_alloc_lt _ _ _ (by first | omega | (simp <;> omega))).trans (cell_new rfl) | exact (hb6.cell (by first | omega | (simp <;> omega))).trans (cell_new rfl) | exact (hb6.cell (by first | omega | (simp <;> omega))).trans ((World.cell?_alloc_lt _ _ _ (by first | omega | (simp <;> omega))).trans (cell_new rfl)) | exact (World.cell?_alloc_lt _ _ _ (Nat.lt_of_lt_of_le (by first | omega | (simp <;> omega)) hb6.size)).trans ((hb6.cell (by first | omega | (simp <;> omega))).trans (cell_new rfl)))) (by simp [Value.oneCell']) (by decide) (by simp only [maxLen]; omega) (by omega) (by first | exact hBl6 | (simp only [World.size_alloc]; omega)) _ rfl ?_; intro g7 c7 w7 hown7 hg7 hg7b hg7l; have hs7 : w5.heap.size ≤ w7.heap.size := Nat.le_trans (Below.size (And.left (by assumption))) hg7.size; have hs67 : w6.heap.size ≤ w7.heap.size := Nat.le_trans (by first | omega | (simp <;> omega)) hg7.size; (first | have hz7 := Z38.grown hz6 hg7 | have hz7 := Z38.grown (Z38.alloc hz6 _) hg7 | (have hz7 := Z38.grown (Z38.new (w5 := w5) hown6 (by first | omega | (simp <;> omega)) (by first | omega | (simp <;> omega))) hg7; (try simp at hz7)) | (have hz7 := Z38.grown (Z38.alloc (Z38.new (w5 := w5) hown6 (by first | omega | (simp <;> omega)) (by first | omega | (simp <;> omega))) _) hg7; (try simp at hz7)) | skip)
          refine hK.out _ _ ?_ (fun hNew => ?_)
          · (first | exact HK.out _ (Below.grown (And.left (by assumption)) (setCells_grown _ _ _ (World.grownBy.refl _ _)) (Below.size (And.left (by assumption))) (fun k hk => by cases hk; first | exact hN8 | exact hs8)) | exact HK.out _ ((Below.refl _ _).drew) | exact HK.out _ (And.left (by assumption)) | exact HK.out _ (Below.grown (And.left (by assumption)) hg7 (Below.size (And.left (by assumption))) hbk6) | exact HK.out _ (Below.trans (And.left (by assumption)) (hb8.mono (Below.size (And.left (by assumption))))) | exact HK.out _ (Below.alloc (And.left (by assumption)) (Below.size (And.left (by assumption))) _) | exact HK.out _ (Below.trans (And.left (by assumption)) (hb6.mono (Below.size (And.left (by assumption))))))
          clear hK K hHeld
          have hHeld := hNew
          clear hNew
          try simp only [Act.put, List.setIfInBounds_toArray, List.set_cons_zero, List.set_cons_succ]
          refine wpAnyH_ready (rs := [9]) (by kernel_rfl) (by simp) ?_
          refine AllReadyH.cons (arr_at rfl) (fun K hK => ?_) ?_
          ·
            go_simp
            go_at_call 12; refine (HC12.out _ _ B6 (m6 + 1) (And.left (by assumption)) (by omega) (by rw [strVs_snoc, ← HSB.out]; first | exact hown7 | exact hown7.alloc _)).mono ?_; rintro e w8 ⟨rfl, hb8⟩; have hs8 : w5.heap.size ≤ w8.heap.size := Nat.le_trans (Below.size (And.left (by assumption))) hb8.size; (first | (have hz8 := Z38.below hz7 hb8; have hst8 := hz8.run; have hN8 := hz8.1) | (have hz8 := Z38.below (Z38.new (w5 := w5) (X := w7) hown6 hs7 hs67) hb8; have hst8 := hz8.run; have hN8 := hz8.1) | skip)
            try go_wp2_with fail
            refine hK.out _ _ ?_ (fun hNew => ?_)
            · (first | exact HK.out _ (Below.grown (And.left (by assumption)) (setCells_grown _ _ _ (World.grownBy.refl _ _)) (Below.size (And.left (by assumption))) (fun k hk => by cases hk; first | exact hN8 | exact hs8)) | exact HK.out _ ((Below.refl _ _).drew) | exact HK.out _ (And.left (by assumption)) | exact HK.out _ (Below.grown (And.left (by assumption)) hg7 (Below.size (And.left (by assumption))) hbk6) | exact HK.out _ (Below.trans (And.left (by assumption)) (hb8.mono (Below.size (And.left (by assumption))))) | exact HK.out _ (Below.alloc (And.left (by assumption)) (Below.size (And.left (by assumption))) _) | exact HK.out _ (Below.trans (And.left (by assumption)) (hb6.mono (Below.size (And.left (by assumption))))))
            clear hK K hHeld
            have hHeld := hNew
            clear hNew
            try simp only [Act.put, List.setIfInBounds_toArray, List.set_cons_zero, List.set_cons_succ]
            refine wpAnyH_take (i := 10) (v := ?_) (arr_at rfl) (by kernel_rfl) (by kernel_rfl) (by kernel_rfl) (fun _ _ _ h => h) (Or.inl ⟨by rfl, ?_⟩) hHeld ?_
            rotate_left
            · intro w hSw
              (try dsimp only at hSw)
              go_simp
              all_goals with_reducible rfl
            try simp only [Act.put, List.setIfInBounds_toArray, List.set_cons_zero, List.set_cons_succ]
            refine wpAnyH_take (i := 11) (v := ?_) (arr_at rfl) (by kernel_rfl) (by kernel_rfl) (by kernel_rfl) (fun _ _ _ h => h) (Or.inl ⟨by rfl, ?_⟩) hHeld ?_
            rotate_left
            · intro w hSw
              (try dsimp only at hSw)
              go_simp
              all_goals with_reducible rfl
            try simp only [Act.put, List.setIfInBounds_toArray, List.set_cons_zero, List.set_cons_succ]
            refine wpAnyH_take (i := 12) (v := ?_) (arr_at rfl) (by kernel_rfl) (by kernel_rfl) (by kernel_rfl) (fun _ _ _ h => h) (Or.inl ⟨by rfl, ?_⟩) hHeld ?_
            rotate_left
            · intro w hSw
              (try dsimp only at hSw)
              go_simp
              all_goals with_reducible rfl
            try simp only [Act.put, List.setIfInBounds_toArray, List.set_cons_zero, List.set_cons_succ]
            refine wpAnyH_ready (rs := [14]) (by kernel_rfl) (by simp) ?_
            refine AllReadyH.cons (arr_at rfl) (fun K hK => ?_) ?_
            ·
              go_simp
              refine hK.out _ _ ?_ (fun hNew => ?_)
              · (first | exact HK.out _ (Below.grown (And.left (by assumption)) (setCells_grown _ _ _ (World.grownBy.refl _ _)) (Below.size (And.left (by assumption))) (fun k hk => by cases hk; first | exact hN8 | exact hs8)) | exact HK.out _ ((Below.refl _ _).drew) | exact HK.out _ (And.left (by assumption)) | exact HK.out _ (Below.grown (And.left (by assumption)) hg7 (Below.size (And.left (by assumption))) hbk6) | exact HK.out _ (Below.trans (And.left (by assumption)) (hb8.mono (Below.size (And.left (by assumption))))) | exact HK.out _ (Below.alloc (And.left (by assumption)) (Below.size (And.left (by assumption))) _) | exact HK.out _ (Below.trans (And.left (by assumption)) (hb6.mono (Below.size (And.left (by assumption))))))
              clear hK K hHeld
              have hHeld := hNew
              clear hNew
              try simp only [Act.put]
              refine wpAnyH_take (i := 15) (v := ?_) (arr_at rfl) (by kernel_rfl) (by kernel_rfl) (by kernel_rfl) (fun _ _ _ h => h) (Or.inl ⟨by rfl, ?_⟩) hHeld ?_
              rotate_left
              · intro w hSw
                (try dsimp only at hSw)
                go_simp
                all_goals with_reducible rfl
              try simp only [Act.put, List.setIfInBounds_toArray, List.set_cons_zero, List.set_cons_succ]
              refine wpAnyH_done (by kernel_rfl) ?_ _
              refine NoPanic.normal ?_
              as_aux_lemma =>
                go_wp2_with fail
                refine (HAW.out _ (Below.trans HB5.out (Below.mono (And.left (by assumption)) HB5.out.size))).mono ?_; rintro e w9 ⟨rfl, hb9⟩
                go_wp2_with fail
                go_ret
                exact ⟨rfl, three_below HB5.out (And.left (by assumption)) hb9⟩
            exact AllReadyH.nil
          exact AllReadyH.nil
        exact AllReadyH.nil
      exact AllReadyH.nil
    exact AllReadyH.nil
  refine AllReadyH.cons (arr_at rfl) (fun K hK => ?_) ?_
  · as_aux_lemma =>
    go_simp
    refine hK.out _ _ ?_ (fun hNew => ?_)
    · (first | exact HK.out _ (Below.grown (And.left (by assumption)) (setCells_grown _ _ _ (World.grownBy.refl _ _)) (Below.size (And.left (by assumption))) (fun k hk => by cases hk; first | exact hN8 | exact hs8)) | exact HK.out _ ((Below.refl _ _).drew) | exact HK.out _ (And.left (by assumption)) | exact HK.out _ (Below.grown (And.left (by assumption)) hg7 (Below.size (And.left (by assumption))) hbk6) | exact HK.out _ (Below.trans (And.left (by assumption)) (hb8.mono (Below.size (And.left (by assumption))))) | exact HK.out _ (Below.alloc (And.left (by assumption)) (Below.size (And.left (by assumption))) _) | exact HK.out _ (Below.trans (And.left (by assumption)) (hb6.mono (Below.size (And.left (by assumption))))))
    clear hK K hHeld
    have hHeld := hNew
    clear hNew
    try simp only [Act.put, List.setIfInBounds_toArray, List.set_cons_zero, List.set_cons_succ]
    refine wpAnyH_ready (rs := [1, 7]) (by kernel_rfl) (by simp) ?_
    refine AllReadyH.cons (arr_at rfl) (fun K hK => ?_) ?_
    · as_aux_lemma =>
      go_simp
      go_at_call 13; refine (HC13.out _ (And.left (by assumption))).mono ?_; rintro e w6 ⟨B6, v6, m6, rfl, hB6, hown6, hm6, hb6⟩; have hbk6 : ∀ k, v6.ownBlock = some k → w5.heap.size ≤ k := (fun k hk => Nat.le_trans (Below.size (And.left (by assumption))) (Nat.le_trans hB6 (own_base hown6 k hk))); have hBl6 : B6 ≤ w6.heap.size := own_top hown6 (by rw [← hm6]; exact HSP.out); have hm30 : m6 ≤ 30 := (by rw [← hm6]; exact HSL.out); have hs6 : w5.heap.size ≤ w6.heap.size := Nat.le_trans (Below.size (And.left (by assumption))) hb6.size; (first | (have hz6 := Z38.first (w5 := w5) (X := w5.drew) hown6 (Nat.le_refl _) (heap_alloc_new _ _) hB6 hb6; (try simp at hz6)) | (have hz6 := Z38.first (w5 := w5) (X := w5.drew) hown6 (Nat.le_refl _) ((heap_old (by simp)).trans (heap_alloc_new _ _)) hB6 hb6; (try simp at hz6)) | (have hz6 := Z38.first (w5 := w5) (X := w5.drew.alloc (.cells #[.string sb] 9)) hown6 (by simp) (heap_alloc_new _ _) hB6 hb6; (try simp at hz6)) | skip)
      try go_wp2_with fail
      refine hK.out _ _ ?_ (fun hNew => ?_)
      · (first | exact HK.out _ (Below.grown (And.left (by assumption)) (setCells_grown _ _ _ (World.grownBy.refl _ _)) (Below.size (And.left (by assumption))) (fun k hk => by cases hk; first | exact hN8 | exact hs8)) | exact HK.out _ ((Below.refl _ _).drew) | exact HK.out _ (And.left (by assumption)) | exact HK.out _ (Below.grown (And.left (by assumption)) hg7 (Below.size (And.left (by assumption))) hbk6) | exact HK.out _ (Below.trans (And.left (by assumption)) (hb8.mono (Below.size (And.left (by assumption))))) | exact HK.out _ (Below.alloc (And.left (by assumption)) (Below.size (And.left (by assumption))) _) | exact HK.out _ (Below.trans (And.left (by assumption)) (hb6.mono (Below.size (And.left (by assumption))))))
      clear hK K hHeld
      have hHeld := hNew
      clear hNew
      try simp only [Act.put, List.setIfInBounds_toArray, List.set_cons_zero, List.set_cons_succ]
      refine wpAnyH_ready (rs := [7]) (by kernel_rfl) (by simp) ?_
      refine AllReadyH.cons (arr_at rfl) (fun K hK => ?_) ?_
      ·
        go_simp
        refine hK.out _ _ ?_ (fun hNew => ?_)
        · (first | exact HK.out _ (Below.grown (And.left (by assumption)) (setCells_grown _ _ _ (World.grownBy.refl _ _)) (Below.size (And.left (by assumption))) (fun k hk => by cases hk; first | exact hN8 | exact hs8)) | exact HK.out _ ((Below.refl _ _).drew) | exact HK.out _ (And.left (by assumption)) | exact HK.out _ (Below.grown (And.left (by assumption)) hg7 (Below.size (And.left (by assumption))) hbk6) | exact HK.out _ (Below.trans (And.left (by assumption)) (hb8.mono (Below.size (And.left (by assumption))))) | exact HK.out _ (Below.alloc (And.left (by assumption)) (Below.size (And.left (by assumption))) _) | exact HK.out _ (Below.trans (And.left (by assumption)) (hb6.mono (Below.size (And.left (by assumption))))))
        clear hK K hHeld
        have hHeld := hNew
        clear hNew
        try simp only [Act.put, List.setIfInBounds_toArray, List.set_cons_zero, List.set_cons_succ]
        refine wpAnyH_ready (rs := [8]) (by kernel_rfl) (by simp) ?_
        refine AllReadyH.cons (arr_at rfl) (fun K hK => ?_) ?_
        ·
          refine step_append_lies _ rfl (.tmp 23) (.tmp 29) 41 rfl B6 9 i0 (.string ⟨#[]⟩) 1 16 Tryz.underlying41 HI.out.1 HI.out.2.1 HI.out.2.2.1 HI.out.2.2.2 rfl (by decide) v6 m6 (strVs SL) rfl (by first | exact hown6 | exact hown6.alloc _ | exact (hown6.alloc _).alloc _) _ _ _ [.string sb] rfl rfl (news1 (by first | exact cell_new rfl | exact (Joins.cell_alloc_mark_at _ _ _ _ _ _ (by simp)).trans rfl | exact (hb6.cell (by first | omega | (simp <;> omega))).trans ((Joins.cell_alloc_mark_at _ _ _ _ _ _ (by simp)).trans rfl) | exact (World.cell?_alloc_lt _ _ _ (by first | omega | (simp <;> omega))).trans (cell_new rfl) | exact (hb6.cell (by first | omega | (simp <;> omega))).trans (cell_new rfl) | exact (hb6.cell (by first | omega | (simp <;> omega))).trans ((World.cell?_alloc_lt _ _ _ (by first | omega | (simp <;> omega))).trans (cell_new rfl)) | exact (World.cell?_alloc_lt _ _ _ (Nat.lt_of_lt_of_le (by first | omega | (simp <;> omega)) hb6.size)).trans ((hb6.cell (by first | omega | (simp <;> omega))).trans (cell_new rfl)))) (by simp [Value.oneCell']) (by decide) (by simp only [maxLen]; omega) (by omega) (by first | exact hBl6 | (simp only [World.size_alloc]; omega)) _ rfl ?_; intro g7 c7 w7 hown7 hg7 hg7b hg7l; have hs7 : w5.heap.size ≤ w7.heap.size := Nat.le_trans (Below.size (And.left (by assumption))) hg7.size; have hs67 : w6.heap.size ≤ w7.heap.size := Nat.le_trans (by first | omega | (simp <;> omega)) hg7.size; (first | have hz7 := Z38.grown hz6 hg7 | have hz7 := Z38.grown (Z38.alloc hz6 _) hg7 | (have hz7 := Z38.grown (Z38.new (w5 := w5) hown6 (by first | omega | (simp <;> omega)) (by first | omega | (simp <;> omega))) hg7; (try simp at hz7)) | (have hz7 := Z38.grown (Z38.alloc (Z38.new (w5 := w5) hown6 (by first | omega | (simp <;> omega)) (by first | omega | (simp <;> omega))) _) hg7; (try simp at hz7)) | skip)
          refine hK.out _ _ ?_ (fun hNew => ?_)
          · (first | exact HK.out _ (Below.grown (And.left (by assumption)) (setCells_grown _ _ _ (World.grownBy.refl _ _)) (Below.size (And.left (by assumption))) (fun k hk => by cases hk; first | exact hN8 | exact hs8)) | exact HK.out _ ((Below.refl _ _).drew) | exact HK.out _ (And.left (by assumption)) | exact HK.out _ (Below.grown (And.left (by assumption)) hg7 (Below.size (And.left (by assumption))) hbk6) | exact HK.out _ (Below.trans (And.left (by assumption)) (hb8.mono (Below.size (And.left (by assumption))))) | exact HK.out _ (Below.alloc (And.left (by assumption)) (Below.size (And.left (by assumption))) _) | exact HK.out _ (Below.trans (And.left (by assumption)) (hb6.mono (Below.size (And.left (by assumption))))))
          clear hK K hHeld
          have hHeld := hNew
          clear hNew
          try simp only [Act.put, List.setIfInBounds_toArray, List.set_cons_zero, List.set_cons_succ]
          refine wpAnyH_ready (rs := [9]) (by kernel_rfl) (by simp) ?_
          refine AllReadyH.cons (arr_at rfl) (fun K hK => ?_) ?_
          ·
            go_simp
            go_at_call 12; refine (HC12.out _ _ B6 (m6 + 1) (And.left (by assumption)) (by omega) (by rw [strVs_snoc, ← HSB.out]; first | exact hown7 | exact hown7.alloc _)).mono ?_; rintro e w8 ⟨rfl, hb8⟩; have hs8 : w5.heap.size ≤ w8.heap.size := Nat.le_trans (Below.size (And.left (by assumption))) hb8.size; (first | (have hz8 := Z38.below hz7 hb8; have hst8 := hz8.run; have hN8 := hz8.1) | (have hz8 := Z38.below (Z38.new (w5 := w5) (X := w7) hown6 hs7 hs67) hb8; have hst8 := hz8.run; have hN8 := hz8.1) | skip)
            try go_wp2_with fail
            refine hK.out _ _ ?_ (fun hNew => ?_)
            · (first | exact HK.out _ (Below.grown (And.left (by assumption)) (setCells_grown _ _ _ (World.grownBy.refl _ _)) (Below.size (And.left (by assumption))) (fun k hk => by cases hk; first | exact hN8 | exact hs8)) | exact HK.out _ ((Below.refl _ _).drew) | exact HK.out _ (And.left (by assumption)) | exact HK.out _ (Below.grown (And.left (by assumption)) hg7 (Below.size (And.left (by assumption))) hbk6) | exact HK.out _ (Below.trans (And.left (by assumption)) (hb8.mono (Below.size (And.left (by assumption))))) | exact HK.out _ (Below.alloc (And.left (by assumption)) (Below.size (And.left (by assumption))) _) | exact HK.out _ (Below.trans (And.left (by assumption)) (hb6.mono (Below.size (And.left (by assumption))))))
            clear hK K hHeld
            have hHeld := hNew
            clear hNew
            try simp only [Act.put, List.setIfInBounds_toArray, List.set_cons_zero, List.set_cons_succ]
            refine wpAnyH_take (i := 10) (v := ?_) (arr_at rfl) (by kernel_rfl) (by kernel_rfl) (by kernel_rfl) (fun _ _ _ h => h) (Or.inl ⟨by rfl, ?_⟩) hHeld ?_
            rotate_left
            · intro w hSw
              (try dsimp only at hSw)
              go_simp
              all_goals with_reducible rfl
            try simp only [Act.put, List.setIfInBounds_toArray, List.set_cons_zero, List.set_cons_succ]
            refine wpAnyH_take (i := 11) (v := ?_) (arr_at rfl) (by kernel_rfl) (by kernel_rfl) (by kernel_rfl) (fun _ _ _ h => h) (Or.inl ⟨by rfl, ?_⟩) hHeld ?_
            rotate_left
            · intro w hSw
              (try dsimp only at hSw)
              go_simp
              all_goals with_reducible rfl
            try simp only [Act.put, List.setIfInBounds_toArray, List.set_cons_zero, List.set_cons_succ]
            refine wpAnyH_take (i := 12) (v := ?_) (arr_at rfl) (by kernel_rfl) (by kernel_rfl) (by kernel_rfl) (fun _ _ _ h => h) (Or.inl ⟨by rfl, ?_⟩) hHeld ?_
            rotate_left
            · intro w hSw
              (try dsimp only at hSw)
              go_simp
              all_goals with_reducible rfl
            try simp only [Act.put, List.setIfInBounds_toArray, List.set_cons_zero, List.set_cons_succ]
            refine wpAnyH_ready (rs := [14]) (by kernel_rfl) (by simp) ?_
            refine AllReadyH.cons (arr_at rfl) (fun K hK => ?_) ?_
            ·
              go_simp
              refine hK.out _ _ ?_ (fun hNew => ?_)
              · (first | exact HK.out _ (Below.grown (And.left (by assumption)) (setCells_grown _ _ _ (World.grownBy.refl _ _)) (Below.size (And.left (by assumption))) (fun k hk => by cases hk; first | exact hN8 | exact hs8)) | exact HK.out _ ((Below.refl _ _).drew) | exact HK.out _ (And.left (by assumption)) | exact HK.out _ (Below.grown (And.left (by assumption)) hg7 (Below.size (And.left (by assumption))) hbk6) | exact HK.out _ (Below.trans (And.left (by assumption)) (hb8.mono (Below.size (And.left (by assumption))))) | exact HK.out _ (Below.alloc (And.left (by assumption)) (Below.size (And.left (by assumption))) _) | exact HK.out _ (Below.trans (And.left (by assumption)) (hb6.mono (Below.size (And.left (by assumption))))))
              clear hK K hHeld
              have hHeld := hNew
              clear hNew
              try simp only [Act.put]
              refine wpAnyH_take (i := 15) (v := ?_) (arr_at rfl) (by kernel_rfl) (by kernel_rfl) (by kernel_rfl) (fun _ _ _ h => h) (Or.inl ⟨by rfl, ?_⟩) hHeld ?_
              rotate_left
              · intro w hSw
                (try dsimp only at hSw)
                go_simp
                all_goals with_reducible rfl
              try simp only [Act.put, List.setIfInBounds_toArray, List.set_cons_zero, List.set_cons_succ]
              refine wpAnyH_done (by kernel_rfl) ?_ _
              refine NoPanic.normal ?_
              as_aux_lemma =>
                go_wp2_with fail
                refine (HAW.out _ (Below.trans HB5.out (Below.mono (And.left (by assumption)) HB5.out.size))).mono ?_; rintro e w9 ⟨rfl, hb9⟩
                go_wp2_with fail
                go_ret
                exact ⟨rfl, three_below HB5.out (And.left (by assumption)) hb9⟩
            exact AllReadyH.nil
          exact AllReadyH.nil
        exact AllReadyH.nil
      exact AllReadyH.nil
    refine AllReadyH.cons (arr_at rfl) (fun K hK => ?_) ?_
    · as_aux_lemma =>
      go_simp
      refine hK.out _ _ ?_ (fun hNew => ?_)
      · (first | exact HK.out _ (Below.grown (And.left (by assumption)) (setCells_grown _ _ _ (World.grownBy.refl _ _)) (Below.size (And.left (by assumption))) (fun k hk => by cases hk; first | exact hN8 | exact hs8)) | exact HK.out _ ((Below.refl _ _).drew) | exact HK.out _ (And.left (by assumption)) | exact HK.out _ (Below.grown (And.left (by assumption)) hg7 (Below.size (And.left (by assumption))) hbk6) | exact HK.out _ (Below.trans (And.left (by assumption)) (hb8.mono (Below.size (And.left (by assumption))))) | exact HK.out _ (Below.alloc (And.left (by assumption)) (Below.size (And.left (by assumption))) _) | exact HK.out _ (Below.trans (And.left (by assumption)) (hb6.mono (Below.size (And.left (by assumption))))))
      clear hK K hHeld
      have hHeld := hNew
      clear hNew
      try simp only [Act.put, List.setIfInBounds_toArray, List.set_cons_zero, List.set_cons_succ]
      refine wpAnyH_ready (rs := [1]) (by kernel_rfl) (by simp) ?_
      refine AllReadyH.cons (arr_at rfl) (fun K hK => ?_) ?_
      ·
        go_simp
        go_at_call 13; refine (HC13.out _ (And.left (by assumption))).mono ?_; rintro e w6 ⟨B6, v6, m6, rfl, hB6, hown6, hm6, hb6⟩; have hbk6 : ∀ k, v6.ownBlock = some k → w5.heap.size ≤ k := (fun k hk => Nat.le_trans (Below.size (And.left (by assumption))) (Nat.le_trans hB6 (own_base hown6 k hk))); have hBl6 : B6 ≤ w6.heap.size := own_top hown6 (by rw [← hm6]; exact HSP.out); have hm30 : m6 ≤ 30 := (by rw [← hm6]; exact HSL.out); have hs6 : w5.heap.size ≤ w6.heap.size := Nat.le_trans (Below.size (And.left (by assumption))) hb6.size; (first | (have hz6 := Z38.first (w5 := w5) (X := w5.drew) hown6 (Nat.le_refl _) (heap_alloc_new _ _) hB6 hb6; (try simp at hz6)) | (have hz6 := Z38.first (w5 := w5) (X := w5.drew) hown6 (Nat.le_refl _) ((heap_old (by simp)).trans (heap_alloc_new _ _)) hB6 hb6; (try simp at hz6)) | (have hz6 := Z38.first (w5 := w5) (X := w5.drew.alloc (.cells #[.string sb] 9)) hown6 (by simp) (heap_alloc_new _ _) hB6 hb6; (try simp at hz6)) | skip)
        try go_wp2_with fail
        refine hK.out _ _ ?_ (fun hNew => ?_)
        · (first | exact HK.out _ (Below.grown (And.left (by assumption)) (setCells_grown _ _ _ (World.grownBy.refl _ _)) (Below.size (And.left (by assumption))) (fun k hk => by cases hk; first | exact hN8 | exact hs8)) | exact HK.out _ ((Below.refl _ _).drew) | exact HK.out _ (And.left (by assumption)) | exact HK.out _ (Below.grown (And.left (by assumption)) hg7 (Below.size (And.left (by assumption))) hbk6) | exact HK.out _ (Below.trans (And.left (by assumption)) (hb8.mono (Below.size (And.left (by assumption))))) | exact HK.out _ (Below.alloc (And.left (by assumption)) (Below.size (And.left (by assumption))) _) | exact HK.out _ (Below.trans (And.left (by assumption)) (hb6.mono (Below.size (And.left (by assumption))))))
        clear hK K hHeld
        have hHeld := hNew
        clear hNew
        try simp only [Act.put, List.setIfInBounds_toArray, List.set_cons_zero, List.set_cons_succ]
        refine wpAnyH_ready (rs := [8]) (by kernel_rfl) (by simp) ?_
        refine AllReadyH.cons (arr_at rfl) (fun K hK => ?_) ?_
        ·
          refine step_append_lies _ rfl (.tmp 23) (.tmp 29) 41 rfl B6 9 i0 (.string ⟨#[]⟩) 1 16 Tryz.underlying41 HI.out.1 HI.out.2.1 HI.out.2.2.1 HI.out.2.2.2 rfl (by decide) v6 m6 (strVs SL) rfl (by first | exact hown6 | exact hown6.alloc _ | exact (hown6.alloc _).alloc _) _ _ _ [.string sb] rfl rfl (news1 (by first | exact cell_new rfl | exact (Joins.cell_alloc_mark_at _ _ _ _ _ _ (by simp)).trans rfl | exact (hb6.cell (by first | omega | (simp <;> omega))).trans ((Joins.cell_alloc_mark_at _ _ _ _ _ _ (by simp)).trans rfl) | exact (World.cell?_alloc_lt _ _ _ (by first | omega | (simp <;> omega))).trans (cell_new rfl) | exact (hb6.cell (by first | omega | (simp <;> omega))).trans (cell_new rfl) | exact (hb6.cell (by first | omega | (simp <;> omega))).trans ((World.cell?_alloc_lt _ _ _ (by first | omega | (simp <;> omega))).trans (cell_new rfl)) | exact (World.cell?_alloc_lt _ _ _ (Nat.lt_of_lt_of_le (by first | omega | (simp <;> omega)) hb6.size)).trans ((hb6.cell (by first | omega | (simp <;> omega))).trans (cell_new rfl)))) (by simp [Value.oneCell']) (by decide) (by simp only [maxLen]; omega) (by omega) (by first | exact hBl6 | (simp only [World.size_alloc]; omega)) _ rfl ?_; intro g7 c7 w7 hown7 hg7 hg7b hg7l; have hs7 : w5.heap.size ≤ w7.heap.size := Nat.le_trans (Below.size (And.left (by assumption))) hg7.size; have hs67 : w6.heap.size ≤ w7.heap.size := Nat.le_trans (by first | omega | (simp <;> omega)) hg7.size; (first | have hz7 := Z38.grown hz6 hg7 | have hz7 := Z38.grown (Z38.alloc hz6 _) hg7 | (have hz7 := Z38.grown (Z38.new (w5 := w5) hown6 (by first | omega | (simp <;> omega)) (by first | omega | (simp <;> omega))) hg7; (try simp at hz7)) | (have hz7 := Z38.grown (Z38.alloc (Z38.new (w5 := w5) hown6 (by first | omega | (simp <;> omega)) (by first | omega | (simp <;> omega))) _) hg7; (try simp at hz7)) | skip)
          refine hK.out _ _ ?_ (fun hNew => ?_)
          · (first | exact HK.out _ (Below.grown (And.left (by assumption)) (setCells_grown _ _ _ (World.grownBy.refl _ _)) (Below.size (And.left (by assumption))) (fun k hk => by cases hk; first | exact hN8 | exact hs8)) | exact HK.out _ ((Below.refl _ _).drew) | exact HK.out _ (And.left (by assumption)) | exact HK.out _ (Below.grown (And.left (by assumption)) hg7 (Below.size (And.left (by assumption))) hbk6) | exact HK.out _ (Below.trans (And.left (by assumption)) (hb8.mono (Below.size (And.left (by assumption))))) | exact HK.out _ (Below.alloc (And.left (by assumption)) (Below.size (And.left (by assumption))) _) | exact HK.out _ (Below.trans (And.left (by assumption)) (hb6.mono (Below.size (And.left (by assumption))))))
          clear hK K hHeld
          have hHeld := hNew
          clear hNew
          try simp only [Act.put, List.setIfInBounds_toArray, List.set_cons_zero, List.set_cons_succ]
          refine wpAnyH_ready (rs := [9]) (by kernel_rfl) (by simp) ?_
          refine AllReadyH.cons (arr_at rfl) (fun K hK => ?_) ?_
          ·
            go_simp
            go_at_call 12; refine (HC12.out _ _ B6 (m6 + 1) (And.left (by assumption)) (by omega) (by rw [strVs_snoc, ← HSB.out]; first | exact hown7 | exact hown7.alloc _)).mono ?_; rintro e w8 ⟨rfl, hb8⟩; have hs8 : w5.heap.size ≤ w8.heap.size := Nat.le_trans (Below.size (And.left (by assumption))) hb8.size; (first | (have hz8 := Z38.below hz7 hb8; have hst8 := hz8.run; have hN8 := hz8.1) | (have hz8 := Z38.below (Z38.new (w5 := w5) (X := w7) hown6 hs7 hs67) hb8; have hst8 := hz8.run; have hN8 := hz8.1) | skip)
            try go_wp2_with fail
            refine hK.out _ _ ?_ (fun hNew => ?_)
            · (first | exact HK.out _ (Below.grown (And.left (by assumption)) (setCells_grown _ _ _ (World.grownBy.refl _ _)) (Below.size (And.left (by assumption))) (fun k hk => by cases hk; first | exact hN8 | exact hs8)) | exact HK.out _ ((Below.refl _ _).drew) | exact HK.out _ (And.left (by assumption)) | exact HK.out _ (Below.grown (And.left (by assumption)) hg7 (Below.size (And.left (by assumption))) hbk6) | exact HK.out _ (Below.trans (And.left (by assumption)) (hb8.mono (Below.size (And.left (by assumption))))) | exact HK.out _ (Below.alloc (And.left (by assumption)) (Below.size (And.left (by assumption))) _) | exact HK.out _ (Below.trans (And.left (by assumption)) (hb6.mono (Below.size (And.left (by assumption))))))
            clear hK K hHeld
            have hHeld := hNew
            clear hNew
            try simp only [Act.put, List.setIfInBounds_toArray, List.set_cons_zero, List.set_cons_succ]
            refine wpAnyH_take (i := 10) (v := ?_) (arr_at rfl) (by kernel_rfl) (by kernel_rfl) (by kernel_rfl) (fun _ _ _ h => h) (Or.inl ⟨by rfl, ?_⟩) hHeld ?_
            rotate_left
            · intro w hSw
              (try dsimp only at hSw)
              go_simp
              all_goals with_reducible rfl
            try simp only [Act.put, List.setIfInBounds_toArray, List.set_cons_zero, List.set_cons_succ]
            refine wpAnyH_take (i := 11) (v := ?_) (arr_at rfl) (by kernel_rfl) (by kernel_rfl) (by kernel_rfl) (fun _ _ _ h => h) (Or.inl ⟨by rfl, ?_⟩) hHeld ?_
            rotate_left
            · intro w hSw
              (try dsimp only at hSw)
              go_simp
              all_goals with_reducible rfl
            try simp only [Act.put, List.setIfInBounds_toArray, List.set_cons_zero, List.set_cons_succ]
            refine wpAnyH_take (i := 12) (v := ?_) (arr_at rfl) (by kernel_rfl) (by kernel_rfl) (by kernel_rfl) (fun _ _ _ h => h) (Or.inl ⟨by rfl, ?_⟩) hHeld ?_
            rotate_left
            · intro w hSw
              (try dsimp only at hSw)
              go_simp
              all_goals with_reducible rfl
            try simp only [Act.put, List.setIfInBounds_toArray, List.set_cons_zero, List.set_cons_succ]
            refine wpAnyH_ready (rs := [14]) (by kernel_rfl) (by simp) ?_
            refine AllReadyH.cons (arr_at rfl) (fun K hK => ?_) ?_
            ·
              go_simp
              refine hK.out _ _ ?_ (fun hNew => ?_)
              · (first | exact HK.out _ (Below.grown (And.left (by assumption)) (setCells_grown _ _ _ (World.grownBy.refl _ _)) (Below.size (And.left (by assumption))) (fun k hk => by cases hk; first | exact hN8 | exact hs8)) | exact HK.out _ ((Below.refl _ _).drew) | exact HK.out _ (And.left (by assumption)) | exact HK.out _ (Below.grown (And.left (by assumption)) hg7 (Below.size (And.left (by assumption))) hbk6) | exact HK.out _ (Below.trans (And.left (by assumption)) (hb8.mono (Below.size (And.left (by assumption))))) | exact HK.out _ (Below.alloc (And.left (by assumption)) (Below.size (And.left (by assumption))) _) | exact HK.out _ (Below.trans (And.left (by assumption)) (hb6.mono (Below.size (And.left (by assumption))))))
              clear hK K hHeld
              have hHeld := hNew
              clear hNew
              try simp only [Act.put]
              refine wpAnyH_take (i := 15) (v := ?_) (arr_at rfl) (by kernel_rfl) (by kernel_rfl) (by kernel_rfl) (fun _ _ _ h => h) (Or.inl ⟨by rfl, ?_⟩) hHeld ?_
              rotate_left
              · intro w hSw
                (try dsimp only at hSw)
                go_simp
                all_goals with_reducible rfl
              try simp only [Act.put, List.setIfInBounds_toArray, List.set_cons_zero, List.set_cons_succ]
              refine wpAnyH_done (by kernel_rfl) ?_ _
              refine NoPanic.normal ?_
              as_aux_lemma =>
                go_wp2_with fail
                refine (HAW.out _ (Below.trans HB5.out (Below.mono (And.left (by assumption)) HB5.out.size))).mono ?_; rintro e w9 ⟨rfl, hb9⟩
                go_wp2_with fail
                go_ret
                exact ⟨rfl, three_below HB5.out (And.left (by assumption)) hb9⟩
            exact AllReadyH.nil
          exact AllReadyH.nil
        exact AllReadyH.nil
      exact AllReadyH.nil
    exact AllReadyH.nil
  exact AllReadyH.nil
end Go.Proofs.YtnlpjncljbaapaaGreatDoor
