/- laws.ofRule, walked. -/
import Derived.Test.YtnlpjncljbaapaaGreatDoorTo
import Derived.Test.YtnlpjncljbaapaaGreatDoorSa
namespace Go.Proofs.YtnlpjncljbaapaaGreatDoor
open Go.RowKit

theorem rowDO_of_own {w : World} {base : Nat} {e : TypeId} {q : Option Addr} {n c : Nat} {l : List (Int × Int)} (hnl : n = l.length) (h : w.ownsRow base e 2 (.slice q n c) n (dayVs l)) : RowDO w q n l := by
  refine ⟨hnl, fun i a b hx => ?_⟩
  have hi : i < l.length := (List.getElem?_eq_some_iff.1 hx).1
  rcases h.2 with ⟨_, h0⟩ | ⟨g, cap, cur, hv, hb, hh, hnc, hcm, hcs, ht⟩
  · omega
  · cases hv
    have key : ∀ (l : List (Int × Int)) (i : Nat) (a b : Int), l[i]? = some (a, b) → (dayVs l)[i * 2]? = some (.int .i64 a) ∧ (dayVs l)[i * 2 + 1]? = some (.int .i64 b) := by
      intro l
      induction l with
      | nil => intro i a b h; simp at h
      | cons d r ih =>
        intro i a b h
        cases i with
        | zero => simp at h; subst h; exact ⟨rfl, rfl⟩
        | succ i =>
          have := ih i a b (by simpa using h)
          have e1 : dayVs (d :: r) = .int .i64 d.1 :: .int .i64 d.2 :: dayVs r := rfl
          rw [e1, show (i + 1) * 2 = i * 2 + 1 + 1 by omega, show i * 2 + 1 + 1 + 1 = (i * 2 + 1) + 1 + 1 by omega]
          simp only [List.getElem?_cons_succ]
          exact this
    have hcell : ∀ j, j < n * 2 → w.cell? ⟨g, j, none⟩ = (dayVs l)[j]? := fun j hj => by
      rw [← ht, List.getElem?_take_of_lt hj]
      simp only [World.cell?, hh]
      simp
    exact ⟨g, 0, rfl, (Array.getElem?_eq_some_iff.1 hh).1, by rw [Nat.zero_add, hcell _ (by omega)]; exact (key l i a b hx).1, by rw [Nat.zero_add, hcell _ (by omega)]; exact (key l i a b hx).2⟩
theorem info98 : (Tryz.prog.info? 98).map (fun i => (i.zero, i.size, i.bytes)) = some (some (.agg #[.int .i64 0, .int .i64 0]), 2, 16) := by kernel_rfl
/-- A rule's cells but the days'. -/
def ruleA (o : Opt) (t : Int) (sl : Nat → Value) (v : Value) : Array Value := #[.int .u8 o.freq, .bool (!(decide (t = 0))), .int .i64 t, .int .i64 o.interval, .int .i64 o.wk, .int .i64 o.count, .bool (!(decide (o.till = 0))), .int .i64 o.till, .slice (slP (sl 9)) (o.l 9).length (slC (sl 9)), .slice (slP (sl 10)) (o.l 10).length (slC (sl 10)), .slice (slP (sl 11)) (o.l 11).length (slC (sl 11)), .slice (slP (sl 12)) (o.l 12).length (slC (sl 12)), .slice (slP (sl 13)) (o.l 13).length (slC (sl 13)), v, .slice (slP (sl 15)) (o.l 15).length (slC (sl 15)), .slice (slP (sl 16)) (o.l 16).length (slC (sl 16)), .slice (slP (sl 17)) (o.l 17).length (slC (sl 17)), .slice (slP (sl 18)) (o.l 18).length (slC (sl 18))]
theorem ruleA_row (o : Opt) (t : Int) (sl : Nat → Value) (v : Value) : rowA 18 (ruleF o t sl v) = ruleA o t sl v := rfl
theorem ruleA_at (ty : TypeId) (o : Opt) (t : Int) (sl : Nat → Value) (v : Value) (W : World) : (W.alloc (.cells (ruleA o t sl v) ty)).rowIs W.heap.size ty 18 (ruleF o t sl v) :=
  World.rowIs_alloc W (ruleA o t sl v) ty _ fun i hi => by
    have hi : i < 18 := hi
    have h18 : i = 0 ∨ i = 1 ∨ i = 2 ∨ i = 3 ∨ i = 4 ∨ i = 5 ∨ i = 6 ∨ i = 7 ∨ i = 8 ∨ i = 9 ∨ i = 10 ∨ i = 11 ∨ i = 12 ∨ i = 13 ∨ i = 14 ∨ i = 15 ∨ i = 16 ∨ i = 17 := by omega
    rcases h18 with h | h | h | h | h | h | h | h | h | h | h | h | h | h | h | h | h | h <;> subst h <;> simp [ruleA, ruleF]
theorem ruleA_one (o : Opt) (t : Int) (sl : Nat → Value) (v : Value) (hv : v.oneCell' = true) : (ruleA o t sl v).all (·.oneCell') = true := by
  simp [ruleA, Value.oneCell']
  exact hv
def zSpec : Array Value := #[.int .u8 0, .bool false, .int .i64 0, .int .i64 0, .int .i64 0, .int .i64 0, .bool false, .int .i64 0, .slice none 0 0, .slice none 0 0, .slice none 0 0, .slice none 0 0, .slice none 0 0, .slice none 0 0, .slice none 0 0, .slice none 0 0, .slice none 0 0, .slice none 0 0]
theorem zSpec_at (W : World) : (W.alloc (.cells zSpec 25)).rowIs W.heap.size 25 18 zRuleF := World.rowIs_alloc W zSpec 25 _ fun i hi => by
    have hi : i < 18 := hi
    have h18 : i = 0 ∨ i = 1 ∨ i = 2 ∨ i = 3 ∨ i = 4 ∨ i = 5 ∨ i = 6 ∨ i = 7 ∨ i = 8 ∨ i = 9 ∨ i = 10 ∨ i = 11 ∨ i = 12 ∨ i = 13 ∨ i = 14 ∨ i = 15 ∨ i = 16 ∨ i = 17 := by omega
    rcases h18 with h | h | h | h | h | h | h | h | h | h | h | h | h | h | h | h | h | h <;> subst h <;> simp [zSpec, zRuleF, zRule]
def GivesSpec (o : Opt) (t : Int) (sl : Nat → Value) (w : World) (e : Ending) (w' : World) : Prop :=
  ∃ v, e = .returned (.agg (rowA 18 (ruleF o t sl v))) ∧ w'.ownsRow w.heap.size 98 2 v o.days.length (dayVs o.days) ∧ Below w.heap.size w w'
set_option maxRecDepth 100000 in
set_option maxHeartbeats 8000000 in
theorem ofRule_any (o : Opt) (t : Int) (sl : Nat → Value) (q : Option Addr) (c : Nat) (w : World) (hd : RowDO w q o.days.length o.days) (hdl : o.days.length ≤ 1000) :
    Calls Tryz.prog 39 #[.agg (rowA 18 (ruleF o t sl (.slice q o.days.length c)))] w fun e w' => GivesSpec o t sl w e w' := by
  rw [ruleA_row]
  obtain ⟨m, hm⟩ : ∃ m, m = o.days.length := ⟨_, rfl⟩
  have hR1 : ((w.alloc (.cells (ruleA o t sl (.slice q o.days.length c)) 36)).alloc (.cells zSpec 25)).rowIs w.heap.size 36 18 (ruleF o t sl (.slice q o.days.length c)) := below_row (ruleA_at 36 o t sl _ w) ((Below.refl _ _).alloc (Nat.le_refl _) _) (ruleA_at 36 o t sl _ w).lt
  have hR2 := zSpec_at (w.alloc (.cells (ruleA o t sl (.slice q o.days.length c)) 36))
  rw [show (w.alloc (.cells (ruleA o t sl (.slice q o.days.length c)) 36)).heap.size = w.heap.size + 1 by simp] at hR2
  have hB : Below w.heap.size w ((w.alloc (.cells (ruleA o t sl (.slice q o.days.length c)) 36)).alloc (.cells zSpec 25)) := ((Below.refl _ _).alloc (Nat.le_refl _) _).alloc (by simp) _
  have HD := Lib.hid hd
  obtain ⟨d5, hud⟩ := Go.Proofs.YtnlpjncljbaapaaGreatDoor.u25
  have HU := Lib.hid hud
  clear hd hud
  rw [← hm] at hR1 hR2 hB HD ⊢
  have HM := Lib.hid hm
  have hm1 : m ≤ 1000 := by omega
  clear hm
  go_enter Tryz.func39, Tryz.ntmps39
  unfold ruleA zSpec at *
  go_upto_region 1 with fail
  generalize hw1 : w.alloc (.cells #[_, _, _, _, _, _, _, _, _, _, _, _, _, _, _, _, _, _] 36) = w1 at *
  generalize hw2 : w1.alloc (.cells #[_, _, _, _, _, _, _, _, _, _, _, _, _, _, _, _, _, _] 25) = w2 at *
  have HX := Lib.hid fun i (hi : i < 18) => hR1.cell (i := i) hi
  have HR1 := Lib.hid hR1
  have HR2 := Lib.hid hR2
  have HB := Lib.hid hB
  clear hw1 hw2 hR1 hR2 hB
  have x0 := HX.out 0 (by omega)
  have x1 := HX.out 1 (by omega)
  have x2 := HX.out 2 (by omega)
  have x3 := HX.out 3 (by omega)
  have x4 := HX.out 4 (by omega)
  have x5 := HX.out 5 (by omega)
  have x6 := HX.out 6 (by omega)
  have x7 := HX.out 7 (by omega)
  have x8 := HX.out 8 (by omega)
  have x9 := HX.out 9 (by omega)
  have x10 := HX.out 10 (by omega)
  have x11 := HX.out 11 (by omega)
  have x12 := HX.out 12 (by omega)
  have x14 := HX.out 14 (by omega)
  have x15 := HX.out 15 (by omega)
  have x16 := HX.out 16 (by omega)
  have x17 := HX.out 17 (by omega)
  simp only [ruleF] at x0 x1 x2 x3 x4 x5 x6 x7 x8 x9 x10 x11 x12 x14 x15 x16 x17
  go_upto_region 2 with ((with_reducible refine gd_store 25 ?_); refine wpl_store_last rfl 25 _ _ rfl _ (ruleA o t sl (.slice none 0 0)) rfl rfl (by rw [info25s]; rfl) rfl (ruleA_one _ _ _ _ rfl) ?_)
  clear x0 x1 x2 x3 x4 x5 x6 x7 x8 x9 x10 x11 x12 x14 x15 x16 x17
  obtain ⟨N, hN⟩ : ∃ N, N = w2.heap.size := ⟨_, rfl⟩
  have hR3 := ruleA_at 25 o t sl (.slice none 0 0) w2
  have hB3 : Below w2.heap.size w2 (w2.alloc (.cells (ruleA o t sl (.slice none 0 0)) 25)) := below_a1
  rw [← hN] at hR3 ⊢
  generalize hw3 : w2.alloc (.cells (ruleA o t sl (.slice none 0 0)) 25) = w3 at *
  have HR3 := Lib.hid hR3
  have HB3 := Lib.hid hB3
  have x13 : w3.cell? ⟨w.heap.size, 13, none⟩ = some (.slice q m c) := (hB3.cell (p := ⟨w.heap.size, 13, none⟩) HR1.out.lt).trans (HX.out 13 (by omega))
  have hNl : N < w3.heap.size := hR3.lt
  have hw2N : w2.heap.size ≤ N := Nat.le_of_eq hN.symm
  have hwN : w.heap.size + 1 < N := by rw [hN]; exact HR2.out.lt
  clear hw3 hR3 hB3 hN
  go_wp2_with fail
  go_loopw [5, 44] (fun _ u wr => ∃ (k : Nat) (v : Value), k ≤ m ∧ u = .int .i64 k ∧ Hid (wr.rowIs N 25 18 (ruleF o t sl v)) ∧ Hid (wr.ownsRow w3.heap.size 98 2 v k (dayVs (o.days.take k))) ∧ Hid (Below w2.heap.size w2 wr) ∧ w3.heap.size ≤ wr.heap.size) (fun _ u _ => m - (intOf u).toNat)
  case atStart => exact ⟨0, _, Nat.zero_le _, rfl, HR3, Lib.hid (own_nil _ _ _ _), HB3, Nat.le_refl _⟩
  case round =>
    obtain ⟨k, v, hk, rfl, HRr, HOr, HBr, hzr⟩ := hrel
    have hNr : N < wr.heap.size := HRr.out.lt
    clear x13
    by_cases hkm : k < m
    · have hkl : k < o.days.length := by have := HM.out; omega
      obtain ⟨d, hd⟩ : ∃ d, o.days[k]? = some d := ⟨_, List.getElem?_eq_getElem hkl⟩
      obtain ⟨g, ofs, hpg, hgl, hc0, hc1⟩ := HD.out.2 k d.1 d.2 hd
      have hbw : Below w.heap.size w wr := HB.out.trans (HBr.out.mono HB.out.size)
      have d0 := (hbw.cell (p := ⟨g, ofs + k * 2, none⟩) hgl).trans hc0
      have d1 := (hbw.cell (p := ⟨g, ofs + k * 2 + 1, none⟩) hgl).trans hc1
      have HTK := Lib.hid (show o.days.take (k + 1) = o.days.take k ++ [d] by rw [List.take_add_one, hd]; rfl)
      have x13 : wr.cell? ⟨N, 13, none⟩ = some v := HRr.out.cell (i := 13) (by omega)
      rw [hpg]
      have hkmi : ((k : Nat) : Int) < ((m : Nat) : Int) := by omega
      have hki : (0 : Int) ≤ ((k : Nat) : Int) := by omega
      clear hc0 hc1 hpg hbw hkl hd
      go_upto_region 5 with fail
      generalize hw5 : wr.alloc (.cells #[_, _] 69) = w5 at *
      have HR5 := Lib.hid (show w5.rowIs N 25 18 (ruleF o t sl v) by rw [← hw5]; exact below_row HRr.out below_a1 hNr)
      have HO5 := Lib.hid (show w5.ownsRow w3.heap.size 98 2 v k (dayVs (o.days.take k)) by rw [← hw5]; exact HOr.out.alloc _)
      have HB5 := Lib.hid (show Below w2.heap.size w2 w5 by rw [← hw5]; exact HBr.out.alloc HBr.out.size _)
      have z5 : w3.heap.size ≤ w5.heap.size := by rw [← hw5]; simp; omega
      have e0 : w5.cell? ⟨wr.heap.size, 0, none⟩ = some (.int .i64 d.1) := by rw [← hw5]; exact cell_new rfl
      have e1 : w5.cell? ⟨wr.heap.size, 1, none⟩ = some (.int .i64 d.2) := by rw [← hw5]; exact cell_new rfl
      have y13 : w5.cell? ⟨N, 13, none⟩ = some v := HR5.out.cell (i := 13) (by omega)
      clear x13 d0 d1 hw5
      go_wp2_with (at_builtin; refine app_own w3.heap.size rfl _ _ 23 98 (.agg #[.int .i64 0, .int .i64 0]) 2 16 rfl Tryz.underlying23 info98 rfl (by decide) (by decide) v k _ [.int .i64 d.1, .int .i64 d.2] (by rfl) (by rfl) rfl (by simp [Value.oneCell']) HO5.out (by omega) (by omega) ?_)
      intro g7 c7 w7 hown7 hg7 hg7l hc7 hgrow hat7
      have r7 := row_grown HR5.out hgrow (fun e => by have := own_base HO5.out _ e; omega)
      have x7 := r7.cell (i := 13) (by omega)
      have f7 := r7.frozen 13
      have R7 := Lib.hid r7
      have HO7 := Lib.hid hown7
      have B7 := Lib.hid (HB5.out.grown hgrow (Nat.le_trans hw2N (by omega)) (fun j hj => by have := own_base HO5.out j hj; omega))
      have z7 := Nat.le_trans z5 hgrow.size
      clear r7 hown7 hgrow hat7 e0 e1 y13 hg7 hg7l
      go_wp2_with fail
      go_roundw
      case rel =>
        refine ⟨k + 1, .slice (some ⟨g7, 0, none⟩) (k + 1) c7, by omega, by go_num, Lib.hid ?_, Lib.hid ?_, Lib.hid (B7.out.setCell hw2N _), by simpa using z7⟩
        · refine (R7.out.set 13 _).congr fun j hj => ?_
          have h18 : j = 0 ∨ j = 1 ∨ j = 2 ∨ j = 3 ∨ j = 4 ∨ j = 5 ∨ j = 6 ∨ j = 7 ∨ j = 8 ∨ j = 9 ∨ j = 10 ∨ j = 11 ∨ j = 12 ∨ j = 13 ∨ j = 14 ∨ j = 15 ∨ j = 16 ∨ j = 17 := by omega
          rcases h18 with h | h | h | h | h | h | h | h | h | h | h | h | h | h | h | h | h | h <;> subst h <;> simp [ruleF]
        · rw [HTK.out]
          have := ownsRow_setCell_below HO7.out (v := .slice (some ⟨g7, 0, none⟩) (k + 1) c7) (a := ⟨N, 13, none⟩) (by show N < w3.heap.size; exact hNl)
          simpa [dayVs] using this _
      case measure => simp [intOf]; omega
    · obtain rfl : k = m := by omega
      obtain ⟨q5, c5, rfl, _⟩ := own_slice HOr.out
      have HR2r := Lib.hid (below_row HR2.out HBr.out HR2.out.lt)
      go_wp2_with (first | ((with_reducible refine gd_load 25 ?_); refine wpl_load_row0 rfl 25 _ rfl N 25 18 18 _ rfl HRr.out (by omega) d5 HU.out.1 HU.out.2 info25s ?_) | ((with_reducible refine gd_store 25 ?_); refine wpl_store_row rfl 25 _ _ rfl (w.heap.size + 1) 0 25 18 _ (rowA 18 (ruleF o t sl (.slice q5 k c5))) rfl rfl HR2r.out (by simp [rowA_size]) (by rw [info25s, rowA_size]) (rowA_all fun i hi => ruleF_one _ _ _ _ rfl i) ?_; intro w8 hR8 hg8))
      refine bodyPost_ret (results_row rfl _ (w.heap.size + 1) 25 18 _ (by rfl) hR8 d5 HU.out.1 HU.out.2 info25s) rfl ?_
      rw [updR_all]
      have ht : o.days.take k = o.days := by rw [HM.out, List.take_length]
      have h8 := own_grown HOr.out hg8 (by omega)
      rw [ht] at h8
      refine ⟨_, rfl, ?_, (HB.out.trans (HBr.out.mono HB.out.size)).grown hg8 (Nat.le_trans HB.out.size HBr.out.size) (fun j hj => by cases hj; omega)⟩
      rw [← HM.out]
      exact Joins.ownsRow_le h8 (by omega)
end Go.Proofs.YtnlpjncljbaapaaGreatDoor

/- laws.sameSet on sets that agree, walked. -/
namespace Go.Proofs.YtnlpjncljbaapaaGreatDoor
open Go.RowKit

theorem rowA_at (ty : TypeId) (N : Nat) (f : Nat → Value) (W : World) : (W.alloc (.cells (rowA N f) ty)).rowIs W.heap.size ty N f := by
  have h := World.rowIs_alloc W (rowA N f) ty f fun i hi => by rw [rowA_size] at hi; exact rowA_get hi
  rw [rowA_size] at h
  exact h
theorem told_rule (t : Int) (b : Bool) (f : Nat → Value) (u v : Value) : rowA 18 (fun i => toldF t b f u v (2 + i)) = rowA 18 f := rowA_congr fun i hi => by
  unfold toldF
  rw [if_neg (by omega), if_neg (by omega), if_pos (by omega)]
  congr 1
  omega
/-- A rule as impl tells it, and a rule of the specification: they agree. -/
structure Agree (w : World) (o : Opt) (sl : Nat → Value) (q : Option Addr) (fr : Nat) (iv wk ct : Int) (hu : Bool) (un : Int) (p : Nat → Option Addr) (n : Nat → Nat) : Prop where
  fr : o.freq = fr
  iv : max o.interval 1 = max iv 1
  wk : o.wk = wk
  ct : o.count = ct
  hu : (!(decide (o.till = 0))) = hu
  un : o.till = un
  ra : ∀ k, 8 ≤ k → k < 18 → k ≠ 13 → RowO w (slP (sl (k + 1))) (o.l (k + 1)).length (o.l (k + 1))
  rb : ∀ k, 8 ≤ k → k < 18 → k ≠ 13 → RowO w (p k) (n k) (o.l (k + 1))
  da : RowDO w q o.days.length o.days
  db : RowDO w (p 13) (n 13) o.days
  len : ∀ k, (o.l k).length ≤ 1000
  dlen : o.days.length ≤ 1000
theorem Agree.below {w w' : World} {o : Opt} {sl : Nat → Value} {q : Option Addr} {fr : Nat} {iv wk ct : Int} {hu : Bool} {un : Int} {p : Nat → Option Addr} {n : Nat → Nat} (h : Agree w o sl q fr iv wk ct hu un p n) (hb : Below w.heap.size w w') : Agree w' o sl q fr iv wk ct hu un p n :=
  { h with ra := fun k a b c => (h.ra k a b c).below hb, rb := fun k a b c => (h.rb k a b c).below hb, da := h.da.below hb, db := h.db.below hb }
def pA (sl : Nat → Value) (q : Option Addr) (k : Nat) : Option Addr := if k = 13 then q else slP (sl (k + 1))
def nA (o : Opt) (k : Nat) : Nat := if k = 13 then o.days.length else (o.l (k + 1)).length
def cA (sl : Nat → Value) (c : Nat) (k : Nat) : Nat := if k = 13 then c else slC (sl (k + 1))
def lA (o : Opt) (k : Nat) : List Int := o.l (k + 1)
theorem Agree.rows {w W : World} {o : Opt} {sl : Nat → Value} {q q' : Option Addr} {fr : Nat} {iv wk ct : Int} {hu : Bool} {un : Int} {p : Nat → Option Addr} {n : Nat → Nat} (h : Agree w o sl q fr iv wk ct hu un p n) (hb : Below w.heap.size w W) (hq : RowDO W q' o.days.length o.days) : SameRows W (pA sl q') (nA o) p n (lA o) o.days where
  a k h1 h2 h3 := by unfold pA nA; rw [if_neg h3, if_neg h3]; exact (h.below hb).ra k h1 h2 h3
  b k h1 h2 h3 := (h.below hb).rb k h1 h2 h3
  ad := hq
  bd := (h.below hb).db
theorem Agree.small {w : World} {o : Opt} {sl : Nat → Value} {q : Option Addr} {fr : Nat} {iv wk ct : Int} {hu : Bool} {un : Int} {p : Nat → Option Addr} {n : Nat → Nat} (h : Agree w o sl q fr iv wk ct hu un p n) : SmallN (nA o) := fun k _ _ => by
  unfold nA
  have h1 := h.len (k + 1)
  have h2 := h.dlen
  split <;> omega
theorem Agree.cells {w : World} {o : Opt} {sl : Nat → Value} {q : Option Addr} {fr : Nat} {iv wk ct : Int} {hu : Bool} {un : Int} {p : Nat → Option Addr} {n : Nat → Nat} (h : Agree w o sl q fr iv wk ct hu un p n) (t : Int) (q' : Option Addr) (c' : Nat) (F : Nat → Value)
    (hF : ∀ j, j < 18 → F j = if j = 2 then .int .i64 0 else if j = 1 then .bool false else ruleF o t sl (.slice q' o.days.length c') j) : rowA 18 F = sRuleC fr false 0 o.interval wk ct hu un (pA sl q') (nA o) (cA sl c') := by
  rw [← sRuleF_row]
  refine rowA_congr fun j hj => ?_
  rw [hF j hj]
  have h0 := h.fr
  have h4 := h.wk
  have h5 := h.ct
  have h6 := h.hu
  have h7 := h.un
  subst h4 h5 h6 h7
  have h18 : j = 0 ∨ j = 1 ∨ j = 2 ∨ j = 3 ∨ j = 4 ∨ j = 5 ∨ j = 6 ∨ j = 7 ∨ j = 8 ∨ j = 9 ∨ j = 10 ∨ j = 11 ∨ j = 12 ∨ j = 13 ∨ j = 14 ∨ j = 15 ∨ j = 16 ∨ j = 17 := by omega
  rcases h18 with h | h | h | h | h | h | h | h | h | h | h | h | h | h | h | h | h | h <;> subst h <;> simp [ruleF, sRuleF, sRuleC, pA, nA, cA, h0]
set_option maxRecDepth 100000 in
set_option maxHeartbeats 16000000 in
theorem sameSet_walk (t : Int) (hr : Bool) (fr : Nat) (iv wk ct : Int) (hu : Bool) (un : Int) (p : Nat → Option Addr) (n c : Nat → Nat) (pr : Option Addr) (nr cr : Nat) (px : Option Addr) (nx cx : Nat) (f : Nat → Value) (q1 : Option Addr) (c1 : Nat) (q2 : Option Addr) (c2 : Nat) (r1 r2 rds exs : List Int) (w : World) (ht : 0 < t)
    (h1 : RowO w q1 r1.length r1) (h2 : RowO w q2 r2.length r2) (h3 : RowO w pr nr rds) (h4 : RowO w px nx exs) (e1 : r1.Perm rds) (e2 : r2.Perm exs) (hl1 : rds.length ≤ 1000) (hl2 : exs.length ≤ 1000)
    (hru : hr = true → ∃ o sl q m, f = ruleF o t sl (.slice q o.days.length m) ∧ Agree w o sl q fr iv wk ct hu un p n) :
    Calls Tryz.prog 15 #[.agg (rowA 22 (toldF t hr f (.slice q1 r1.length c1) (.slice q2 r2.length c2))), .agg (rowA 22 (sSetF t hr fr false 0 iv wk ct hu un p n c pr nr cr px nx cx))] w fun e w' => e = .returned (.bool true) ∧ Below w.heap.size w w' := by
  have hB : Below w.heap.size w ((w.alloc (.cells (rowA 22 (toldF t hr f (.slice q1 r1.length c1) (.slice q2 r2.length c2))) 38)).alloc (.cells (rowA 22 (sSetF t hr fr false 0 iv wk ct hu un p n c pr nr cr px nx cx)) 28)) := ((Below.refl _ _).alloc (Nat.le_refl _) _).alloc (by simp) _
  have hR1 : ((w.alloc (.cells (rowA 22 (toldF t hr f (.slice q1 r1.length c1) (.slice q2 r2.length c2))) 38)).alloc (.cells (rowA 22 (sSetF t hr fr false 0 iv wk ct hu un p n c pr nr cr px nx cx)) 28)).rowIs w.heap.size 38 22 (toldF t hr f (.slice q1 r1.length c1) (.slice q2 r2.length c2)) := below_row (rowA_at 38 22 _ w) ((Below.refl _ _).alloc (Nat.le_refl _) _) (rowA_at 38 22 _ w).lt
  have hR2 := rowA_at 28 22 (sSetF t hr fr false 0 iv wk ct hu un p n c pr nr cr px nx cx) (w.alloc (.cells (rowA 22 (toldF t hr f (.slice q1 r1.length c1) (.slice q2 r2.length c2))) 38))
  rw [show (w.alloc (.cells (rowA 22 (toldF t hr f (.slice q1 r1.length c1) (.slice q2 r2.length c2))) 38)).heap.size = w.heap.size + 1 by simp] at hR2
  have hn1 := e1.length_eq
  have hn2 := e2.length_eq
  have hm1 := h3.1
  have hm2 := h4.1
  obtain ⟨d5, hud5⟩ := Go.Proofs.YtnlpjncljbaapaaGreatDoor.u25
  have HU5 := Lib.hid hud5
  obtain ⟨d6, hud6⟩ := Go.Proofs.YtnlpjncljbaapaaGreatDoor.u36
  have HU6 := Lib.hid hud6
  have HRU := Lib.hid hru
  have HS1 := Lib.hid fun (W : World) (hW : Below w.heap.size w W) => sorted_any q1 r1.length c1 r1 W (h1.below hW) (by omega)
  have HS2 := Lib.hid fun (W : World) (hW : Below w.heap.size w W) => sorted_any pr nr cr rds W (h3.below hW) (by omega)
  have HS3 := Lib.hid fun (W : World) (hW : Below w.heap.size w W) => sorted_any q2 r2.length c2 r2 W (h2.below hW) (by omega)
  have HS4 := Lib.hid fun (W : World) (hW : Below w.heap.size w W) => sorted_any px nx cx exs W (h4.below hW) (by omega)
  rw [sortL_perm e1] at HS1
  rw [sortL_perm e2] at HS3
  have hb1 : r1.length ≤ 1000 := by omega
  have hb2' : r2.length ≤ 1000 := by omega
  clear h1 h2 h3 h4 hud5 hud6 hru hn1 hn2 hm1 hm2 e1 e2
  go_enter Tryz.func15, Tryz.ntmps15
  go_upto_region 1 with fail
  generalize hw1 : w.alloc (.cells (rowA 22 (toldF t hr f (.slice q1 r1.length c1) (.slice q2 r2.length c2))) 38) = w1 at *
  generalize hw2 : w1.alloc (.cells (rowA 22 (sSetF t hr fr false 0 iv wk ct hu un p n c pr nr cr px nx cx)) 28) = w2 at *
  have hx := hR1.lt
  have hy := hR2.lt
  have HR1 := Lib.hid hR1
  have HR2 := Lib.hid hR2
  have HB := Lib.hid hB
  clear hw1 hw2 hR1 hR2 hB
  have HK := Lib.hid (show ∀ W : World, Below w2.heap.size w2 W → (fun w' : World => Below w2.heap.size w2 w' ∧ w'.cell? ⟨w.heap.size, 0, none⟩ = some (.int .i64 t) ∧ w'.cell? ⟨w.heap.size, 1, none⟩ = some (.bool hr) ∧ w'.cell? ⟨w.heap.size, 20, none⟩ = some (.slice q1 r1.length c1) ∧ w'.cell? ⟨w.heap.size, 21, none⟩ = some (.slice q2 r2.length c2) ∧ w'.cell? ⟨w.heap.size + 1, 0, none⟩ = some (.int .i64 t) ∧ w'.cell? ⟨w.heap.size + 1, 1, none⟩ = some (.bool hr) ∧ w'.cell? ⟨w.heap.size + 1, 20, none⟩ = some (.slice pr nr cr) ∧ w'.cell? ⟨w.heap.size + 1, 21, none⟩ = some (.slice px nx cx)) W from fun W hW => ⟨hW, (hW.cell (p := ⟨w.heap.size, 0, none⟩) hx).trans (HR1.out.cell (i := 0) (by omega)), (hW.cell (p := ⟨w.heap.size, 1, none⟩) hx).trans (HR1.out.cell (i := 1) (by omega)), (hW.cell (p := ⟨w.heap.size, 20, none⟩) hx).trans (HR1.out.cell (i := 20) (by omega)), (hW.cell (p := ⟨w.heap.size, 21, none⟩) hx).trans (HR1.out.cell (i := 21) (by omega)), (hW.cell (p := ⟨w.heap.size + 1, 0, none⟩) hy).trans (HR2.out.cell (i := 0) (by omega)), (hW.cell (p := ⟨w.heap.size + 1, 1, none⟩) hy).trans (HR2.out.cell (i := 1) (by omega)), (hW.cell (p := ⟨w.heap.size + 1, 20, none⟩) hy).trans (HR2.out.cell (i := 20) (by omega)), (hW.cell (p := ⟨w.heap.size + 1, 21, none⟩) hy).trans (HR2.out.cell (i := 21) (by omega))⟩)
  go_cut [37] from 6 to 36 (fun v wc => v = .bool false ∧ Below w2.heap.size w2 wc)
  case rest =>
    obtain ⟨rfl, hb⟩ := hcut
    have HC := Lib.hid hb
    clear hb
    have hxc := HC.out.size
    have y1 := (HK.out _ HC.out).2.2.1
    cases hr with
    | false =>
      go_wp2_with fail
      go_ret
      exact ⟨rfl, HB.out.trans (HC.out.mono HB.out.size)⟩
    | true =>
      obtain ⟨o, sl, q, m, rfl, hA⟩ := HRU.out rfl
      have HA := Lib.hid hA
      have HO := Lib.hid fun (W : World) (hW : Below w.heap.size w W) => ofRule_any o t sl q m W (hA.below hW).da hA.dlen
      have HX1 := Lib.hid (below_row HR1.out HC.out hx)
      have HX2 := Lib.hid (below_row HR2.out HC.out hy)
      clear hA
      go_wp2_with ((with_reducible refine gd_load 36 ?_); refine wpl_load_row rfl 36 _ rfl w.heap.size 2 38 22 18 _ rfl HX1.out (by decide) d6 HU6.out.1 HU6.out.2 info36s ?_; rw [told_rule])
      refine (HO.out _ (HB.out.trans (HC.out.mono HB.out.size))).mono ?_; rintro e w4 ⟨v, rfl, ho, hb⟩
      obtain ⟨q', c', rfl, -⟩ := own_slice ho
      have HD := Lib.hid (rowDO_of_own rfl ho)
      have HC4 := Lib.hid (HC.out.trans (hb.mono hxc))
      clear hb ho
      go_upto_region 6 with ((with_reducible refine gd_store 25 ?_); refine wpl_store_last rfl 25 _ _ rfl _ (rowA 18 (ruleF o t sl (.slice q' o.days.length c'))) rfl rfl (by rw [info25s, rowA_size]) (by rw [rowA_size]; rfl) (rowA_all fun i hi => ruleF_one _ _ _ _ rfl i) ?_)
      have hR5 := rowA_at 25 18 (ruleF o t sl (.slice q' o.days.length c')) w4
      have hB45 : Below w4.heap.size w4 (w4.alloc (.cells (rowA 18 (ruleF o t sl (.slice q' o.days.length c'))) 25)) := below_a1
      generalize w4.alloc (.cells (rowA 18 (ruleF o t sl (.slice q' o.days.length c'))) 25) = w5 at *
      have z1 : w5.cell? ⟨w4.heap.size, 1, none⟩ = some (.bool true) := by
        rw [hR5.cell (i := 1) (by omega)]
        have : ¬ t = 0 := by omega
        simp [ruleF, this]
      have z2 : w5.cell? ⟨w4.heap.size, 2, none⟩ = some (.int .i64 t) := hR5.cell (i := 2) (by omega)
      have f1 := hR5.frozen 1
      have f2 := hR5.frozen 2
      have y0 : w5.cell? ⟨w.heap.size + 1, 0, none⟩ = some (.int .i64 t) := (HK.out _ (HC4.out.trans (hB45.mono HC4.out.size))).2.2.2.2.2.1
      have HR5 := Lib.hid hR5
      have HB45 := Lib.hid hB45
      have hN : w2.heap.size ≤ w4.heap.size := HC4.out.size
      clear hR5 hB45 y1
      go_upto_region 9 with fail
      clear z1 z2 f1 f2 y0
      generalize hw6 : (w5.setCell ⟨w4.heap.size, 1, none⟩ _).setCell ⟨w4.heap.size, 2, none⟩ _ = w6 at *
      obtain ⟨F, hF⟩ : ∃ F : Nat → Value, F = fun j => if j = 2 then .int .i64 0 else if j = 1 then .bool false else ruleF o t sl (.slice q' o.days.length c') j := ⟨_, rfl⟩
      have HR6 := Lib.hid (show w6.rowIs w4.heap.size 25 18 F by rw [← hw6, hF]; exact (HR5.out.set 1 _).set 2 _)
      have hB46 : Below w4.heap.size w4 w6 := by rw [← hw6]; exact (HB45.out.setCell (Nat.le_refl _) _).setCell (Nat.le_refl _) _
      have HB6 := Lib.hid (HC4.out.trans (hB46.mono HC4.out.size))
      have HW6 := Lib.hid (HB.out.trans (HB6.out.mono HB.out.size))
      have hTS := textSame_any fr o.interval iv wk ct hu un (pA sl q') (nA o) (cA sl c') p n c (lA o) o.days w6 (HA.out.rows HW6.out (HD.out.below hB46)) HA.out.small HA.out.iv
      rw [← HA.out.cells t q' c' F (fun j hj => by rw [hF])] at hTS
      have HTS := Lib.hid hTS
      have HX6 := Lib.hid (below_row HR2.out HB6.out hy)
      clear hTS hF hw6 hB46
      go_wp2_with (first
        | ((with_reducible refine gd_load 25 ?_); refine wpl_load_row0 rfl 25 _ rfl w4.heap.size 25 18 18 _ rfl HR6.out (by decide) d5 HU5.out.1 HU5.out.2 info25s ?_)
        | ((with_reducible refine gd_load 25 ?_); refine wpl_load_row rfl 25 _ rfl (w.heap.size + 1) 2 28 22 18 _ rfl HX6.out (by decide) d5 HU5.out.1 HU5.out.2 info25s ?_; rw [sSetF_rule]))
      refine HTS.out.mono ?_; rintro e w7 ⟨rfl, hb7⟩
      go_wp2_with fail
      go_ret
      exact ⟨rfl, HW6.out.trans (hb7.mono HW6.out.size)⟩
  case first =>
  try simp only [List.append_eq, List.cons_append, List.nil_append]
  refine wp_region_noPanic ?_
  refine wp_region_held_drew (S := (fun w' : World => Below w2.heap.size w2 w' ∧ w'.cell? ⟨w.heap.size, 0, none⟩ = some (.int .i64 t) ∧ w'.cell? ⟨w.heap.size, 1, none⟩ = some (.bool hr) ∧ w'.cell? ⟨w.heap.size, 20, none⟩ = some (.slice q1 r1.length c1) ∧ w'.cell? ⟨w.heap.size, 21, none⟩ = some (.slice q2 r2.length c2) ∧ w'.cell? ⟨w.heap.size + 1, 0, none⟩ = some (.int .i64 t) ∧ w'.cell? ⟨w.heap.size + 1, 1, none⟩ = some (.bool hr) ∧ w'.cell? ⟨w.heap.size + 1, 20, none⟩ = some (.slice pr nr cr) ∧ w'.cell? ⟨w.heap.size + 1, 21, none⟩ = some (.slice px nx cx))) (by kernel_rfl) (HK.out _ ((Below.refl _ _).drew)) (fun hHeld => ?_)
  refine wpAnyH_take (i := 0) (v := ?_) (arr_at rfl) (by as_aux_lemma => kernel_rfl) (by as_aux_lemma => kernel_rfl) (by as_aux_lemma => kernel_rfl) (fun _ _ _ h => h) (Or.inl ⟨by rfl, ?_⟩) hHeld ?_
  rotate_left
  · intro w hSw
    (try dsimp only at hSw)
    go_simp
    all_goals with_reducible rfl
  try simp only [Act.put, List.setIfInBounds_toArray, List.set_cons_zero, List.set_cons_succ]
  refine wpAnyH_take (i := 1) (v := ?_) (arr_at rfl) (by as_aux_lemma => kernel_rfl) (by as_aux_lemma => kernel_rfl) (by as_aux_lemma => kernel_rfl) (fun _ _ _ h => h) (Or.inl ⟨by rfl, ?_⟩) hHeld ?_
  rotate_left
  · intro w hSw
    (try dsimp only at hSw)
    go_simp
    all_goals with_reducible rfl
  try simp only [Act.put, List.setIfInBounds_toArray, List.set_cons_zero, List.set_cons_succ]
  refine wpAnyH_take (i := 2) (v := ?_) (arr_at rfl) (by as_aux_lemma => kernel_rfl) (by as_aux_lemma => kernel_rfl) (by as_aux_lemma => kernel_rfl) (fun _ _ _ h => h) (Or.inl ⟨by rfl, ?_⟩) hHeld ?_
  rotate_left
  · intro w hSw
    (try dsimp only at hSw)
    go_simp
    all_goals with_reducible rfl
  try simp only [Act.put, List.setIfInBounds_toArray, List.set_cons_zero, List.set_cons_succ]
  refine wpAnyH_take (i := 3) (v := ?_) (arr_at rfl) (by as_aux_lemma => kernel_rfl) (by as_aux_lemma => kernel_rfl) (by as_aux_lemma => kernel_rfl) (fun _ _ _ h => h) (Or.inl ⟨by rfl, ?_⟩) hHeld ?_
  rotate_left
  · intro w hSw
    (try dsimp only at hSw)
    go_simp
    all_goals with_reducible rfl
  try simp only [Act.put, List.setIfInBounds_toArray, List.set_cons_zero, List.set_cons_succ]
  refine wpAnyH_take (i := 4) (v := ?_) (arr_at rfl) (by as_aux_lemma => kernel_rfl) (by as_aux_lemma => kernel_rfl) (by as_aux_lemma => kernel_rfl) (fun _ _ _ h => h) (Or.inl ⟨by rfl, ?_⟩) hHeld ?_
  rotate_left
  · intro w hSw
    (try dsimp only at hSw)
    go_simp
    all_goals with_reducible rfl
  try simp only [Act.put, List.setIfInBounds_toArray, List.set_cons_zero, List.set_cons_succ]
  refine wpAnyH_take (i := 5) (v := ?_) (arr_at rfl) (by as_aux_lemma => kernel_rfl) (by as_aux_lemma => kernel_rfl) (by as_aux_lemma => kernel_rfl) (fun _ _ _ h => h) (Or.inl ⟨by rfl, ?_⟩) hHeld ?_
  rotate_left
  · intro w hSw
    (try dsimp only at hSw)
    go_simp
    all_goals with_reducible rfl
  try simp only [Act.put, List.setIfInBounds_toArray, List.set_cons_zero, List.set_cons_succ]
  refine wpAnyH_take (i := 6) (v := ?_) (arr_at rfl) (by as_aux_lemma => kernel_rfl) (by as_aux_lemma => kernel_rfl) (by as_aux_lemma => kernel_rfl) (fun _ _ _ h => h) (Or.inl ⟨by rfl, ?_⟩) hHeld ?_
  rotate_left
  · intro w hSw
    (try dsimp only at hSw)
    go_simp
    all_goals with_reducible rfl
  try simp only [Act.put, List.setIfInBounds_toArray, List.set_cons_zero, List.set_cons_succ]
  refine wpAnyH_take (i := 7) (v := ?_) (arr_at rfl) (by as_aux_lemma => kernel_rfl) (by as_aux_lemma => kernel_rfl) (by as_aux_lemma => kernel_rfl) (fun _ _ _ h => h) (Or.inl ⟨by rfl, ?_⟩) hHeld ?_
  rotate_left
  · intro w hSw
    (try dsimp only at hSw)
    go_simp
    all_goals with_reducible rfl
  try simp only [Act.put, List.setIfInBounds_toArray, List.set_cons_zero, List.set_cons_succ]
  refine wpAnyH_take (i := 8) (v := ?_) (arr_at rfl) (by as_aux_lemma => kernel_rfl) (by as_aux_lemma => kernel_rfl) (by as_aux_lemma => kernel_rfl) (fun _ _ _ h => h) (Or.inl ⟨by rfl, ?_⟩) hHeld ?_
  rotate_left
  · intro w hSw
    (try dsimp only at hSw)
    go_simp
    all_goals with_reducible rfl
  try simp only [Act.put, List.setIfInBounds_toArray, List.set_cons_zero, List.set_cons_succ]
  refine wpAnyH_take (i := 9) (v := ?_) (arr_at rfl) (by as_aux_lemma => kernel_rfl) (by as_aux_lemma => kernel_rfl) (by as_aux_lemma => kernel_rfl) (fun _ _ _ h => h) (Or.inl ⟨by rfl, ?_⟩) hHeld ?_
  rotate_left
  · intro w hSw
    (try dsimp only at hSw)
    go_simp
    all_goals with_reducible rfl
  try simp only [Act.put, List.setIfInBounds_toArray, List.set_cons_zero, List.set_cons_succ]
  refine wpAnyH_take (i := 10) (v := ?_) (arr_at rfl) (by as_aux_lemma => kernel_rfl) (by as_aux_lemma => kernel_rfl) (by as_aux_lemma => kernel_rfl) (fun _ _ _ h => h) (Or.inl ⟨by rfl, ?_⟩) hHeld ?_
  rotate_left
  · intro w hSw
    (try dsimp only at hSw)
    go_simp
    all_goals with_reducible rfl
  try simp only [Act.put, List.setIfInBounds_toArray, List.set_cons_zero, List.set_cons_succ]
  refine wpAnyH_take (i := 11) (v := ?_) (arr_at rfl) (by as_aux_lemma => kernel_rfl) (by as_aux_lemma => kernel_rfl) (by as_aux_lemma => kernel_rfl) (fun _ _ _ h => h) (Or.inl ⟨by rfl, ?_⟩) hHeld ?_
  rotate_left
  · intro w hSw
    (try dsimp only at hSw)
    go_simp
    all_goals with_reducible rfl
  try simp only [Act.put, List.setIfInBounds_toArray, List.set_cons_zero, List.set_cons_succ]
  refine wpAnyH_take (i := 12) (v := ?_) (arr_at rfl) (by as_aux_lemma => kernel_rfl) (by as_aux_lemma => kernel_rfl) (by as_aux_lemma => kernel_rfl) (fun _ _ _ h => h) (Or.inl ⟨by rfl, ?_⟩) hHeld ?_
  rotate_left
  · intro w hSw
    (try dsimp only at hSw)
    go_simp
    all_goals with_reducible rfl
  try simp only [Act.put, List.setIfInBounds_toArray, List.set_cons_zero, List.set_cons_succ]
  refine wpAnyH_take (i := 13) (v := ?_) (arr_at rfl) (by as_aux_lemma => kernel_rfl) (by as_aux_lemma => kernel_rfl) (by as_aux_lemma => kernel_rfl) (fun _ _ _ h => h) (Or.inl ⟨by rfl, ?_⟩) hHeld ?_
  rotate_left
  · intro w hSw
    (try dsimp only at hSw)
    go_simp
    all_goals with_reducible rfl
  try simp only [Act.put, List.setIfInBounds_toArray, List.set_cons_zero, List.set_cons_succ]
  refine wpAnyH_take (i := 14) (v := ?_) (arr_at rfl) (by as_aux_lemma => kernel_rfl) (by as_aux_lemma => kernel_rfl) (by as_aux_lemma => kernel_rfl) (fun _ _ _ h => h) (Or.inl ⟨by rfl, ?_⟩) hHeld ?_
  rotate_left
  · intro w hSw
    (try dsimp only at hSw)
    go_simp
    all_goals with_reducible rfl
  try simp only [Act.put, List.setIfInBounds_toArray, List.set_cons_zero, List.set_cons_succ]
  refine wpAnyH_take (i := 16) (v := ?_) (arr_at rfl) (by as_aux_lemma => kernel_rfl) (by as_aux_lemma => kernel_rfl) (by as_aux_lemma => kernel_rfl) (fun _ _ _ h => h) (Or.inl ⟨by rfl, ?_⟩) hHeld ?_
  rotate_left
  · intro w hSw
    (try dsimp only at hSw)
    go_simp
    all_goals with_reducible rfl
  try simp only [Act.put, List.setIfInBounds_toArray, List.set_cons_zero, List.set_cons_succ]
  refine wpAnyH_take (i := 17) (v := ?_) (arr_at rfl) (by as_aux_lemma => kernel_rfl) (by as_aux_lemma => kernel_rfl) (by as_aux_lemma => kernel_rfl) (fun _ _ _ h => h) (Or.inl ⟨by rfl, ?_⟩) hHeld ?_
  rotate_left
  · intro w hSw
    (try dsimp only at hSw)
    go_simp
    all_goals with_reducible rfl
  try simp only [Act.put, List.setIfInBounds_toArray, List.set_cons_zero, List.set_cons_succ]
  refine wpAnyH_ready (rs := [15]) (by as_aux_lemma => kernel_rfl) (by simp) ?_
  refine AllReadyH.cons (arr_at rfl) (fun K hK => ?_) ?_
  ·
    go_simp
    go_at_call 26; refine (HS1.out _ (HB.out.trans (hHeld.1.mono HB.out.size))).mono ?_; rintro e w3 ⟨va1, rfl, oa1, hb2⟩
    obtain ⟨qa1, ca1, rfl, -⟩ := own_slice oa1
    have oa1 := Joins.ownsRow_le oa1 hHeld.1.size
    try go_wp2_with fail
    refine hK.out _ _ ?_ (fun hNew => ?_)
    · exact HK.out _ (Below.trans hHeld.1 (hb2.mono hHeld.1.size))
    clear hK K hHeld
    have hHeld := hNew
    clear hNew
    clear hb2
    try simp only [Act.put, List.setIfInBounds_toArray, List.set_cons_zero, List.set_cons_succ]
    refine wpAnyH_ready (rs := [18]) (by as_aux_lemma => kernel_rfl) (by simp) ?_
    refine AllReadyH.cons (arr_at rfl) (fun K hK => ?_) ?_
    ·
      go_simp
      go_at_call 26; refine (HS2.out _ (HB.out.trans (hHeld.1.mono HB.out.size))).mono ?_; rintro e w3 ⟨va2, rfl, oa2, hb2⟩
      obtain ⟨qa2, ca2, rfl, -⟩ := own_slice oa2
      have oa2 := Joins.ownsRow_le oa2 hHeld.1.size
      have oa1 := own_below oa1 hb2
      try go_wp2_with fail
      refine hK.out _ _ ?_ (fun hNew => ?_)
      · exact HK.out _ (Below.trans hHeld.1 (hb2.mono hHeld.1.size))
      clear hK K hHeld
      have hHeld := hNew
      clear hNew
      clear hb2
      try simp only [Act.put, List.setIfInBounds_toArray, List.set_cons_zero, List.set_cons_succ]
      refine wpAnyH_ready (rs := [19]) (by as_aux_lemma => kernel_rfl) (by simp) ?_
      refine AllReadyH.cons (arr_at rfl) (fun K hK => ?_) ?_
      ·
        go_simp
        go_at_call 25; refine (equal25_rows qa1 _ ca1 qa2 _ ca2 (sortL rds) _ (rowO_of_own oa1) (rowO_of_own oa2) (by omega)).mono ?_; rintro e w3 ⟨rfl, hb2⟩
        try go_wp2_with fail
        refine hK.out _ _ ?_ (fun hNew => ?_)
        · exact HK.out _ (Below.trans hHeld.1 (hb2.mono hHeld.1.size))
        clear hK K hHeld
        have hHeld := hNew
        clear hNew
        clear hb2
        try simp only [Act.put, List.setIfInBounds_toArray, List.set_cons_zero, List.set_cons_succ]
        refine wpAnyH_take (i := 20) (v := ?_) (arr_at rfl) (by as_aux_lemma => kernel_rfl) (by as_aux_lemma => kernel_rfl) (by as_aux_lemma => kernel_rfl) (fun _ _ _ h => h) (Or.inl ⟨by rfl, ?_⟩) hHeld ?_
        rotate_left
        · intro w hSw
          (try dsimp only at hSw)
          go_simp
          all_goals with_reducible rfl
        try simp only [Act.put, List.setIfInBounds_toArray, List.set_cons_zero, List.set_cons_succ]
        refine wpAnyH_take (i := 21) (v := ?_) (arr_at rfl) (by as_aux_lemma => kernel_rfl) (by as_aux_lemma => kernel_rfl) (by as_aux_lemma => kernel_rfl) (fun _ _ _ h => h) (Or.inl ⟨by rfl, ?_⟩) hHeld ?_
        rotate_left
        · intro w hSw
          (try dsimp only at hSw)
          go_simp
          all_goals with_reducible rfl
        try simp only [Act.put, List.setIfInBounds_toArray, List.set_cons_zero, List.set_cons_succ]
        refine wpAnyH_take (i := 22) (v := ?_) (arr_at rfl) (by as_aux_lemma => kernel_rfl) (by as_aux_lemma => kernel_rfl) (by as_aux_lemma => kernel_rfl) (fun _ _ _ h => h) (Or.inl ⟨by rfl, ?_⟩) hHeld ?_
        rotate_left
        · intro w hSw
          (try dsimp only at hSw)
          go_simp
          all_goals with_reducible rfl
        try simp only [Act.put, List.setIfInBounds_toArray, List.set_cons_zero, List.set_cons_succ]
        refine wpAnyH_take (i := 23) (v := ?_) (arr_at rfl) (by as_aux_lemma => kernel_rfl) (by as_aux_lemma => kernel_rfl) (by as_aux_lemma => kernel_rfl) (fun _ _ _ h => h) (Or.inl ⟨by rfl, ?_⟩) hHeld ?_
        rotate_left
        · intro w hSw
          (try dsimp only at hSw)
          go_simp
          all_goals with_reducible rfl
        try simp only [Act.put, List.setIfInBounds_toArray, List.set_cons_zero, List.set_cons_succ]
        refine wpAnyH_take (i := 24) (v := ?_) (arr_at rfl) (by as_aux_lemma => kernel_rfl) (by as_aux_lemma => kernel_rfl) (by as_aux_lemma => kernel_rfl) (fun _ _ _ h => h) (Or.inl ⟨by rfl, ?_⟩) hHeld ?_
        rotate_left
        · intro w hSw
          (try dsimp only at hSw)
          go_simp
          all_goals with_reducible rfl
        try simp only [Act.put, List.setIfInBounds_toArray, List.set_cons_zero, List.set_cons_succ]
        refine wpAnyH_take (i := 26) (v := ?_) (arr_at rfl) (by as_aux_lemma => kernel_rfl) (by as_aux_lemma => kernel_rfl) (by as_aux_lemma => kernel_rfl) (fun _ _ _ h => h) (Or.inl ⟨by rfl, ?_⟩) hHeld ?_
        rotate_left
        · intro w hSw
          (try dsimp only at hSw)
          go_simp
          all_goals with_reducible rfl
        try simp only [Act.put, List.setIfInBounds_toArray, List.set_cons_zero, List.set_cons_succ]
        refine wpAnyH_take (i := 27) (v := ?_) (arr_at rfl) (by as_aux_lemma => kernel_rfl) (by as_aux_lemma => kernel_rfl) (by as_aux_lemma => kernel_rfl) (fun _ _ _ h => h) (Or.inl ⟨by rfl, ?_⟩) hHeld ?_
        rotate_left
        · intro w hSw
          (try dsimp only at hSw)
          go_simp
          all_goals with_reducible rfl
        try simp only [Act.put, List.setIfInBounds_toArray, List.set_cons_zero, List.set_cons_succ]
        refine wpAnyH_ready (rs := [25]) (by as_aux_lemma => kernel_rfl) (by simp) ?_
        refine AllReadyH.cons (arr_at rfl) (fun K hK => ?_) ?_
        ·
          go_simp
          go_at_call 26; refine (HS3.out _ (HB.out.trans (hHeld.1.mono HB.out.size))).mono ?_; rintro e w3 ⟨va3, rfl, oa3, hb2⟩
          obtain ⟨qa3, ca3, rfl, -⟩ := own_slice oa3
          have oa3 := Joins.ownsRow_le oa3 hHeld.1.size
          try go_wp2_with fail
          refine hK.out _ _ ?_ (fun hNew => ?_)
          · exact HK.out _ (Below.trans hHeld.1 (hb2.mono hHeld.1.size))
          clear hK K hHeld
          have hHeld := hNew
          clear hNew
          clear hb2
          try simp only [Act.put, List.setIfInBounds_toArray, List.set_cons_zero, List.set_cons_succ]
          refine wpAnyH_ready (rs := [28]) (by as_aux_lemma => kernel_rfl) (by simp) ?_
          refine AllReadyH.cons (arr_at rfl) (fun K hK => ?_) ?_
          ·
            go_simp
            go_at_call 26; refine (HS4.out _ (HB.out.trans (hHeld.1.mono HB.out.size))).mono ?_; rintro e w3 ⟨va4, rfl, oa4, hb2⟩
            obtain ⟨qa4, ca4, rfl, -⟩ := own_slice oa4
            have oa4 := Joins.ownsRow_le oa4 hHeld.1.size
            have oa3 := own_below oa3 hb2
            try go_wp2_with fail
            refine hK.out _ _ ?_ (fun hNew => ?_)
            · exact HK.out _ (Below.trans hHeld.1 (hb2.mono hHeld.1.size))
            clear hK K hHeld
            have hHeld := hNew
            clear hNew
            clear hb2
            try simp only [Act.put, List.setIfInBounds_toArray, List.set_cons_zero, List.set_cons_succ]
            refine wpAnyH_ready (rs := [29]) (by as_aux_lemma => kernel_rfl) (by simp) ?_
            refine AllReadyH.cons (arr_at rfl) (fun K hK => ?_) ?_
            ·
              go_simp
              go_at_call 25; refine (equal25_rows qa3 _ ca3 qa4 _ ca4 (sortL exs) _ (rowO_of_own oa3) (rowO_of_own oa4) (by omega)).mono ?_; rintro e w3 ⟨rfl, hb2⟩
              try go_wp2_with fail
              refine hK.out _ _ ?_ (fun hNew => ?_)
              · exact HK.out _ (Below.trans hHeld.1 (hb2.mono hHeld.1.size))
              clear hK K hHeld
              have hHeld := hNew
              clear hNew
              clear hb2
              try simp only [Act.put, List.setIfInBounds_toArray, List.set_cons_zero, List.set_cons_succ]
              refine wpAnyH_take (i := 30) (v := ?_) (arr_at rfl) (by as_aux_lemma => kernel_rfl) (by as_aux_lemma => kernel_rfl) (by as_aux_lemma => kernel_rfl) (fun _ _ _ h => h) (Or.inl ⟨by rfl, ?_⟩) hHeld ?_
              rotate_left
              · intro w hSw
                (try dsimp only at hSw)
                go_simp
                all_goals with_reducible rfl
              try simp only [Act.put, List.setIfInBounds_toArray, List.set_cons_zero, List.set_cons_succ]
              refine wpAnyH_take (i := 31) (v := ?_) (arr_at rfl) (by as_aux_lemma => kernel_rfl) (by as_aux_lemma => kernel_rfl) (by as_aux_lemma => kernel_rfl) (fun _ _ _ h => h) (Or.inl ⟨by rfl, ?_⟩) hHeld ?_
              rotate_left
              · intro w hSw
                (try dsimp only at hSw)
                go_simp
                all_goals with_reducible rfl
              try simp only [Act.put, List.setIfInBounds_toArray, List.set_cons_zero, List.set_cons_succ]
              refine wpAnyH_done (by as_aux_lemma => kernel_rfl) ?_ _
              refine NoPanic.normal ?_
              as_aux_lemma =>
                go_wp2_with fail
                go_meet
                exact ⟨rfl, hHeld.1⟩
            exact AllReadyH.nil
          exact AllReadyH.nil
        exact AllReadyH.nil
      exact AllReadyH.nil
    exact AllReadyH.nil
  exact AllReadyH.nil
end Go.Proofs.YtnlpjncljbaapaaGreatDoor
