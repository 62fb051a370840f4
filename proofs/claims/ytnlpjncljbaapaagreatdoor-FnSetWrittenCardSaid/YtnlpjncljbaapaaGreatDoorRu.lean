/- impl.rule, walked. -/
import Derived.Test.YtnlpjncljbaapaaGreatDoorPl
namespace Go.Proofs.YtnlpjncljbaapaaGreatDoor
open Go.RowKit

set_option maxHeartbeats 400000 in
theorem day94 (g o : Nat) (k : Int) (w : World) (h : w.cell? ⟨g, o, none⟩ = some (.int .i64 k)) : Calls Tryz.prog 94 #[.pointer (some ⟨g, o, none⟩)] w fun e w' => e = .returned (.int .i64 k) ∧ w = w' := by
  go_enter Tryz.func94, Tryz.ntmps94
  go_wp2
  go_ret
  exact ⟨rfl, rfl⟩
set_option maxHeartbeats 400000 in
theorem n95 (g o : Nat) (k : Int) (w : World) (h : w.cell? ⟨g, o + 1, none⟩ = some (.int .i64 k)) : Calls Tryz.prog 95 #[.pointer (some ⟨g, o, none⟩)] w fun e w' => e = .returned (.int .i64 k) ∧ w = w' := by
  go_enter Tryz.func95, Tryz.ntmps95
  go_wp2
  go_ret
  exact ⟨rfl, rfl⟩
def dayVs (l : List (Int × Int)) : List Value := l.flatMap fun d => [.int .i64 d.1, .int .i64 d.2]
/-- A rule as impl tells it. -/
def ruleF (o : Opt) (t : Int) (sl : Nat → Value) (v : Value) : Nat → Value
  | 0 => .int .u8 o.freq
  | 1 => .bool (!(decide (t = 0)))
  | 2 => .int .i64 t
  | 3 => .int .i64 o.interval
  | 4 => .int .i64 o.wk
  | 5 => .int .i64 o.count
  | 6 => .bool (!(decide (o.till = 0)))
  | 7 => .int .i64 o.till
  | 13 => v
  | k => .slice (slP (sl (k + 1))) (o.l (k + 1)).length (slC (sl (k + 1)))
def GivesRuleV (o : Opt) (t : Int) (sl : Nat → Value) (w : World) (e : Ending) (w' : World) : Prop :=
  ∃ v B, e = .returned (.agg (rowA 18 (ruleF o t sl v))) ∧ w.heap.size ≤ B ∧ w'.ownsRow B 69 2 v o.days.length (dayVs o.days) ∧ Below w.heap.size w w'
theorem info69 : (Tryz.prog.info? 69).map (fun i => (i.zero, i.size, i.bytes)) = some (some (.agg #[.int .i64 0, .int .i64 0]), 2, 16) := by kernel_rfl
theorem news2 {W : World} {N : Nat} {u v : Value} (h0 : W.cell? ⟨N, 0, none⟩ = some u) (h1 : W.cell? ⟨N, 1, none⟩ = some v) : ∀ (j : Nat) x, [u, v][j]? = some x → W.cell? ((⟨N, 0, none⟩ : Addr).add j) = some x := fun j x hx => by
  match j with
  | 0 => simp at hx; subst hx; rw [add_plain]; exact h0
  | 1 => simp at hx; subst hx; rw [add_plain]; exact h1
  | j + 2 => simp at hx
theorem arr_at {l : List Oper} {i : Nat} {o : Oper} (h : l[i]? = some o) : (l.toArray)[i]? = some o := by simpa using h
theorem of_new36 {B : Nat} {w1 X : World} (_ : Below B w1 (X.alloc (.cells zRule 36))) : (X.alloc (.cells zRule 36)).rowIs X.heap.size 36 18 zRuleF := zRule_at X
theorem of_new36d {B : Nat} {w1 X : World} (_ : Below B w1 (X.alloc (.cells zRule 36)).drew) : (X.alloc (.cells zRule 36)).drew.rowIs X.heap.size 36 18 zRuleF := zRule_at X
theorem bel_of {wr W w7 : World} {r : Option Nat} (_ : W.grownBy w7 r) (h : Below wr.heap.size wr W) : Below wr.heap.size wr W := h
theorem own_grown {w w' : World} {base r : Nat} {e : TypeId} {size n : Nat} {v : Value} {xs : List Value} (h : w.ownsRow base e size v n xs) (hg : w.grownBy w' (some r)) (hr : r < base) : w'.ownsRow base e size v n xs := by
  obtain ⟨h1, h2⟩ := h
  refine ⟨h1, ?_⟩
  rcases h2 with h2 | ⟨g, cap, cur, hv, hge, hh, h3⟩
  · exact Or.inl h2
  · exact Or.inr ⟨g, cap, cur, hv, hge, (hg.block g (Array.getElem?_eq_some_iff.1 hh).1 (by intro e; cases e; omega)).trans hh, h3⟩
theorem ruleF_one (o : Opt) (t : Int) (sl : Nat → Value) (v : Value) (hv : v.oneCell' = true) (i : Nat) : (ruleF o t sl v i).oneCell' = true := by
  unfold ruleF
  split <;> first | rfl | exact hv
theorem stored36 {B N : Nat} {w1 W : World} {vs : List Value} {f : Nat → Value} (_ : Below B w1 (W.setCells N 0 vs)) (hz : W.rowIs N 36 18 f) : (W.setCells N 0 vs).rowIs N 36 18 (fun j => if 0 ≤ j ∧ j < 0 + vs.length then vs[j - 0]?.getD undef else f j) := setCells_row vs 0 W f hz
set_option maxRecDepth 100000 in
set_option maxHeartbeats 40000000 in
theorem rule_any (o : Opt) (t : Int) (sl : Nat → Value) (G : Nat) (w : World) (hr : ∀ k, k < 19 → w.cell? ⟨G, k, none⟩ = some (optG o t sl k)) (hf : 0 ≤ o.freq ∧ o.freq ≤ 6) (hd : RowD w (slP (sl 14)) o.days.length o.days) (hdl : o.days.length ≤ 1000) :
    Calls Tryz.prog 54 #[.pointer (some ⟨G, 0, none⟩)] w fun e w' => GivesRuleV o t sl w e w' := by
  have hf0 := hf.1
  have hf1 := hf.2
  have hfw : IntKind.u8.wrap o.freq = o.freq := by simp [IntKind.wrap, IntKind.bits, IntKind.signed]; omega
  have hB := below_a1 (w := w) (o := .cells zRule 36)
  have hR0 := zRule_at w
  have hGl : G < w.heap.size := by
    have h0 := hr 0 (by omega)
    rcases Nat.lt_or_ge G w.heap.size with h' | h'
    · exact h'
    · simp [World.cell?, Array.getElem?_eq_none h'] at h0
  have HDD := Lib.hid hd
  have HX := Lib.hid fun (k : Nat) (hk : k < 19) => (World.cell?_alloc_lt w (.cells zRule 36) ⟨G, k, none⟩ hGl).trans (hr k hk)
  have hIZ := Lib.hid fun (s : Int) (W : World) => isZero_any s 0 W
  have hSE := Lib.hid fun (s : Int) (W : World) => seconds_any s 0 W
  obtain ⟨d6, hud⟩ := u36
  clear hr hd hf
  go_enter Tryz.func54, Tryz.ntmps54
  unfold zRule at *
  go_upto_region 1 with fail
  generalize hw1 : w.alloc (.cells #[_, _, _, _, _, _, _, _, _, _, _, _, _, _, _, _, _, _] 36) = w1 at *
  have HB := Lib.hid hB
  have HR := Lib.hid hR0
  have hG1 : G < w1.heap.size := Nat.lt_of_lt_of_le hGl HB.out.size
  clear hw1 hB hR0
  have HK := Lib.hid (show ∀ W : World, Below w1.heap.size w1 W → (fun w' : World => Below w1.heap.size w1 w' ∧ w'.cell? ⟨G, 0, none⟩ = some (.int .i64 o.freq) ∧ w'.cell? ⟨G, 1, none⟩ = some (.int .i64 t) ∧ w'.cell? ⟨G, 2, none⟩ = some (.int .i64 0) ∧ w'.cell? ⟨G, 3, none⟩ = some (.int .i64 o.interval) ∧ w'.cell? ⟨G, 4, none⟩ = some (.int .i64 o.wk) ∧ w'.cell? ⟨G, 5, none⟩ = some (.int .i64 0) ∧ w'.cell? ⟨G, 6, none⟩ = some (.int .i64 o.count) ∧ w'.cell? ⟨G, 7, none⟩ = some (.int .i64 o.till) ∧ w'.cell? ⟨G, 8, none⟩ = some (.int .i64 0) ∧ w'.cell? ⟨G, 9, none⟩ = some (.slice (slP (sl 9)) (o.l 9).length (slC (sl 9))) ∧ w'.cell? ⟨G, 10, none⟩ = some (.slice (slP (sl 10)) (o.l 10).length (slC (sl 10))) ∧ w'.cell? ⟨G, 11, none⟩ = some (.slice (slP (sl 11)) (o.l 11).length (slC (sl 11))) ∧ w'.cell? ⟨G, 12, none⟩ = some (.slice (slP (sl 12)) (o.l 12).length (slC (sl 12))) ∧ w'.cell? ⟨G, 13, none⟩ = some (.slice (slP (sl 13)) (o.l 13).length (slC (sl 13))) ∧ w'.cell? ⟨G, 14, none⟩ = some (.slice (slP (sl 14)) o.days.length (slC (sl 14))) ∧ w'.cell? ⟨G, 15, none⟩ = some (.slice (slP (sl 15)) (o.l 15).length (slC (sl 15))) ∧ w'.cell? ⟨G, 16, none⟩ = some (.slice (slP (sl 16)) (o.l 16).length (slC (sl 16))) ∧ w'.cell? ⟨G, 17, none⟩ = some (.slice (slP (sl 17)) (o.l 17).length (slC (sl 17))) ∧ w'.cell? ⟨G, 18, none⟩ = some (.slice (slP (sl 18)) (o.l 18).length (slC (sl 18)))) W from fun W hW => ⟨hW, (hW.cell (p := ⟨G, 0, none⟩) hG1).trans (HX.out 0 (by omega)), (hW.cell (p := ⟨G, 1, none⟩) hG1).trans (HX.out 1 (by omega)), (hW.cell (p := ⟨G, 2, none⟩) hG1).trans (HX.out 2 (by omega)), (hW.cell (p := ⟨G, 3, none⟩) hG1).trans (HX.out 3 (by omega)), (hW.cell (p := ⟨G, 4, none⟩) hG1).trans (HX.out 4 (by omega)), (hW.cell (p := ⟨G, 5, none⟩) hG1).trans (HX.out 5 (by omega)), (hW.cell (p := ⟨G, 6, none⟩) hG1).trans (HX.out 6 (by omega)), (hW.cell (p := ⟨G, 7, none⟩) hG1).trans (HX.out 7 (by omega)), (hW.cell (p := ⟨G, 8, none⟩) hG1).trans (HX.out 8 (by omega)), (hW.cell (p := ⟨G, 9, none⟩) hG1).trans (HX.out 9 (by omega)), (hW.cell (p := ⟨G, 10, none⟩) hG1).trans (HX.out 10 (by omega)), (hW.cell (p := ⟨G, 11, none⟩) hG1).trans (HX.out 11 (by omega)), (hW.cell (p := ⟨G, 12, none⟩) hG1).trans (HX.out 12 (by omega)), (hW.cell (p := ⟨G, 13, none⟩) hG1).trans (HX.out 13 (by omega)), (hW.cell (p := ⟨G, 14, none⟩) hG1).trans (HX.out 14 (by omega)), (hW.cell (p := ⟨G, 15, none⟩) hG1).trans (HX.out 15 (by omega)), (hW.cell (p := ⟨G, 16, none⟩) hG1).trans (HX.out 16 (by omega)), (hW.cell (p := ⟨G, 17, none⟩) hG1).trans (HX.out 17 (by omega)), (hW.cell (p := ⟨G, 18, none⟩) hG1).trans (HX.out 18 (by omega))⟩)
  go_cut [3] from 6 to 81 (fun v3 wc => ∃ N, v3 = .pointer (some ⟨N, 0, none⟩) ∧ w1.heap.size ≤ N ∧ wc.rowIs N 36 18 (ruleF o t sl (.slice none 0 0)) ∧ Below w1.heap.size w1 wc)
  case rest =>
      obtain ⟨N, rfl, hN, hRN, hBN⟩ := hcut
      have HRN := Lib.hid hRN
      have HBN := Lib.hid hBN
      have x14 : wc.cell? ⟨G, 14, none⟩ = some (.slice (slP (sl 14)) o.days.length (slC (sl 14))) := (hBN.cell (p := ⟨G, 14, none⟩) hG1).trans (HX.out 14 (by omega))
      have hNz : N < wc.heap.size := hRN.lt
      have hNG : N ≠ G := by omega
      obtain ⟨m, hm⟩ : ∃ m, m = o.days.length := ⟨_, rfl⟩
      rw [← hm] at x14 hdl
      clear hRN hBN
      obtain ⟨i0, hi, hzz⟩ := Option.map_eq_some_iff.1 info69
      simp only [Prod.mk.injEq] at hzz
      obtain ⟨hz0, hz1, hz2⟩ := hzz
      have HI := Lib.hid (And.intro hi (And.intro hz0 (And.intro hz1 hz2)))
      have HM := Lib.hid hm
      clear hm hi hz0 hz1 hz2
      go_wp2_with fail
      go_loopw [5, 87] (fun _ u wr => ∃ (k : Nat) (v : Value), k ≤ m ∧ u = .int .i64 k ∧ Hid (wr.rowIs N 36 18 (ruleF o t sl v)) ∧ Hid (wr.ownsRow wc.heap.size 69 2 v k (dayVs (o.days.take k))) ∧ Hid (Below w1.heap.size w1 wr) ∧ wc.heap.size ≤ wr.heap.size) (fun _ u _ => m - (intOf u).toNat)
      case atStart => exact ⟨0, _, Nat.zero_le _, rfl, HRN, Lib.hid (own_nil _ _ _ _), HBN, Nat.le_refl _⟩
      case round =>
        obtain ⟨k, v, hk, rfl, HR2, HO2, HB2, hz2⟩ := hrel
        have hr := HR2.out
        have hNr : N < wr.heap.size := hr.lt
        by_cases hkm : k < m
        · have hkl : k < o.days.length := by have := HM.out; omega
          obtain ⟨d, hd⟩ : ∃ d, o.days[k]? = some d := ⟨_, List.getElem?_eq_getElem hkl⟩
          obtain ⟨g, hpg, hgl, hc0, hc1⟩ := HDD.out.2 k d.1 d.2 hd
          have hbw : Below w.heap.size w wr := HB.out.trans (HB2.out.mono HB.out.size)
          have d0 := (hbw.cell (p := ⟨g, k * 2, none⟩) hgl).trans hc0
          have d1 := (hbw.cell (p := ⟨g, k * 2 + 1, none⟩) hgl).trans hc1
          have hgr : g < wr.heap.size := Nat.lt_of_lt_of_le hgl hbw.size
          have HTK := Lib.hid (show o.days.take (k + 1) = o.days.take k ++ [d] by rw [List.take_add_one, hd]; rfl)
          have x13 : wr.cell? ⟨N, 13, none⟩ = some v := hr.cell (i := 13) (by omega)
          rw [hpg]
          have hkmi : ((k : Nat) : Int) < ((m : Nat) : Int) := by omega
          have hki : (0 : Int) ≤ ((k : Nat) : Int) := by omega
          clear hc0 hc1 hpg hr hbw hkl hd
          go_wp2_with fail
          go_region_law (first
            | (go_simp; go_at_call 94; refine (day94 wr.heap.size 0 d.1 _ (by first | assumption | simp)).mono ?_; rintro e w2 ⟨rfl, rfl⟩)
            | (go_simp; go_at_call 95; refine (n95 wr.heap.size 0 d.2 _ (by first | assumption | simp)).mono ?_; rintro e w2 ⟨rfl, rfl⟩)
            | (refine step_append_lies _ rfl (.tmp 92) (.tmp 96) 34 rfl wc.heap.size 69 i0 (.agg #[.int .i64 0, .int .i64 0]) 2 16 Tryz.underlying34 HI.out.1 HI.out.2.1 HI.out.2.2.1 HI.out.2.2.2 rfl (by decide) v k (dayVs (o.days.take k)) rfl (((HO2.out.alloc _).drew).alloc _) _ _ _ [.int .i64 d.1, .int .i64 d.2] rfl rfl (news2 (by first | exact cell_new rfl | exact (Joins.cell_alloc_mark_at _ _ _ _ _ _ (by simp)).trans rfl) (by first | exact cell_new rfl | exact (Joins.cell_alloc_mark_at _ _ _ _ _ _ (by simp)).trans rfl)) (by simp [Value.oneCell']) (by decide) (by simp only [maxLen]; omega) (by omega) (by first | omega | (simp <;> omega)) _ rfl ?_; intro g7 c7 w7 hown7 hg7 hg7b hg7l; have hW := bel_of (wr := wr) hg7 ((((Below.refl _ _).alloc (Nat.le_refl _) _).drew).alloc (by simp) _); have r7 := row_grown (below_row HR2.out hW hNr) hg7 (fun e => by have := own_base HO2.out _ e; omega); have x7 := r7.cell (i := 13) (by omega); have f7 := r7.frozen 13; have R7 := Lib.hid r7; have B7 := Lib.hid ((HB2.out.trans (hW.mono HB2.out.size)).grown hg7 (Nat.le_trans HB2.out.size hW.size) (fun k hk => by have := own_base HO2.out k hk; have := HBN.out.size; omega)); have z7 := Nat.le_trans hz2 (Nat.le_trans hW.size hg7.size); have N7 : N < w7.heap.size := R7.out.lt; clear r7 hW hg7b))
          all_goals
            clear x13 d0 d1 x7 f7
            go_wp2_with fail
            go_roundw
            case rel =>
              refine ⟨k + 1, .slice (some ⟨g7, 0, none⟩) (k + 1) c7, by omega, by go_num, Lib.hid ?_, Lib.hid ?_, Lib.hid (B7.out.setCell hN _), by simpa using z7⟩
              · refine (R7.out.set 13 _).congr fun j hj => ?_
                have h18 : j = 0 ∨ j = 1 ∨ j = 2 ∨ j = 3 ∨ j = 4 ∨ j = 5 ∨ j = 6 ∨ j = 7 ∨ j = 8 ∨ j = 9 ∨ j = 10 ∨ j = 11 ∨ j = 12 ∨ j = 13 ∨ j = 14 ∨ j = 15 ∨ j = 16 ∨ j = 17 := by omega
                rcases h18 with h | h | h | h | h | h | h | h | h | h | h | h | h | h | h | h | h | h <;> subst h <;> simp [ruleF]
              · rw [HTK.out]
                have := ownsRow_setCell_below hown7 (v := .slice (some ⟨g7, 0, none⟩) (k + 1) c7) (a := ⟨N, 13, none⟩) (by show N < wc.heap.size; exact hNz)
                simpa [dayVs] using this _
            case measure => simp [intOf]; omega
        · obtain rfl : k = m := by omega
          obtain ⟨q5, c5, rfl, _⟩ := own_slice HO2.out
          have HRt := Lib.hid (below_row HR.out HB2.out HR.out.lt)
          have HU := Lib.hid hud
          have hlt : w.heap.size < w1.heap.size := HR.out.lt
          clear hr
          go_wp2_with (first | ((with_reducible refine gd_load 36 ?_); refine wpl_load_row0 rfl 36 _ rfl N 36 18 18 _ rfl HR2.out (by omega) d6 HU.out.1 HU.out.2 info36s ?_) | ((with_reducible refine gd_store 36 ?_); refine wpl_store_row rfl 36 _ _ rfl w.heap.size 0 36 18 _ (rowA 18 (ruleF o t sl (.slice q5 k c5))) rfl rfl HRt.out (by simp [rowA_size]) (by rw [info36s, rowA_size]) (rowA_all fun i hi => ruleF_one _ _ _ _ rfl i) ?_; intro w8 hR8 hg8))
          refine bodyPost_ret (results_row rfl _ w.heap.size 36 18 _ (by rfl) hR8 d6 HU.out.1 HU.out.2 info36s) rfl ?_
          rw [updR_all]
          have ht : o.days.take k = o.days := by rw [HM.out, List.take_length]
          refine ⟨_, wc.heap.size, rfl, Nat.le_trans HB.out.size HBN.out.size, ?_, (HB.out.trans (HB2.out.mono HB.out.size)).grown hg8 (Nat.le_trans HB.out.size HB2.out.size) (fun j hj => by cases hj; exact Nat.le_refl _)⟩
          have h8 := own_grown HO2.out hg8 (by have := HBN.out.size; omega)
          rw [ht] at h8
          rw [← HM.out]
          exact h8
  case first =>
  simp only [List.append_eq, List.cons_append, List.nil_append]
  refine wp_region_noPanic ?_
  refine wp_region_held_drew (S := (fun w' : World => Below w1.heap.size w1 w' ∧ w'.cell? ⟨G, 0, none⟩ = some (.int .i64 o.freq) ∧ w'.cell? ⟨G, 1, none⟩ = some (.int .i64 t) ∧ w'.cell? ⟨G, 2, none⟩ = some (.int .i64 0) ∧ w'.cell? ⟨G, 3, none⟩ = some (.int .i64 o.interval) ∧ w'.cell? ⟨G, 4, none⟩ = some (.int .i64 o.wk) ∧ w'.cell? ⟨G, 5, none⟩ = some (.int .i64 0) ∧ w'.cell? ⟨G, 6, none⟩ = some (.int .i64 o.count) ∧ w'.cell? ⟨G, 7, none⟩ = some (.int .i64 o.till) ∧ w'.cell? ⟨G, 8, none⟩ = some (.int .i64 0) ∧ w'.cell? ⟨G, 9, none⟩ = some (.slice (slP (sl 9)) (o.l 9).length (slC (sl 9))) ∧ w'.cell? ⟨G, 10, none⟩ = some (.slice (slP (sl 10)) (o.l 10).length (slC (sl 10))) ∧ w'.cell? ⟨G, 11, none⟩ = some (.slice (slP (sl 11)) (o.l 11).length (slC (sl 11))) ∧ w'.cell? ⟨G, 12, none⟩ = some (.slice (slP (sl 12)) (o.l 12).length (slC (sl 12))) ∧ w'.cell? ⟨G, 13, none⟩ = some (.slice (slP (sl 13)) (o.l 13).length (slC (sl 13))) ∧ w'.cell? ⟨G, 14, none⟩ = some (.slice (slP (sl 14)) o.days.length (slC (sl 14))) ∧ w'.cell? ⟨G, 15, none⟩ = some (.slice (slP (sl 15)) (o.l 15).length (slC (sl 15))) ∧ w'.cell? ⟨G, 16, none⟩ = some (.slice (slP (sl 16)) (o.l 16).length (slC (sl 16))) ∧ w'.cell? ⟨G, 17, none⟩ = some (.slice (slP (sl 17)) (o.l 17).length (slC (sl 17))) ∧ w'.cell? ⟨G, 18, none⟩ = some (.slice (slP (sl 18)) (o.l 18).length (slC (sl 18))))) (by kernel_rfl) (HK.out _ ((Below.refl _ _).drew)) (fun hHeld => ?_)
  refine wpAnyH_take (i := 0) (v := ?_) (arr_at rfl) (by as_aux_lemma => kernel_rfl) (by as_aux_lemma => kernel_rfl) (by as_aux_lemma => kernel_rfl) (fun _ _ _ h => h) (Or.inl ⟨by rfl, ?_⟩) hHeld ?_
  rotate_left
  · intro w hSw
    (try dsimp only at hSw)
    go_simp
    all_goals with_reducible rfl
  try simp only [Act.put, List.setIfInBounds_toArray, List.set_cons_zero, List.set_cons_succ]
  refine wpAnyH_take (i := 1) (v := ?_) (arr_at rfl) (by as_aux_lemma => kernel_rfl) (by as_aux_lemma => kernel_rfl) (by as_aux_lemma => kernel_rfl) (fun _ _ _ h => h) (Or.inl ⟨by rfl, ?_⟩) hHeld ?_
  rotate_left
  · intro w hSw
    (try dsimp only at hSw)
    go_simp
    all_goals with_reducible rfl
  try simp only [Act.put, List.setIfInBounds_toArray, List.set_cons_zero, List.set_cons_succ]
  refine wpAnyH_take (i := 2) (v := ?_) (arr_at rfl) (by as_aux_lemma => kernel_rfl) (by as_aux_lemma => kernel_rfl) (by as_aux_lemma => kernel_rfl) (fun _ _ _ h => h) (Or.inl ⟨by rfl, ?_⟩) hHeld ?_
  rotate_left
  · intro w hSw
    (try dsimp only at hSw)
    go_simp
    all_goals with_reducible rfl
  try simp only [Act.put, List.setIfInBounds_toArray, List.set_cons_zero, List.set_cons_succ]
  refine wpAnyH_take (i := 3) (v := ?_) (arr_at rfl) (by as_aux_lemma => kernel_rfl) (by as_aux_lemma => kernel_rfl) (by as_aux_lemma => kernel_rfl) (fun _ _ _ h => h) (Or.inl ⟨by rfl, ?_⟩) hHeld ?_
  rotate_left
  · intro w hSw
    (try dsimp only at hSw)
    go_simp
    all_goals with_reducible rfl
  try simp only [Act.put, List.setIfInBounds_toArray, List.set_cons_zero, List.set_cons_succ]
  refine wpAnyH_take (i := 4) (v := ?_) (arr_at rfl) (by as_aux_lemma => kernel_rfl) (by as_aux_lemma => kernel_rfl) (by as_aux_lemma => kernel_rfl) (fun _ _ _ h => h) (Or.inl ⟨by rfl, ?_⟩) hHeld ?_
  rotate_left
  · intro w hSw
    (try dsimp only at hSw)
    go_simp
    all_goals with_reducible rfl
  try simp only [Act.put, List.setIfInBounds_toArray, List.set_cons_zero, List.set_cons_succ]
  refine wpAnyH_take (i := 5) (v := ?_) (arr_at rfl) (by as_aux_lemma => kernel_rfl) (by as_aux_lemma => kernel_rfl) (by as_aux_lemma => kernel_rfl) (fun _ _ _ h => h) (Or.inl ⟨by rfl, ?_⟩) hHeld ?_
  rotate_left
  · intro w hSw
    (try dsimp only at hSw)
    go_simp
    all_goals with_reducible rfl
  try simp only [Act.put, List.setIfInBounds_toArray, List.set_cons_zero, List.set_cons_succ]
  refine wpAnyH_take (i := 6) (v := ?_) (arr_at rfl) (by as_aux_lemma => kernel_rfl) (by as_aux_lemma => kernel_rfl) (by as_aux_lemma => kernel_rfl) (fun _ _ _ h => h) (Or.inl ⟨by rfl, ?_⟩) hHeld ?_
  rotate_left
  · intro w hSw
    (try dsimp only at hSw)
    go_simp
    all_goals with_reducible rfl
  try simp only [Act.put, List.setIfInBounds_toArray, List.set_cons_zero, List.set_cons_succ]
  refine wpAnyH_take (i := 7) (v := ?_) (arr_at rfl) (by as_aux_lemma => kernel_rfl) (by as_aux_lemma => kernel_rfl) (by as_aux_lemma => kernel_rfl) (fun _ _ _ h => h) (Or.inl ⟨by rfl, ?_⟩) hHeld ?_
  rotate_left
  · intro w hSw
    (try dsimp only at hSw)
    go_simp
    all_goals with_reducible rfl
  try simp only [Act.put, List.setIfInBounds_toArray, List.set_cons_zero, List.set_cons_succ]
  refine wpAnyH_take (i := 8) (v := ?_) (arr_at rfl) (by as_aux_lemma => kernel_rfl) (by as_aux_lemma => kernel_rfl) (by as_aux_lemma => kernel_rfl) (fun _ _ _ h => h) (Or.inl ⟨by rfl, ?_⟩) hHeld ?_
  rotate_left
  · intro w hSw
    (try dsimp only at hSw)
    go_simp
    all_goals with_reducible rfl
  try simp only [Act.put, List.setIfInBounds_toArray, List.set_cons_zero, List.set_cons_succ]
  refine wpAnyH_take (i := 11) (v := ?_) (arr_at rfl) (by as_aux_lemma => kernel_rfl) (by as_aux_lemma => kernel_rfl) (by as_aux_lemma => kernel_rfl) (fun _ _ _ h => h) (Or.inl ⟨by rfl, ?_⟩) hHeld ?_
  rotate_left
  · intro w hSw
    (try dsimp only at hSw)
    go_simp
    all_goals with_reducible rfl
  try simp only [Act.put, List.setIfInBounds_toArray, List.set_cons_zero, List.set_cons_succ]
  refine wpAnyH_take (i := 12) (v := ?_) (arr_at rfl) (by as_aux_lemma => kernel_rfl) (by as_aux_lemma => kernel_rfl) (by as_aux_lemma => kernel_rfl) (fun _ _ _ h => h) (Or.inl ⟨by rfl, ?_⟩) hHeld ?_
  rotate_left
  · intro w hSw
    (try dsimp only at hSw)
    go_simp
    all_goals with_reducible rfl
  try simp only [Act.put, List.setIfInBounds_toArray, List.set_cons_zero, List.set_cons_succ]
  refine wpAnyH_take (i := 13) (v := ?_) (arr_at rfl) (by as_aux_lemma => kernel_rfl) (by as_aux_lemma => kernel_rfl) (by as_aux_lemma => kernel_rfl) (fun _ _ _ h => h) (Or.inl ⟨by rfl, ?_⟩) hHeld ?_
  rotate_left
  · intro w hSw
    (try dsimp only at hSw)
    go_simp
    all_goals with_reducible rfl
  try simp only [Act.put, List.setIfInBounds_toArray, List.set_cons_zero, List.set_cons_succ]
  refine wpAnyH_take (i := 14) (v := ?_) (arr_at rfl) (by as_aux_lemma => kernel_rfl) (by as_aux_lemma => kernel_rfl) (by as_aux_lemma => kernel_rfl) (fun _ _ _ h => h) (Or.inl ⟨by rfl, ?_⟩) hHeld ?_
  rotate_left
  · intro w hSw
    (try dsimp only at hSw)
    go_simp
    all_goals with_reducible rfl
  try simp only [Act.put, List.setIfInBounds_toArray, List.set_cons_zero, List.set_cons_succ]
  refine wpAnyH_take (i := 16) (v := ?_) (arr_at rfl) (by as_aux_lemma => kernel_rfl) (by as_aux_lemma => kernel_rfl) (by as_aux_lemma => kernel_rfl) (fun _ _ _ h => h) (Or.inl ⟨by rfl, ?_⟩) hHeld ?_
  rotate_left
  · intro w hSw
    (try dsimp only at hSw)
    go_simp
    all_goals with_reducible rfl
  try simp only [Act.put, List.setIfInBounds_toArray, List.set_cons_zero, List.set_cons_succ]
  refine wpAnyH_take (i := 17) (v := ?_) (arr_at rfl) (by as_aux_lemma => kernel_rfl) (by as_aux_lemma => kernel_rfl) (by as_aux_lemma => kernel_rfl) (fun _ _ _ h => h) (Or.inl ⟨by rfl, ?_⟩) hHeld ?_
  rotate_left
  · intro w hSw
    (try dsimp only at hSw)
    go_simp
    all_goals with_reducible rfl
  try simp only [Act.put, List.setIfInBounds_toArray, List.set_cons_zero, List.set_cons_succ]
  refine wpAnyH_take (i := 18) (v := ?_) (arr_at rfl) (by as_aux_lemma => kernel_rfl) (by as_aux_lemma => kernel_rfl) (by as_aux_lemma => kernel_rfl) (fun _ _ _ h => h) (Or.inl ⟨by rfl, ?_⟩) hHeld ?_
  rotate_left
  · intro w hSw
    (try dsimp only at hSw)
    go_simp
    all_goals with_reducible rfl
  try simp only [Act.put, List.setIfInBounds_toArray, List.set_cons_zero, List.set_cons_succ]
  refine wpAnyH_take (i := 19) (v := ?_) (arr_at rfl) (by as_aux_lemma => kernel_rfl) (by as_aux_lemma => kernel_rfl) (by as_aux_lemma => kernel_rfl) (fun _ _ _ h => h) (Or.inl ⟨by rfl, ?_⟩) hHeld ?_
  rotate_left
  · intro w hSw
    (try dsimp only at hSw)
    go_simp
    all_goals with_reducible rfl
  try simp only [Act.put, List.setIfInBounds_toArray, List.set_cons_zero, List.set_cons_succ]
  refine wpAnyH_take (i := 20) (v := ?_) (arr_at rfl) (by as_aux_lemma => kernel_rfl) (by as_aux_lemma => kernel_rfl) (by as_aux_lemma => kernel_rfl) (fun _ _ _ h => h) (Or.inl ⟨by rfl, ?_⟩) hHeld ?_
  rotate_left
  · intro w hSw
    (try dsimp only at hSw)
    go_simp
    all_goals with_reducible rfl
  try simp only [Act.put, List.setIfInBounds_toArray, List.set_cons_zero, List.set_cons_succ]
  refine wpAnyH_take (i := 21) (v := ?_) (arr_at rfl) (by as_aux_lemma => kernel_rfl) (by as_aux_lemma => kernel_rfl) (by as_aux_lemma => kernel_rfl) (fun _ _ _ h => h) (Or.inl ⟨by rfl, ?_⟩) hHeld ?_
  rotate_left
  · intro w hSw
    (try dsimp only at hSw)
    go_simp
    all_goals with_reducible rfl
  try simp only [Act.put, List.setIfInBounds_toArray, List.set_cons_zero, List.set_cons_succ]
  refine wpAnyH_take (i := 22) (v := ?_) (arr_at rfl) (by as_aux_lemma => kernel_rfl) (by as_aux_lemma => kernel_rfl) (by as_aux_lemma => kernel_rfl) (fun _ _ _ h => h) (Or.inl ⟨by rfl, ?_⟩) hHeld ?_
  rotate_left
  · intro w hSw
    (try dsimp only at hSw)
    go_simp
    all_goals with_reducible rfl
  try simp only [Act.put, List.setIfInBounds_toArray, List.set_cons_zero, List.set_cons_succ]
  refine wpAnyH_take (i := 24) (v := ?_) (arr_at rfl) (by as_aux_lemma => kernel_rfl) (by as_aux_lemma => kernel_rfl) (by as_aux_lemma => kernel_rfl) (fun _ _ _ h => h) (Or.inl ⟨by rfl, ?_⟩) hHeld ?_
  rotate_left
  · intro w hSw
    (try dsimp only at hSw)
    go_simp
    all_goals with_reducible rfl
  try simp only [Act.put, List.setIfInBounds_toArray, List.set_cons_zero, List.set_cons_succ]
  refine wpAnyH_take (i := 25) (v := ?_) (arr_at rfl) (by as_aux_lemma => kernel_rfl) (by as_aux_lemma => kernel_rfl) (by as_aux_lemma => kernel_rfl) (fun _ _ _ h => h) (Or.inl ⟨by rfl, ?_⟩) hHeld ?_
  rotate_left
  · intro w hSw
    (try dsimp only at hSw)
    go_simp
    all_goals with_reducible rfl
  try simp only [Act.put, List.setIfInBounds_toArray, List.set_cons_zero, List.set_cons_succ]
  refine wpAnyH_take (i := 26) (v := ?_) (arr_at rfl) (by as_aux_lemma => kernel_rfl) (by as_aux_lemma => kernel_rfl) (by as_aux_lemma => kernel_rfl) (fun _ _ _ h => h) (Or.inl ⟨by rfl, ?_⟩) hHeld ?_
  rotate_left
  · intro w hSw
    (try dsimp only at hSw)
    go_simp
    all_goals with_reducible rfl
  try simp only [Act.put, List.setIfInBounds_toArray, List.set_cons_zero, List.set_cons_succ]
  refine wpAnyH_take (i := 27) (v := ?_) (arr_at rfl) (by as_aux_lemma => kernel_rfl) (by as_aux_lemma => kernel_rfl) (by as_aux_lemma => kernel_rfl) (fun _ _ _ h => h) (Or.inl ⟨by rfl, ?_⟩) hHeld ?_
  rotate_left
  · intro w hSw
    (try dsimp only at hSw)
    go_simp
    all_goals with_reducible rfl
  try simp only [Act.put, List.setIfInBounds_toArray, List.set_cons_zero, List.set_cons_succ]
  refine wpAnyH_take (i := 28) (v := ?_) (arr_at rfl) (by as_aux_lemma => kernel_rfl) (by as_aux_lemma => kernel_rfl) (by as_aux_lemma => kernel_rfl) (fun _ _ _ h => h) (Or.inl ⟨by rfl, ?_⟩) hHeld ?_
  rotate_left
  · intro w hSw
    (try dsimp only at hSw)
    go_simp
    all_goals with_reducible rfl
  try simp only [Act.put, List.setIfInBounds_toArray, List.set_cons_zero, List.set_cons_succ]
  refine wpAnyH_take (i := 29) (v := ?_) (arr_at rfl) (by as_aux_lemma => kernel_rfl) (by as_aux_lemma => kernel_rfl) (by as_aux_lemma => kernel_rfl) (fun _ _ _ h => h) (Or.inl ⟨by rfl, ?_⟩) hHeld ?_
  rotate_left
  · intro w hSw
    (try dsimp only at hSw)
    go_simp
    all_goals with_reducible rfl
  try simp only [Act.put, List.setIfInBounds_toArray, List.set_cons_zero, List.set_cons_succ]
  refine wpAnyH_take (i := 30) (v := ?_) (arr_at rfl) (by as_aux_lemma => kernel_rfl) (by as_aux_lemma => kernel_rfl) (by as_aux_lemma => kernel_rfl) (fun _ _ _ h => h) (Or.inl ⟨by rfl, ?_⟩) hHeld ?_
  rotate_left
  · intro w hSw
    (try dsimp only at hSw)
    go_simp
    all_goals with_reducible rfl
  try simp only [Act.put, List.setIfInBounds_toArray, List.set_cons_zero, List.set_cons_succ]
  refine wpAnyH_take (i := 31) (v := ?_) (arr_at rfl) (by as_aux_lemma => kernel_rfl) (by as_aux_lemma => kernel_rfl) (by as_aux_lemma => kernel_rfl) (fun _ _ _ h => h) (Or.inl ⟨by rfl, ?_⟩) hHeld ?_
  rotate_left
  · intro w hSw
    (try dsimp only at hSw)
    go_simp
    all_goals with_reducible rfl
  try simp only [Act.put, List.setIfInBounds_toArray, List.set_cons_zero, List.set_cons_succ]
  refine wpAnyH_take (i := 34) (v := ?_) (arr_at rfl) (by as_aux_lemma => kernel_rfl) (by as_aux_lemma => kernel_rfl) (by as_aux_lemma => kernel_rfl) (fun _ _ _ h => h) (Or.inl ⟨by rfl, ?_⟩) hHeld ?_
  rotate_left
  · intro w hSw
    (try dsimp only at hSw)
    go_simp
    all_goals with_reducible rfl
  try simp only [Act.put, List.setIfInBounds_toArray, List.set_cons_zero, List.set_cons_succ]
  refine wpAnyH_take (i := 35) (v := ?_) (arr_at rfl) (by as_aux_lemma => kernel_rfl) (by as_aux_lemma => kernel_rfl) (by as_aux_lemma => kernel_rfl) (fun _ _ _ h => h) (Or.inl ⟨by rfl, ?_⟩) hHeld ?_
  rotate_left
  · intro w hSw
    (try dsimp only at hSw)
    go_simp
    all_goals with_reducible rfl
  try simp only [Act.put, List.setIfInBounds_toArray, List.set_cons_zero, List.set_cons_succ]
  refine wpAnyH_take (i := 36) (v := ?_) (arr_at rfl) (by as_aux_lemma => kernel_rfl) (by as_aux_lemma => kernel_rfl) (by as_aux_lemma => kernel_rfl) (fun _ _ _ h => h) (Or.inl ⟨by rfl, ?_⟩) hHeld ?_
  rotate_left
  · intro w hSw
    (try dsimp only at hSw)
    go_simp
    all_goals with_reducible rfl
  try simp only [Act.put, List.setIfInBounds_toArray, List.set_cons_zero, List.set_cons_succ]
  refine wpAnyH_take (i := 37) (v := ?_) (arr_at rfl) (by as_aux_lemma => kernel_rfl) (by as_aux_lemma => kernel_rfl) (by as_aux_lemma => kernel_rfl) (fun _ _ _ h => h) (Or.inl ⟨by rfl, ?_⟩) hHeld ?_
  rotate_left
  · intro w hSw
    (try dsimp only at hSw)
    go_simp
    all_goals with_reducible rfl
  try simp only [Act.put, List.setIfInBounds_toArray, List.set_cons_zero, List.set_cons_succ]
  refine wpAnyH_take (i := 39) (v := ?_) (arr_at rfl) (by as_aux_lemma => kernel_rfl) (by as_aux_lemma => kernel_rfl) (by as_aux_lemma => kernel_rfl) (fun _ _ _ h => h) (Or.inl ⟨by rfl, ?_⟩) hHeld ?_
  rotate_left
  · intro w hSw
    (try dsimp only at hSw)
    go_simp
    all_goals with_reducible rfl
  try simp only [Act.put, List.setIfInBounds_toArray, List.set_cons_zero, List.set_cons_succ]
  refine wpAnyH_take (i := 40) (v := ?_) (arr_at rfl) (by as_aux_lemma => kernel_rfl) (by as_aux_lemma => kernel_rfl) (by as_aux_lemma => kernel_rfl) (fun _ _ _ h => h) (Or.inl ⟨by rfl, ?_⟩) hHeld ?_
  rotate_left
  · intro w hSw
    (try dsimp only at hSw)
    go_simp
    all_goals with_reducible rfl
  try simp only [Act.put, List.setIfInBounds_toArray, List.set_cons_zero, List.set_cons_succ]
  refine wpAnyH_take (i := 41) (v := ?_) (arr_at rfl) (by as_aux_lemma => kernel_rfl) (by as_aux_lemma => kernel_rfl) (by as_aux_lemma => kernel_rfl) (fun _ _ _ h => h) (Or.inl ⟨by rfl, ?_⟩) hHeld ?_
  rotate_left
  · intro w hSw
    (try dsimp only at hSw)
    go_simp
    all_goals with_reducible rfl
  try simp only [Act.put, List.setIfInBounds_toArray, List.set_cons_zero, List.set_cons_succ]
  refine wpAnyH_take (i := 42) (v := ?_) (arr_at rfl) (by as_aux_lemma => kernel_rfl) (by as_aux_lemma => kernel_rfl) (by as_aux_lemma => kernel_rfl) (fun _ _ _ h => h) (Or.inl ⟨by rfl, ?_⟩) hHeld ?_
  rotate_left
  · intro w hSw
    (try dsimp only at hSw)
    go_simp
    all_goals with_reducible rfl
  try simp only [Act.put, List.setIfInBounds_toArray, List.set_cons_zero, List.set_cons_succ]
  refine wpAnyH_take (i := 43) (v := ?_) (arr_at rfl) (by as_aux_lemma => kernel_rfl) (by as_aux_lemma => kernel_rfl) (by as_aux_lemma => kernel_rfl) (fun _ _ _ h => h) (Or.inl ⟨by rfl, ?_⟩) hHeld ?_
  rotate_left
  · intro w hSw
    (try dsimp only at hSw)
    go_simp
    all_goals with_reducible rfl
  try simp only [Act.put, List.setIfInBounds_toArray, List.set_cons_zero, List.set_cons_succ]
  refine wpAnyH_take (i := 44) (v := ?_) (arr_at rfl) (by as_aux_lemma => kernel_rfl) (by as_aux_lemma => kernel_rfl) (by as_aux_lemma => kernel_rfl) (fun _ _ _ h => h) (Or.inl ⟨by rfl, ?_⟩) hHeld ?_
  rotate_left
  · intro w hSw
    (try dsimp only at hSw)
    go_simp
    all_goals with_reducible rfl
  try simp only [Act.put, List.setIfInBounds_toArray, List.set_cons_zero, List.set_cons_succ]
  refine wpAnyH_take (i := 45) (v := ?_) (arr_at rfl) (by as_aux_lemma => kernel_rfl) (by as_aux_lemma => kernel_rfl) (by as_aux_lemma => kernel_rfl) (fun _ _ _ h => h) (Or.inl ⟨by rfl, ?_⟩) hHeld ?_
  rotate_left
  · intro w hSw
    (try dsimp only at hSw)
    go_simp
    all_goals with_reducible rfl
  try simp only [Act.put, List.setIfInBounds_toArray, List.set_cons_zero, List.set_cons_succ]
  refine wpAnyH_take (i := 46) (v := ?_) (arr_at rfl) (by as_aux_lemma => kernel_rfl) (by as_aux_lemma => kernel_rfl) (by as_aux_lemma => kernel_rfl) (fun _ _ _ h => h) (Or.inl ⟨by rfl, ?_⟩) hHeld ?_
  rotate_left
  · intro w hSw
    (try dsimp only at hSw)
    go_simp
    all_goals with_reducible rfl
  try simp only [Act.put, List.setIfInBounds_toArray, List.set_cons_zero, List.set_cons_succ]
  refine wpAnyH_take (i := 47) (v := ?_) (arr_at rfl) (by as_aux_lemma => kernel_rfl) (by as_aux_lemma => kernel_rfl) (by as_aux_lemma => kernel_rfl) (fun _ _ _ h => h) (Or.inl ⟨by rfl, ?_⟩) hHeld ?_
  rotate_left
  · intro w hSw
    (try dsimp only at hSw)
    go_simp
    all_goals with_reducible rfl
  try simp only [Act.put, List.setIfInBounds_toArray, List.set_cons_zero, List.set_cons_succ]
  refine wpAnyH_take (i := 48) (v := ?_) (arr_at rfl) (by as_aux_lemma => kernel_rfl) (by as_aux_lemma => kernel_rfl) (by as_aux_lemma => kernel_rfl) (fun _ _ _ h => h) (Or.inl ⟨by rfl, ?_⟩) hHeld ?_
  rotate_left
  · intro w hSw
    (try dsimp only at hSw)
    go_simp
    all_goals with_reducible rfl
  try simp only [Act.put, List.setIfInBounds_toArray, List.set_cons_zero, List.set_cons_succ]
  refine wpAnyH_take (i := 49) (v := ?_) (arr_at rfl) (by as_aux_lemma => kernel_rfl) (by as_aux_lemma => kernel_rfl) (by as_aux_lemma => kernel_rfl) (fun _ _ _ h => h) (Or.inl ⟨by rfl, ?_⟩) hHeld ?_
  rotate_left
  · intro w hSw
    (try dsimp only at hSw)
    go_simp
    all_goals with_reducible rfl
  try simp only [Act.put, List.setIfInBounds_toArray, List.set_cons_zero, List.set_cons_succ]
  refine wpAnyH_take (i := 50) (v := ?_) (arr_at rfl) (by as_aux_lemma => kernel_rfl) (by as_aux_lemma => kernel_rfl) (by as_aux_lemma => kernel_rfl) (fun _ _ _ h => h) (Or.inl ⟨by rfl, ?_⟩) hHeld ?_
  rotate_left
  · intro w hSw
    (try dsimp only at hSw)
    go_simp
    all_goals with_reducible rfl
  try simp only [Act.put, List.setIfInBounds_toArray, List.set_cons_zero, List.set_cons_succ]
  refine wpAnyH_take (i := 51) (v := ?_) (arr_at rfl) (by as_aux_lemma => kernel_rfl) (by as_aux_lemma => kernel_rfl) (by as_aux_lemma => kernel_rfl) (fun _ _ _ h => h) (Or.inl ⟨by rfl, ?_⟩) hHeld ?_
  rotate_left
  · intro w hSw
    (try dsimp only at hSw)
    go_simp
    all_goals with_reducible rfl
  try simp only [Act.put, List.setIfInBounds_toArray, List.set_cons_zero, List.set_cons_succ]
  refine wpAnyH_take (i := 52) (v := ?_) (arr_at rfl) (by as_aux_lemma => kernel_rfl) (by as_aux_lemma => kernel_rfl) (by as_aux_lemma => kernel_rfl) (fun _ _ _ h => h) (Or.inl ⟨by rfl, ?_⟩) hHeld ?_
  rotate_left
  · intro w hSw
    (try dsimp only at hSw)
    go_simp
    all_goals with_reducible rfl
  try simp only [Act.put, List.setIfInBounds_toArray, List.set_cons_zero, List.set_cons_succ]
  refine wpAnyH_take (i := 53) (v := ?_) (arr_at rfl) (by as_aux_lemma => kernel_rfl) (by as_aux_lemma => kernel_rfl) (by as_aux_lemma => kernel_rfl) (fun _ _ _ h => h) (Or.inl ⟨by rfl, ?_⟩) hHeld ?_
  rotate_left
  · intro w hSw
    (try dsimp only at hSw)
    go_simp
    all_goals with_reducible rfl
  try simp only [Act.put, List.setIfInBounds_toArray, List.set_cons_zero, List.set_cons_succ]
  refine wpAnyH_take (i := 54) (v := ?_) (arr_at rfl) (by as_aux_lemma => kernel_rfl) (by as_aux_lemma => kernel_rfl) (by as_aux_lemma => kernel_rfl) (fun _ _ _ h => h) (Or.inl ⟨by rfl, ?_⟩) hHeld ?_
  rotate_left
  · intro w hSw
    (try dsimp only at hSw)
    go_simp
    all_goals with_reducible rfl
  try simp only [Act.put, List.setIfInBounds_toArray, List.set_cons_zero, List.set_cons_succ]
  refine wpAnyH_take (i := 55) (v := ?_) (arr_at rfl) (by as_aux_lemma => kernel_rfl) (by as_aux_lemma => kernel_rfl) (by as_aux_lemma => kernel_rfl) (fun _ _ _ h => h) (Or.inl ⟨by rfl, ?_⟩) hHeld ?_
  rotate_left
  · intro w hSw
    (try dsimp only at hSw)
    go_simp
    all_goals with_reducible rfl
  try simp only [Act.put, List.setIfInBounds_toArray, List.set_cons_zero, List.set_cons_succ]
  refine wpAnyH_take (i := 56) (v := ?_) (arr_at rfl) (by as_aux_lemma => kernel_rfl) (by as_aux_lemma => kernel_rfl) (by as_aux_lemma => kernel_rfl) (fun _ _ _ h => h) (Or.inl ⟨by rfl, ?_⟩) hHeld ?_
  rotate_left
  · intro w hSw
    (try dsimp only at hSw)
    go_simp
    all_goals with_reducible rfl
  try simp only [Act.put, List.setIfInBounds_toArray, List.set_cons_zero, List.set_cons_succ]
  refine wpAnyH_take (i := 57) (v := ?_) (arr_at rfl) (by as_aux_lemma => kernel_rfl) (by as_aux_lemma => kernel_rfl) (by as_aux_lemma => kernel_rfl) (fun _ _ _ h => h) (Or.inl ⟨by rfl, ?_⟩) hHeld ?_
  rotate_left
  · intro w hSw
    (try dsimp only at hSw)
    go_simp
    all_goals with_reducible rfl
  try simp only [Act.put, List.setIfInBounds_toArray, List.set_cons_zero, List.set_cons_succ]
  refine wpAnyH_take (i := 58) (v := ?_) (arr_at rfl) (by as_aux_lemma => kernel_rfl) (by as_aux_lemma => kernel_rfl) (by as_aux_lemma => kernel_rfl) (fun _ _ _ h => h) (Or.inl ⟨by rfl, ?_⟩) hHeld ?_
  rotate_left
  · intro w hSw
    (try dsimp only at hSw)
    go_simp
    all_goals with_reducible rfl
  try simp only [Act.put, List.setIfInBounds_toArray, List.set_cons_zero, List.set_cons_succ]
  refine wpAnyH_take (i := 59) (v := ?_) (arr_at rfl) (by as_aux_lemma => kernel_rfl) (by as_aux_lemma => kernel_rfl) (by as_aux_lemma => kernel_rfl) (fun _ _ _ h => h) (Or.inl ⟨by rfl, ?_⟩) hHeld ?_
  rotate_left
  · intro w hSw
    (try dsimp only at hSw)
    go_simp
    all_goals with_reducible rfl
  try simp only [Act.put, List.setIfInBounds_toArray, List.set_cons_zero, List.set_cons_succ]
  refine wpAnyH_take (i := 60) (v := ?_) (arr_at rfl) (by as_aux_lemma => kernel_rfl) (by as_aux_lemma => kernel_rfl) (by as_aux_lemma => kernel_rfl) (fun _ _ _ h => h) (Or.inl ⟨by rfl, ?_⟩) hHeld ?_
  rotate_left
  · intro w hSw
    (try dsimp only at hSw)
    go_simp
    all_goals with_reducible rfl
  try simp only [Act.put, List.setIfInBounds_toArray, List.set_cons_zero, List.set_cons_succ]
  refine wpAnyH_take (i := 61) (v := ?_) (arr_at rfl) (by as_aux_lemma => kernel_rfl) (by as_aux_lemma => kernel_rfl) (by as_aux_lemma => kernel_rfl) (fun _ _ _ h => h) (Or.inl ⟨by rfl, ?_⟩) hHeld ?_
  rotate_left
  · intro w hSw
    (try dsimp only at hSw)
    go_simp
    all_goals with_reducible rfl
  try simp only [Act.put, List.setIfInBounds_toArray, List.set_cons_zero, List.set_cons_succ]
  refine wpAnyH_take (i := 62) (v := ?_) (arr_at rfl) (by as_aux_lemma => kernel_rfl) (by as_aux_lemma => kernel_rfl) (by as_aux_lemma => kernel_rfl) (fun _ _ _ h => h) (Or.inl ⟨by rfl, ?_⟩) hHeld ?_
  rotate_left
  · intro w hSw
    (try dsimp only at hSw)
    go_simp
    all_goals with_reducible rfl
  try simp only [Act.put, List.setIfInBounds_toArray, List.set_cons_zero, List.set_cons_succ]
  refine wpAnyH_take (i := 63) (v := ?_) (arr_at rfl) (by as_aux_lemma => kernel_rfl) (by as_aux_lemma => kernel_rfl) (by as_aux_lemma => kernel_rfl) (fun _ _ _ h => h) (Or.inl ⟨by rfl, ?_⟩) hHeld ?_
  rotate_left
  · intro w hSw
    (try dsimp only at hSw)
    go_simp
    all_goals with_reducible rfl
  try simp only [Act.put, List.setIfInBounds_toArray, List.set_cons_zero, List.set_cons_succ]
  refine wpAnyH_take (i := 64) (v := ?_) (arr_at rfl) (by as_aux_lemma => kernel_rfl) (by as_aux_lemma => kernel_rfl) (by as_aux_lemma => kernel_rfl) (fun _ _ _ h => h) (Or.inl ⟨by rfl, ?_⟩) hHeld ?_
  rotate_left
  · intro w hSw
    (try dsimp only at hSw)
    go_simp
    all_goals with_reducible rfl
  try simp only [Act.put, List.setIfInBounds_toArray, List.set_cons_zero, List.set_cons_succ]
  refine wpAnyH_take (i := 65) (v := ?_) (arr_at rfl) (by as_aux_lemma => kernel_rfl) (by as_aux_lemma => kernel_rfl) (by as_aux_lemma => kernel_rfl) (fun _ _ _ h => h) (Or.inl ⟨by rfl, ?_⟩) hHeld ?_
  rotate_left
  · intro w hSw
    (try dsimp only at hSw)
    go_simp
    all_goals with_reducible rfl
  try simp only [Act.put, List.setIfInBounds_toArray, List.set_cons_zero, List.set_cons_succ]
  refine wpAnyH_take (i := 66) (v := ?_) (arr_at rfl) (by as_aux_lemma => kernel_rfl) (by as_aux_lemma => kernel_rfl) (by as_aux_lemma => kernel_rfl) (fun _ _ _ h => h) (Or.inl ⟨by rfl, ?_⟩) hHeld ?_
  rotate_left
  · intro w hSw
    (try dsimp only at hSw)
    go_simp
    all_goals with_reducible rfl
  try simp only [Act.put, List.setIfInBounds_toArray, List.set_cons_zero, List.set_cons_succ]
  refine wpAnyH_take (i := 67) (v := ?_) (arr_at rfl) (by as_aux_lemma => kernel_rfl) (by as_aux_lemma => kernel_rfl) (by as_aux_lemma => kernel_rfl) (fun _ _ _ h => h) (Or.inl ⟨by rfl, ?_⟩) hHeld ?_
  rotate_left
  · intro w hSw
    (try dsimp only at hSw)
    go_simp
    all_goals with_reducible rfl
  try simp only [Act.put, List.setIfInBounds_toArray, List.set_cons_zero, List.set_cons_succ]
  refine wpAnyH_take (i := 68) (v := ?_) (arr_at rfl) (by as_aux_lemma => kernel_rfl) (by as_aux_lemma => kernel_rfl) (by as_aux_lemma => kernel_rfl) (fun _ _ _ h => h) (Or.inl ⟨by rfl, ?_⟩) hHeld ?_
  rotate_left
  · intro w hSw
    (try dsimp only at hSw)
    go_simp
    all_goals with_reducible rfl
  try simp only [Act.put, List.setIfInBounds_toArray, List.set_cons_zero, List.set_cons_succ]
  refine wpAnyH_take (i := 69) (v := ?_) (arr_at rfl) (by as_aux_lemma => kernel_rfl) (by as_aux_lemma => kernel_rfl) (by as_aux_lemma => kernel_rfl) (fun _ _ _ h => h) (Or.inl ⟨by rfl, ?_⟩) hHeld ?_
  rotate_left
  · intro w hSw
    (try dsimp only at hSw)
    go_simp
    all_goals with_reducible rfl
  try simp only [Act.put, List.setIfInBounds_toArray, List.set_cons_zero, List.set_cons_succ]
  refine wpAnyH_take (i := 70) (v := ?_) (arr_at rfl) (by as_aux_lemma => kernel_rfl) (by as_aux_lemma => kernel_rfl) (by as_aux_lemma => kernel_rfl) (fun _ _ _ h => h) (Or.inl ⟨by rfl, ?_⟩) hHeld ?_
  rotate_left
  · intro w hSw
    (try dsimp only at hSw)
    go_simp
    all_goals with_reducible rfl
  try simp only [Act.put, List.setIfInBounds_toArray, List.set_cons_zero, List.set_cons_succ]
  refine wpAnyH_take (i := 71) (v := ?_) (arr_at rfl) (by as_aux_lemma => kernel_rfl) (by as_aux_lemma => kernel_rfl) (by as_aux_lemma => kernel_rfl) (fun _ _ _ h => h) (Or.inl ⟨by rfl, ?_⟩) hHeld ?_
  rotate_left
  · intro w hSw
    (try dsimp only at hSw)
    go_simp
    all_goals with_reducible rfl
  try simp only [Act.put, List.setIfInBounds_toArray, List.set_cons_zero, List.set_cons_succ]
  refine wpAnyH_take (i := 72) (v := ?_) (arr_at rfl) (by as_aux_lemma => kernel_rfl) (by as_aux_lemma => kernel_rfl) (by as_aux_lemma => kernel_rfl) (fun _ _ _ h => h) (Or.inl ⟨by rfl, ?_⟩) hHeld ?_
  rotate_left
  · intro w hSw
    (try dsimp only at hSw)
    go_simp
    all_goals with_reducible rfl
  try simp only [Act.put, List.setIfInBounds_toArray, List.set_cons_zero, List.set_cons_succ]
  refine wpAnyH_take (i := 73) (v := ?_) (arr_at rfl) (by as_aux_lemma => kernel_rfl) (by as_aux_lemma => kernel_rfl) (by as_aux_lemma => kernel_rfl) (fun _ _ _ h => h) (Or.inl ⟨by rfl, ?_⟩) hHeld ?_
  rotate_left
  · intro w hSw
    (try dsimp only at hSw)
    go_simp
    all_goals with_reducible rfl
  try simp only [Act.put, List.setIfInBounds_toArray, List.set_cons_zero, List.set_cons_succ]
  refine wpAnyH_take (i := 74) (v := ?_) (arr_at rfl) (by as_aux_lemma => kernel_rfl) (by as_aux_lemma => kernel_rfl) (by as_aux_lemma => kernel_rfl) (fun _ _ _ h => h) (Or.inl ⟨by rfl, ?_⟩) hHeld ?_
  rotate_left
  · intro w hSw
    (try dsimp only at hSw)
    go_simp
    all_goals with_reducible rfl
  try simp only [Act.put, List.setIfInBounds_toArray, List.set_cons_zero, List.set_cons_succ]
  refine wpAnyH_ready (rs := [9, 76]) (by as_aux_lemma => kernel_rfl) (by simp) ?_
  refine AllReadyH.cons (arr_at rfl) (fun K hK => ?_) ?_
  ·
    go_simp
    go_at_call 77; refine (hIZ.out _ _).mono ?_; rintro e w2 ⟨rfl, hb2⟩
    try go_wp2_with fail
    refine hK.out _ _ ?_ (fun hNew => ?_)
    · exact HK.out _ (Below.trans hHeld.1 (hb2.mono hHeld.1.size))
    clear hK K hHeld
    have hHeld := hNew
    clear hNew
    clear hb2
    try simp only [Act.put, List.setIfInBounds_toArray, List.set_cons_zero, List.set_cons_succ]
    refine wpAnyH_take (i := 10) (v := ?_) (arr_at rfl) (by as_aux_lemma => kernel_rfl) (by as_aux_lemma => kernel_rfl) (by as_aux_lemma => kernel_rfl) (fun _ _ _ h => h) (Or.inl ⟨by rfl, ?_⟩) hHeld ?_
    rotate_left
    · intro w hSw
      (try dsimp only at hSw)
      go_simp
      all_goals with_reducible rfl
    try simp only [Act.put, List.setIfInBounds_toArray, List.set_cons_zero, List.set_cons_succ]
    refine wpAnyH_ready (rs := [15, 76]) (by as_aux_lemma => kernel_rfl) (by simp) ?_
    refine AllReadyH.cons (arr_at rfl) (fun K hK => ?_) ?_
    ·
      go_simp
      go_at_call 58; refine (hSE.out _ _).mono ?_; rintro e w2 ⟨rfl, hb2⟩
      try go_wp2_with fail
      refine hK.out _ _ ?_ (fun hNew => ?_)
      · exact HK.out _ (Below.trans hHeld.1 (hb2.mono hHeld.1.size))
      clear hK K hHeld
      have hHeld := hNew
      clear hNew
      clear hb2
      try simp only [Act.put, List.setIfInBounds_toArray, List.set_cons_zero, List.set_cons_succ]
      refine wpAnyH_ready (rs := [23, 76]) (by as_aux_lemma => kernel_rfl) (by simp) ?_
      refine AllReadyH.cons (arr_at rfl) (fun K hK => ?_) ?_
      ·
        have hc4 := hHeld.2.2.2.2.2.1
        go_simp
        go_at_call 94; refine (day94 G 4 o.wk _ hc4).mono ?_; rintro e w2 ⟨rfl, rfl⟩
        try go_wp2_with fail
        refine hK.out _ _ ?_ (fun hNew => ?_)
        · exact HK.out _ hHeld.1
        clear hK K hHeld
        have hHeld := hNew
        clear hNew
        clear hc4
        try simp only [Act.put, List.setIfInBounds_toArray, List.set_cons_zero, List.set_cons_succ]
        refine wpAnyH_ready (rs := [32, 76]) (by as_aux_lemma => kernel_rfl) (by simp) ?_
        refine AllReadyH.cons (arr_at rfl) (fun K hK => ?_) ?_
        ·
          go_simp
          go_at_call 77; refine (hIZ.out _ _).mono ?_; rintro e w2 ⟨rfl, hb2⟩
          try go_wp2_with fail
          refine hK.out _ _ ?_ (fun hNew => ?_)
          · exact HK.out _ (Below.trans hHeld.1 (hb2.mono hHeld.1.size))
          clear hK K hHeld
          have hHeld := hNew
          clear hNew
          clear hb2
          try simp only [Act.put, List.setIfInBounds_toArray, List.set_cons_zero, List.set_cons_succ]
          refine wpAnyH_take (i := 33) (v := ?_) (arr_at rfl) (by as_aux_lemma => kernel_rfl) (by as_aux_lemma => kernel_rfl) (by as_aux_lemma => kernel_rfl) (fun _ _ _ h => h) (Or.inl ⟨by rfl, ?_⟩) hHeld ?_
          rotate_left
          · intro w hSw
            (try dsimp only at hSw)
            go_simp
            all_goals with_reducible rfl
          try simp only [Act.put, List.setIfInBounds_toArray, List.set_cons_zero, List.set_cons_succ]
          refine wpAnyH_ready (rs := [38, 76]) (by as_aux_lemma => kernel_rfl) (by simp) ?_
          refine AllReadyH.cons (arr_at rfl) (fun K hK => ?_) ?_
          ·
            go_simp
            go_at_call 58; refine (hSE.out _ _).mono ?_; rintro e w2 ⟨rfl, hb2⟩
            try go_wp2_with fail
            refine hK.out _ _ ?_ (fun hNew => ?_)
            · exact HK.out _ (Below.trans hHeld.1 (hb2.mono hHeld.1.size))
            clear hK K hHeld
            have hHeld := hNew
            clear hNew
            clear hb2
            try simp only [Act.put, List.setIfInBounds_toArray, List.set_cons_zero, List.set_cons_succ]
            refine wpAnyH_take (i := 75) (v := ?_) (arr_at rfl) (by as_aux_lemma => kernel_rfl) (by as_aux_lemma => kernel_rfl) (by as_aux_lemma => kernel_rfl) (fun _ _ _ h => h) (Or.inl ⟨by rfl, ?_⟩) hHeld ?_
            rotate_left
            · intro w hSw
              (try dsimp only at hSw)
              go_simp
              all_goals with_reducible rfl
            try simp only [Act.put, List.setIfInBounds_toArray, List.set_cons_zero, List.set_cons_succ]
            refine wpAnyH_ready (rs := [76]) (by as_aux_lemma => kernel_rfl) (by simp) ?_
            refine AllReadyH.cons (arr_at rfl) (fun K hK => ?_) ?_
            ·
              have hX := hHeld.1.size
              go_simp
              refine hK.out _ _ ?_ (fun hNew => ?_)
              · exact HK.out _ (hHeld.1.alloc hHeld.1.size _)
              clear hK K hHeld
              have hHeld := hNew
              clear hNew
              first | have hZ := of_new36 hHeld.1 | have hZ := of_new36d hHeld.1
              try simp only [Act.put, List.setIfInBounds_toArray, List.set_cons_zero, List.set_cons_succ]
              refine wpAnyH_ready (rs := [77]) (by as_aux_lemma => kernel_rfl) (by simp) ?_
              refine AllReadyH.cons (arr_at rfl) (fun K hK => ?_) ?_
              ·
                rw [if_pos (by rfl)]
                refine wp_store_mid 36 _ _ rfl _ 0 _ rfl rfl (rowIs_there hZ 0 18 (by omega)) info36s (by simp [Value.oneCell']) ?_
                refine hK.out _ _ ?_ (fun hNew => ?_)
                · exact HK.out _ (Below.grown hHeld.1 (setCells_grown _ _ _ (World.grownBy.refl _ _)) hHeld.1.size (fun k hk => by cases hk; exact hX))
                clear hK K hHeld
                have hHeld := hNew
                clear hNew
                have hRW := stored36 hHeld.1 hZ
                try simp only [Act.put]
                refine wpAnyH_done (by as_aux_lemma => kernel_rfl) ?_ _
                refine NoPanic.normal ?_
                as_aux_lemma =>
                  go_wp2_with fail
                  go_meet
                  exact ⟨_, rfl, hX, World.rowIs.congr hRW fun i hi => by
                      have h18 : i = 0 ∨ i = 1 ∨ i = 2 ∨ i = 3 ∨ i = 4 ∨ i = 5 ∨ i = 6 ∨ i = 7 ∨ i = 8 ∨ i = 9 ∨ i = 10 ∨ i = 11 ∨ i = 12 ∨ i = 13 ∨ i = 14 ∨ i = 15 ∨ i = 16 ∨ i = 17 := by omega
                      rcases h18 with h | h | h | h | h | h | h | h | h | h | h | h | h | h | h | h | h | h <;> subst h <;> simp [ruleF], hHeld.1⟩
              exact AllReadyH.nil
            exact AllReadyH.nil
          refine AllReadyH.cons (arr_at rfl) (fun K hK => ?_) ?_
          ·
            have hX := hHeld.1.size
            go_simp
            refine hK.out _ _ ?_ (fun hNew => ?_)
            · exact HK.out _ (hHeld.1.alloc hHeld.1.size _)
            clear hK K hHeld
            have hHeld := hNew
            clear hNew
            first | have hZ := of_new36 hHeld.1 | have hZ := of_new36d hHeld.1
            try simp only [Act.put, List.setIfInBounds_toArray, List.set_cons_zero, List.set_cons_succ]
            refine wpAnyH_ready (rs := [38]) (by as_aux_lemma => kernel_rfl) (by simp) ?_
            refine AllReadyH.cons (arr_at rfl) (fun K hK => ?_) ?_
            ·
              go_simp
              go_at_call 58; refine (hSE.out _ _).mono ?_; rintro e w2 ⟨rfl, hb2⟩
              have hZ := below_row hZ hb2 hZ.lt
              try go_wp2_with fail
              refine hK.out _ _ ?_ (fun hNew => ?_)
              · exact HK.out _ (Below.trans hHeld.1 (hb2.mono hHeld.1.size))
              clear hK K hHeld
              have hHeld := hNew
              clear hNew
              clear hb2
              try simp only [Act.put, List.setIfInBounds_toArray, List.set_cons_zero, List.set_cons_succ]
              refine wpAnyH_take (i := 75) (v := ?_) (arr_at rfl) (by as_aux_lemma => kernel_rfl) (by as_aux_lemma => kernel_rfl) (by as_aux_lemma => kernel_rfl) (fun _ _ _ h => h) (Or.inl ⟨by rfl, ?_⟩) hHeld ?_
              rotate_left
              · intro w hSw
                (try dsimp only at hSw)
                go_simp
                all_goals with_reducible rfl
              try simp only [Act.put, List.setIfInBounds_toArray, List.set_cons_zero, List.set_cons_succ]
              refine wpAnyH_ready (rs := [77]) (by as_aux_lemma => kernel_rfl) (by simp) ?_
              refine AllReadyH.cons (arr_at rfl) (fun K hK => ?_) ?_
              ·
                rw [if_pos (by rfl)]
                refine wp_store_mid 36 _ _ rfl _ 0 _ rfl rfl (rowIs_there hZ 0 18 (by omega)) info36s (by simp [Value.oneCell']) ?_
                refine hK.out _ _ ?_ (fun hNew => ?_)
                · exact HK.out _ (Below.grown hHeld.1 (setCells_grown _ _ _ (World.grownBy.refl _ _)) hHeld.1.size (fun k hk => by cases hk; exact hX))
                clear hK K hHeld
                have hHeld := hNew
                clear hNew
                have hRW := stored36 hHeld.1 hZ
                try simp only [Act.put]
                refine wpAnyH_done (by as_aux_lemma => kernel_rfl) ?_ _
                refine NoPanic.normal ?_
                as_aux_lemma =>
                  go_wp2_with fail
                  go_meet
                  exact ⟨_, rfl, hX, World.rowIs.congr hRW fun i hi => by
                      have h18 : i = 0 ∨ i = 1 ∨ i = 2 ∨ i = 3 ∨ i = 4 ∨ i = 5 ∨ i = 6 ∨ i = 7 ∨ i = 8 ∨ i = 9 ∨ i = 10 ∨ i = 11 ∨ i = 12 ∨ i = 13 ∨ i = 14 ∨ i = 15 ∨ i = 16 ∨ i = 17 := by omega
                      rcases h18 with h | h | h | h | h | h | h | h | h | h | h | h | h | h | h | h | h | h <;> subst h <;> simp [ruleF], hHeld.1⟩
              exact AllReadyH.nil
            exact AllReadyH.nil
          exact AllReadyH.nil
        refine AllReadyH.cons (arr_at rfl) (fun K hK => ?_) ?_
        ·
          have hX := hHeld.1.size
          go_simp
          refine hK.out _ _ ?_ (fun hNew => ?_)
          · exact HK.out _ (hHeld.1.alloc hHeld.1.size _)
          clear hK K hHeld
          have hHeld := hNew
          clear hNew
          first | have hZ := of_new36 hHeld.1 | have hZ := of_new36d hHeld.1
          try simp only [Act.put, List.setIfInBounds_toArray, List.set_cons_zero, List.set_cons_succ]
          refine wpAnyH_ready (rs := [32]) (by as_aux_lemma => kernel_rfl) (by simp) ?_
          refine AllReadyH.cons (arr_at rfl) (fun K hK => ?_) ?_
          ·
            go_simp
            go_at_call 77; refine (hIZ.out _ _).mono ?_; rintro e w2 ⟨rfl, hb2⟩
            have hZ := below_row hZ hb2 hZ.lt
            try go_wp2_with fail
            refine hK.out _ _ ?_ (fun hNew => ?_)
            · exact HK.out _ (Below.trans hHeld.1 (hb2.mono hHeld.1.size))
            clear hK K hHeld
            have hHeld := hNew
            clear hNew
            clear hb2
            try simp only [Act.put, List.setIfInBounds_toArray, List.set_cons_zero, List.set_cons_succ]
            refine wpAnyH_take (i := 33) (v := ?_) (arr_at rfl) (by as_aux_lemma => kernel_rfl) (by as_aux_lemma => kernel_rfl) (by as_aux_lemma => kernel_rfl) (fun _ _ _ h => h) (Or.inl ⟨by rfl, ?_⟩) hHeld ?_
            rotate_left
            · intro w hSw
              (try dsimp only at hSw)
              go_simp
              all_goals with_reducible rfl
            try simp only [Act.put, List.setIfInBounds_toArray, List.set_cons_zero, List.set_cons_succ]
            refine wpAnyH_ready (rs := [38]) (by as_aux_lemma => kernel_rfl) (by simp) ?_
            refine AllReadyH.cons (arr_at rfl) (fun K hK => ?_) ?_
            ·
              go_simp
              go_at_call 58; refine (hSE.out _ _).mono ?_; rintro e w2 ⟨rfl, hb2⟩
              have hZ := below_row hZ hb2 hZ.lt
              try go_wp2_with fail
              refine hK.out _ _ ?_ (fun hNew => ?_)
              · exact HK.out _ (Below.trans hHeld.1 (hb2.mono hHeld.1.size))
              clear hK K hHeld
              have hHeld := hNew
              clear hNew
              clear hb2
              try simp only [Act.put, List.setIfInBounds_toArray, List.set_cons_zero, List.set_cons_succ]
              refine wpAnyH_take (i := 75) (v := ?_) (arr_at rfl) (by as_aux_lemma => kernel_rfl) (by as_aux_lemma => kernel_rfl) (by as_aux_lemma => kernel_rfl) (fun _ _ _ h => h) (Or.inl ⟨by rfl, ?_⟩) hHeld ?_
              rotate_left
              · intro w hSw
                (try dsimp only at hSw)
                go_simp
                all_goals with_reducible rfl
              try simp only [Act.put, List.setIfInBounds_toArray, List.set_cons_zero, List.set_cons_succ]
              refine wpAnyH_ready (rs := [77]) (by as_aux_lemma => kernel_rfl) (by simp) ?_
              refine AllReadyH.cons (arr_at rfl) (fun K hK => ?_) ?_
              ·
                rw [if_pos (by rfl)]
                refine wp_store_mid 36 _ _ rfl _ 0 _ rfl rfl (rowIs_there hZ 0 18 (by omega)) info36s (by simp [Value.oneCell']) ?_
                refine hK.out _ _ ?_ (fun hNew => ?_)
                · exact HK.out _ (Below.grown hHeld.1 (setCells_grown _ _ _ (World.grownBy.refl _ _)) hHeld.1.size (fun k hk => by cases hk; exact hX))
                clear hK K hHeld
                have hHeld := hNew
                clear hNew
                have hRW := stored36 hHeld.1 hZ
                try simp only [Act.put]
                refine wpAnyH_done (by as_aux_lemma => kernel_rfl) ?_ _
                refine NoPanic.normal ?_
                as_aux_lemma =>
                  go_wp2_with fail
                  go_meet
                  exact ⟨_, rfl, hX, World.rowIs.congr hRW fun i hi => by
                      have h18 : i = 0 ∨ i = 1 ∨ i = 2 ∨ i = 3 ∨ i = 4 ∨ i = 5 ∨ i = 6 ∨ i = 7 ∨ i = 8 ∨ i = 9 ∨ i = 10 ∨ i = 11 ∨ i = 12 ∨ i = 13 ∨ i = 14 ∨ i = 15 ∨ i = 16 ∨ i = 17 := by omega
                      rcases h18 with h | h | h | h | h | h | h | h | h | h | h | h | h | h | h | h | h | h <;> subst h <;> simp [ruleF], hHeld.1⟩
              exact AllReadyH.nil
            exact AllReadyH.nil
          exact AllReadyH.nil
        exact AllReadyH.nil
      refine AllReadyH.cons (arr_at rfl) (fun K hK => ?_) ?_
      ·
        have hX := hHeld.1.size
        go_simp
        refine hK.out _ _ ?_ (fun hNew => ?_)
        · exact HK.out _ (hHeld.1.alloc hHeld.1.size _)
        clear hK K hHeld
        have hHeld := hNew
        clear hNew
        first | have hZ := of_new36 hHeld.1 | have hZ := of_new36d hHeld.1
        try simp only [Act.put, List.setIfInBounds_toArray, List.set_cons_zero, List.set_cons_succ]
        refine wpAnyH_ready (rs := [23]) (by as_aux_lemma => kernel_rfl) (by simp) ?_
        refine AllReadyH.cons (arr_at rfl) (fun K hK => ?_) ?_
        ·
          have hc4 := hHeld.2.2.2.2.2.1
          go_simp
          go_at_call 94; refine (day94 G 4 o.wk _ hc4).mono ?_; rintro e w2 ⟨rfl, rfl⟩
          try go_wp2_with fail
          refine hK.out _ _ ?_ (fun hNew => ?_)
          · exact HK.out _ hHeld.1
          clear hK K hHeld
          have hHeld := hNew
          clear hNew
          clear hc4
          try simp only [Act.put, List.setIfInBounds_toArray, List.set_cons_zero, List.set_cons_succ]
          refine wpAnyH_ready (rs := [32]) (by as_aux_lemma => kernel_rfl) (by simp) ?_
          refine AllReadyH.cons (arr_at rfl) (fun K hK => ?_) ?_
          ·
            go_simp
            go_at_call 77; refine (hIZ.out _ _).mono ?_; rintro e w2 ⟨rfl, hb2⟩
            have hZ := below_row hZ hb2 hZ.lt
            try go_wp2_with fail
            refine hK.out _ _ ?_ (fun hNew => ?_)
            · exact HK.out _ (Below.trans hHeld.1 (hb2.mono hHeld.1.size))
            clear hK K hHeld
            have hHeld := hNew
            clear hNew
            clear hb2
            try simp only [Act.put, List.setIfInBounds_toArray, List.set_cons_zero, List.set_cons_succ]
            refine wpAnyH_take (i := 33) (v := ?_) (arr_at rfl) (by as_aux_lemma => kernel_rfl) (by as_aux_lemma => kernel_rfl) (by as_aux_lemma => kernel_rfl) (fun _ _ _ h => h) (Or.inl ⟨by rfl, ?_⟩) hHeld ?_
            rotate_left
            · intro w hSw
              (try dsimp only at hSw)
              go_simp
              all_goals with_reducible rfl
            try simp only [Act.put, List.setIfInBounds_toArray, List.set_cons_zero, List.set_cons_succ]
            refine wpAnyH_ready (rs := [38]) (by as_aux_lemma => kernel_rfl) (by simp) ?_
            refine AllReadyH.cons (arr_at rfl) (fun K hK => ?_) ?_
            ·
              go_simp
              go_at_call 58; refine (hSE.out _ _).mono ?_; rintro e w2 ⟨rfl, hb2⟩
              have hZ := below_row hZ hb2 hZ.lt
              try go_wp2_with fail
              refine hK.out _ _ ?_ (fun hNew => ?_)
              · exact HK.out _ (Below.trans hHeld.1 (hb2.mono hHeld.1.size))
              clear hK K hHeld
              have hHeld := hNew
              clear hNew
              clear hb2
              try simp only [Act.put, List.setIfInBounds_toArray, List.set_cons_zero, List.set_cons_succ]
              refine wpAnyH_take (i := 75) (v := ?_) (arr_at rfl) (by as_aux_lemma => kernel_rfl) (by as_aux_lemma => kernel_rfl) (by as_aux_lemma => kernel_rfl) (fun _ _ _ h => h) (Or.inl ⟨by rfl, ?_⟩) hHeld ?_
              rotate_left
              · intro w hSw
                (try dsimp only at hSw)
                go_simp
                all_goals with_reducible rfl
              try simp only [Act.put, List.setIfInBounds_toArray, List.set_cons_zero, List.set_cons_succ]
              refine wpAnyH_ready (rs := [77]) (by as_aux_lemma => kernel_rfl) (by simp) ?_
              refine AllReadyH.cons (arr_at rfl) (fun K hK => ?_) ?_
              ·
                rw [if_pos (by rfl)]
                refine wp_store_mid 36 _ _ rfl _ 0 _ rfl rfl (rowIs_there hZ 0 18 (by omega)) info36s (by simp [Value.oneCell']) ?_
                refine hK.out _ _ ?_ (fun hNew => ?_)
                · exact HK.out _ (Below.grown hHeld.1 (setCells_grown _ _ _ (World.grownBy.refl _ _)) hHeld.1.size (fun k hk => by cases hk; exact hX))
                clear hK K hHeld
                have hHeld := hNew
                clear hNew
                have hRW := stored36 hHeld.1 hZ
                try simp only [Act.put]
                refine wpAnyH_done (by as_aux_lemma => kernel_rfl) ?_ _
                refine NoPanic.normal ?_
                as_aux_lemma =>
                  go_wp2_with fail
                  go_meet
                  exact ⟨_, rfl, hX, World.rowIs.congr hRW fun i hi => by
                      have h18 : i = 0 ∨ i = 1 ∨ i = 2 ∨ i = 3 ∨ i = 4 ∨ i = 5 ∨ i = 6 ∨ i = 7 ∨ i = 8 ∨ i = 9 ∨ i = 10 ∨ i = 11 ∨ i = 12 ∨ i = 13 ∨ i = 14 ∨ i = 15 ∨ i = 16 ∨ i = 17 := by omega
                      rcases h18 with h | h | h | h | h | h | h | h | h | h | h | h | h | h | h | h | h | h <;> subst h <;> simp [ruleF], hHeld.1⟩
              exact AllReadyH.nil
            exact AllReadyH.nil
          exact AllReadyH.nil
        exact AllReadyH.nil
      exact AllReadyH.nil
    refine AllReadyH.cons (arr_at rfl) (fun K hK => ?_) ?_
    ·
      have hX := hHeld.1.size
      go_simp
      refine hK.out _ _ ?_ (fun hNew => ?_)
      · exact HK.out _ (hHeld.1.alloc hHeld.1.size _)
      clear hK K hHeld
      have hHeld := hNew
      clear hNew
      first | have hZ := of_new36 hHeld.1 | have hZ := of_new36d hHeld.1
      try simp only [Act.put, List.setIfInBounds_toArray, List.set_cons_zero, List.set_cons_succ]
      refine wpAnyH_ready (rs := [15]) (by as_aux_lemma => kernel_rfl) (by simp) ?_
      refine AllReadyH.cons (arr_at rfl) (fun K hK => ?_) ?_
      ·
        go_simp
        go_at_call 58; refine (hSE.out _ _).mono ?_; rintro e w2 ⟨rfl, hb2⟩
        have hZ := below_row hZ hb2 hZ.lt
        try go_wp2_with fail
        refine hK.out _ _ ?_ (fun hNew => ?_)
        · exact HK.out _ (Below.trans hHeld.1 (hb2.mono hHeld.1.size))
        clear hK K hHeld
        have hHeld := hNew
        clear hNew
        clear hb2
        try simp only [Act.put, List.setIfInBounds_toArray, List.set_cons_zero, List.set_cons_succ]
        refine wpAnyH_ready (rs := [23]) (by as_aux_lemma => kernel_rfl) (by simp) ?_
        refine AllReadyH.cons (arr_at rfl) (fun K hK => ?_) ?_
        ·
          have hc4 := hHeld.2.2.2.2.2.1
          go_simp
          go_at_call 94; refine (day94 G 4 o.wk _ hc4).mono ?_; rintro e w2 ⟨rfl, rfl⟩
          try go_wp2_with fail
          refine hK.out _ _ ?_ (fun hNew => ?_)
          · exact HK.out _ hHeld.1
          clear hK K hHeld
          have hHeld := hNew
          clear hNew
          clear hc4
          try simp only [Act.put, List.setIfInBounds_toArray, List.set_cons_zero, List.set_cons_succ]
          refine wpAnyH_ready (rs := [32]) (by as_aux_lemma => kernel_rfl) (by simp) ?_
          refine AllReadyH.cons (arr_at rfl) (fun K hK => ?_) ?_
          ·
            go_simp
            go_at_call 77; refine (hIZ.out _ _).mono ?_; rintro e w2 ⟨rfl, hb2⟩
            have hZ := below_row hZ hb2 hZ.lt
            try go_wp2_with fail
            refine hK.out _ _ ?_ (fun hNew => ?_)
            · exact HK.out _ (Below.trans hHeld.1 (hb2.mono hHeld.1.size))
            clear hK K hHeld
            have hHeld := hNew
            clear hNew
            clear hb2
            try simp only [Act.put, List.setIfInBounds_toArray, List.set_cons_zero, List.set_cons_succ]
            refine wpAnyH_take (i := 33) (v := ?_) (arr_at rfl) (by as_aux_lemma => kernel_rfl) (by as_aux_lemma => kernel_rfl) (by as_aux_lemma => kernel_rfl) (fun _ _ _ h => h) (Or.inl ⟨by rfl, ?_⟩) hHeld ?_
            rotate_left
            · intro w hSw
              (try dsimp only at hSw)
              go_simp
              all_goals with_reducible rfl
            try simp only [Act.put, List.setIfInBounds_toArray, List.set_cons_zero, List.set_cons_succ]
            refine wpAnyH_ready (rs := [38]) (by as_aux_lemma => kernel_rfl) (by simp) ?_
            refine AllReadyH.cons (arr_at rfl) (fun K hK => ?_) ?_
            ·
              go_simp
              go_at_call 58; refine (hSE.out _ _).mono ?_; rintro e w2 ⟨rfl, hb2⟩
              have hZ := below_row hZ hb2 hZ.lt
              try go_wp2_with fail
              refine hK.out _ _ ?_ (fun hNew => ?_)
              · exact HK.out _ (Below.trans hHeld.1 (hb2.mono hHeld.1.size))
              clear hK K hHeld
              have hHeld := hNew
              clear hNew
              clear hb2
              try simp only [Act.put, List.setIfInBounds_toArray, List.set_cons_zero, List.set_cons_succ]
              refine wpAnyH_take (i := 75) (v := ?_) (arr_at rfl) (by as_aux_lemma => kernel_rfl) (by as_aux_lemma => kernel_rfl) (by as_aux_lemma => kernel_rfl) (fun _ _ _ h => h) (Or.inl ⟨by rfl, ?_⟩) hHeld ?_
              rotate_left
              · intro w hSw
                (try dsimp only at hSw)
                go_simp
                all_goals with_reducible rfl
              try simp only [Act.put, List.setIfInBounds_toArray, List.set_cons_zero, List.set_cons_succ]
              refine wpAnyH_ready (rs := [77]) (by as_aux_lemma => kernel_rfl) (by simp) ?_
              refine AllReadyH.cons (arr_at rfl) (fun K hK => ?_) ?_
              ·
                rw [if_pos (by rfl)]
                refine wp_store_mid 36 _ _ rfl _ 0 _ rfl rfl (rowIs_there hZ 0 18 (by omega)) info36s (by simp [Value.oneCell']) ?_
                refine hK.out _ _ ?_ (fun hNew => ?_)
                · exact HK.out _ (Below.grown hHeld.1 (setCells_grown _ _ _ (World.grownBy.refl _ _)) hHeld.1.size (fun k hk => by cases hk; exact hX))
                clear hK K hHeld
                have hHeld := hNew
                clear hNew
                have hRW := stored36 hHeld.1 hZ
                try simp only [Act.put]
                refine wpAnyH_done (by as_aux_lemma => kernel_rfl) ?_ _
                refine NoPanic.normal ?_
                as_aux_lemma =>
                  go_wp2_with fail
                  go_meet
                  exact ⟨_, rfl, hX, World.rowIs.congr hRW fun i hi => by
                      have h18 : i = 0 ∨ i = 1 ∨ i = 2 ∨ i = 3 ∨ i = 4 ∨ i = 5 ∨ i = 6 ∨ i = 7 ∨ i = 8 ∨ i = 9 ∨ i = 10 ∨ i = 11 ∨ i = 12 ∨ i = 13 ∨ i = 14 ∨ i = 15 ∨ i = 16 ∨ i = 17 := by omega
                      rcases h18 with h | h | h | h | h | h | h | h | h | h | h | h | h | h | h | h | h | h <;> subst h <;> simp [ruleF], hHeld.1⟩
              exact AllReadyH.nil
            exact AllReadyH.nil
          exact AllReadyH.nil
        exact AllReadyH.nil
      exact AllReadyH.nil
    exact AllReadyH.nil
  refine AllReadyH.cons (arr_at rfl) (fun K hK => ?_) ?_
  ·
    have hX := hHeld.1.size
    go_simp
    refine hK.out _ _ ?_ (fun hNew => ?_)
    · exact HK.out _ (hHeld.1.alloc hHeld.1.size _)
    clear hK K hHeld
    have hHeld := hNew
    clear hNew
    first | have hZ := of_new36 hHeld.1 | have hZ := of_new36d hHeld.1
    try simp only [Act.put, List.setIfInBounds_toArray, List.set_cons_zero, List.set_cons_succ]
    refine wpAnyH_ready (rs := [9]) (by as_aux_lemma => kernel_rfl) (by simp) ?_
    refine AllReadyH.cons (arr_at rfl) (fun K hK => ?_) ?_
    ·
      go_simp
      go_at_call 77; refine (hIZ.out _ _).mono ?_; rintro e w2 ⟨rfl, hb2⟩
      have hZ := below_row hZ hb2 hZ.lt
      try go_wp2_with fail
      refine hK.out _ _ ?_ (fun hNew => ?_)
      · exact HK.out _ (Below.trans hHeld.1 (hb2.mono hHeld.1.size))
      clear hK K hHeld
      have hHeld := hNew
      clear hNew
      clear hb2
      try simp only [Act.put, List.setIfInBounds_toArray, List.set_cons_zero, List.set_cons_succ]
      refine wpAnyH_take (i := 10) (v := ?_) (arr_at rfl) (by as_aux_lemma => kernel_rfl) (by as_aux_lemma => kernel_rfl) (by as_aux_lemma => kernel_rfl) (fun _ _ _ h => h) (Or.inl ⟨by rfl, ?_⟩) hHeld ?_
      rotate_left
      · intro w hSw
        (try dsimp only at hSw)
        go_simp
        all_goals with_reducible rfl
      try simp only [Act.put, List.setIfInBounds_toArray, List.set_cons_zero, List.set_cons_succ]
      refine wpAnyH_ready (rs := [15]) (by as_aux_lemma => kernel_rfl) (by simp) ?_
      refine AllReadyH.cons (arr_at rfl) (fun K hK => ?_) ?_
      ·
        go_simp
        go_at_call 58; refine (hSE.out _ _).mono ?_; rintro e w2 ⟨rfl, hb2⟩
        have hZ := below_row hZ hb2 hZ.lt
        try go_wp2_with fail
        refine hK.out _ _ ?_ (fun hNew => ?_)
        · exact HK.out _ (Below.trans hHeld.1 (hb2.mono hHeld.1.size))
        clear hK K hHeld
        have hHeld := hNew
        clear hNew
        clear hb2
        try simp only [Act.put, List.setIfInBounds_toArray, List.set_cons_zero, List.set_cons_succ]
        refine wpAnyH_ready (rs := [23]) (by as_aux_lemma => kernel_rfl) (by simp) ?_
        refine AllReadyH.cons (arr_at rfl) (fun K hK => ?_) ?_
        ·
          have hc4 := hHeld.2.2.2.2.2.1
          go_simp
          go_at_call 94; refine (day94 G 4 o.wk _ hc4).mono ?_; rintro e w2 ⟨rfl, rfl⟩
          try go_wp2_with fail
          refine hK.out _ _ ?_ (fun hNew => ?_)
          · exact HK.out _ hHeld.1
          clear hK K hHeld
          have hHeld := hNew
          clear hNew
          clear hc4
          try simp only [Act.put, List.setIfInBounds_toArray, List.set_cons_zero, List.set_cons_succ]
          refine wpAnyH_ready (rs := [32]) (by as_aux_lemma => kernel_rfl) (by simp) ?_
          refine AllReadyH.cons (arr_at rfl) (fun K hK => ?_) ?_
          ·
            go_simp
            go_at_call 77; refine (hIZ.out _ _).mono ?_; rintro e w2 ⟨rfl, hb2⟩
            have hZ := below_row hZ hb2 hZ.lt
            try go_wp2_with fail
            refine hK.out _ _ ?_ (fun hNew => ?_)
            · exact HK.out _ (Below.trans hHeld.1 (hb2.mono hHeld.1.size))
            clear hK K hHeld
            have hHeld := hNew
            clear hNew
            clear hb2
            try simp only [Act.put, List.setIfInBounds_toArray, List.set_cons_zero, List.set_cons_succ]
            refine wpAnyH_take (i := 33) (v := ?_) (arr_at rfl) (by as_aux_lemma => kernel_rfl) (by as_aux_lemma => kernel_rfl) (by as_aux_lemma => kernel_rfl) (fun _ _ _ h => h) (Or.inl ⟨by rfl, ?_⟩) hHeld ?_
            rotate_left
            · intro w hSw
              (try dsimp only at hSw)
              go_simp
              all_goals with_reducible rfl
            try simp only [Act.put, List.setIfInBounds_toArray, List.set_cons_zero, List.set_cons_succ]
            refine wpAnyH_ready (rs := [38]) (by as_aux_lemma => kernel_rfl) (by simp) ?_
            refine AllReadyH.cons (arr_at rfl) (fun K hK => ?_) ?_
            ·
              go_simp
              go_at_call 58; refine (hSE.out _ _).mono ?_; rintro e w2 ⟨rfl, hb2⟩
              have hZ := below_row hZ hb2 hZ.lt
              try go_wp2_with fail
              refine hK.out _ _ ?_ (fun hNew => ?_)
              · exact HK.out _ (Below.trans hHeld.1 (hb2.mono hHeld.1.size))
              clear hK K hHeld
              have hHeld := hNew
              clear hNew
              clear hb2
              try simp only [Act.put, List.setIfInBounds_toArray, List.set_cons_zero, List.set_cons_succ]
              refine wpAnyH_take (i := 75) (v := ?_) (arr_at rfl) (by as_aux_lemma => kernel_rfl) (by as_aux_lemma => kernel_rfl) (by as_aux_lemma => kernel_rfl) (fun _ _ _ h => h) (Or.inl ⟨by rfl, ?_⟩) hHeld ?_
              rotate_left
              · intro w hSw
                (try dsimp only at hSw)
                go_simp
                all_goals with_reducible rfl
              try simp only [Act.put, List.setIfInBounds_toArray, List.set_cons_zero, List.set_cons_succ]
              refine wpAnyH_ready (rs := [77]) (by as_aux_lemma => kernel_rfl) (by simp) ?_
              refine AllReadyH.cons (arr_at rfl) (fun K hK => ?_) ?_
              ·
                rw [if_pos (by rfl)]
                refine wp_store_mid 36 _ _ rfl _ 0 _ rfl rfl (rowIs_there hZ 0 18 (by omega)) info36s (by simp [Value.oneCell']) ?_
                refine hK.out _ _ ?_ (fun hNew => ?_)
                · exact HK.out _ (Below.grown hHeld.1 (setCells_grown _ _ _ (World.grownBy.refl _ _)) hHeld.1.size (fun k hk => by cases hk; exact hX))
                clear hK K hHeld
                have hHeld := hNew
                clear hNew
                have hRW := stored36 hHeld.1 hZ
                try simp only [Act.put]
                refine wpAnyH_done (by as_aux_lemma => kernel_rfl) ?_ _
                refine NoPanic.normal ?_
                as_aux_lemma =>
                  go_wp2_with fail
                  go_meet
                  exact ⟨_, rfl, hX, World.rowIs.congr hRW fun i hi => by
                      have h18 : i = 0 ∨ i = 1 ∨ i = 2 ∨ i = 3 ∨ i = 4 ∨ i = 5 ∨ i = 6 ∨ i = 7 ∨ i = 8 ∨ i = 9 ∨ i = 10 ∨ i = 11 ∨ i = 12 ∨ i = 13 ∨ i = 14 ∨ i = 15 ∨ i = 16 ∨ i = 17 := by omega
                      rcases h18 with h | h | h | h | h | h | h | h | h | h | h | h | h | h | h | h | h | h <;> subst h <;> simp [ruleF], hHeld.1⟩
              exact AllReadyH.nil
            exact AllReadyH.nil
          exact AllReadyH.nil
        exact AllReadyH.nil
      exact AllReadyH.nil
    exact AllReadyH.nil
  exact AllReadyH.nil
end Go.Proofs.YtnlpjncljbaapaaGreatDoor
