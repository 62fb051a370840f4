/- impl.option, walked. -/
import Derived.Test.YtnlpjncljbaapaaGreatDoorSs
import Derived.Test.YtnlpjncljbaapaaGreatDoorWr
namespace Go.Proofs.YtnlpjncljbaapaaGreatDoor
open Go.RowKit

set_option maxHeartbeats 400000 in
theorem zzWeekday_any (a b : Int) (w : World) : Calls Tryz.prog 116 #[.int .i64 a, .int .i64 b] w fun e w' => e = .returned (.agg #[.int .i64 a, .int .i64 b]) ∧ Below w.heap.size w w' := by
  have HB := Lib.hid (below_a1 (w := w) (o := .cells #[.int .i64 a, .int .i64 b] 119))
  go_enter Tryz.func116, Tryz.ntmps116
  go_wp2
  refine bodyPost_ret (v := .agg #[.int .i64 a, .int .i64 b]) (by simp [results, Tryz.results116, go_sem]) rfl ⟨rfl, HB.out⟩
/-- Options while they are made. -/
def optH (o : Opt) (t un : Int) (sl : Nat → Value) (u : Value) (k : Nat) : Value := if k = 14 then u else if k = 7 then .int .i64 un else optG o t sl k
def slD (sl : Nat → Value) (u : Value) (k : Nat) : Value := if k = 14 then u else sl k
theorem optH_end (o : Opt) (t : Int) (sl : Nat → Value) (q : Option Addr) (c : Nat) : rowA 19 (optH o t o.till sl (.slice q o.days.length c)) = rowA 19 (optG o t (slD sl (.slice q o.days.length c))) := by
  refine rowA_congr fun i hi => ?_
  have h19 : i = 0 ∨ i = 1 ∨ i = 2 ∨ i = 3 ∨ i = 4 ∨ i = 5 ∨ i = 6 ∨ i = 7 ∨ i = 8 ∨ i = 9 ∨ i = 10 ∨ i = 11 ∨ i = 12 ∨ i = 13 ∨ i = 14 ∨ i = 15 ∨ i = 16 ∨ i = 17 ∨ i = 18 := by omega
  rcases h19 with h | h | h | h | h | h | h | h | h | h | h | h | h | h | h | h | h | h | h <;> subst h <;> rfl
theorem optH_one (o : Opt) (t un : Int) (sl : Nat → Value) (u : Value) (hu : u.oneCell' = true) (i : Nat) (hi : i < 19) : (optH o t un sl u i).oneCell' = true := by
  have h19 : i = 0 ∨ i = 1 ∨ i = 2 ∨ i = 3 ∨ i = 4 ∨ i = 5 ∨ i = 6 ∨ i = 7 ∨ i = 8 ∨ i = 9 ∨ i = 10 ∨ i = 11 ∨ i = 12 ∨ i = 13 ∨ i = 14 ∨ i = 15 ∨ i = 16 ∨ i = 17 ∨ i = 18 := by omega
  rcases h19 with h | h | h | h | h | h | h | h | h | h | h | h | h | h | h | h | h | h | h <;> subst h <;> first | exact hu | rfl
theorem rowD_of_own {w : World} {base : Nat} {e : TypeId} {q : Option Addr} {n c : Nat} {l : List (Int × Int)} (hl : l.length = n) (h : w.ownsRow base e 2 (.slice q n c) n (dayVs l)) : RowD w q n l := by
  have hR := rowDO_of_own hl.symm h
  refine ⟨hR.1, fun i k m hx => ?_⟩
  obtain ⟨g, o, e, h1, h2, h3⟩ := hR.2 i k m hx
  rcases h.2 with ⟨h4, -⟩ | ⟨g', cap, cur, h4, -⟩
  · cases h4; cases e
  · cases h4; cases e; simp only [Nat.zero_add] at h2 h3; exact ⟨g, rfl, h1, h2, h3⟩
theorem OptRows.days {w : World} {o : Opt} {sl : Nat → Value} {base : Nat} {e : TypeId} {q : Option Addr} {c : Nat} (h : OptRows w o sl) (hd : w.ownsRow base e 2 (.slice q o.days.length c) o.days.length (dayVs o.days)) : OptRows w o (slD sl (.slice q o.days.length c)) := by
  refine ⟨fun k h1 h2 h3 => ?_, rowD_of_own rfl hd⟩
  show RowI w (slP (if k = 14 then _ else sl k)) _ _
  rw [if_neg h3]
  exact h.1 k h1 h2 h3
def zOptF : Nat → Value := optCell {} (fun _ => .slice none 0 0)
theorem zOpt_at (W : World) : (W.alloc (.cells opt0 122)).rowIs W.heap.size 122 19 zOptF := World.rowIs_alloc W opt0 122 _ opt0_cells
theorem of_new122 {B : Nat} {w1 X : World} (_ : Below B w1 (X.alloc (.cells opt0 122))) : (X.alloc (.cells opt0 122)).rowIs X.heap.size 122 19 zOptF := zOpt_at X
theorem of_new122d {B : Nat} {w1 X : World} (_ : Below B w1 (X.alloc (.cells opt0 122)).drew) : (X.alloc (.cells opt0 122)).drew.rowIs X.heap.size 122 19 zOptF := zOpt_at X
theorem stored122 {B N : Nat} {w1 W : World} {vs : List Value} {f : Nat → Value} (_ : Below B w1 (W.setCells N 0 vs)) (hz : W.rowIs N 122 19 f) : (W.setCells N 0 vs).rowIs N 122 19 (fun j => if 0 ≤ j ∧ j < 0 + vs.length then vs[j - 0]?.getD undef else f j) := setCells_row vs 0 W f hz
def GivesOptA (o : Opt) (t : Int) (sl : Nat → Value) (w : World) (e : Ending) (w' : World) : Prop :=
  ∃ q c B, e = .returned (.agg (rowA 19 (optG o t (slD sl (.slice q o.days.length c))))) ∧ w.heap.size ≤ B ∧ w'.ownsRow B 119 2 (.slice q o.days.length c) o.days.length (dayVs o.days) ∧ Below w.heap.size w w'
set_option maxRecDepth 100000 in
set_option maxHeartbeats 40000000 in
theorem option_any (o : Opt) (t : Int) (sl : Nat → Value) (v : Value) (Bv : Nat) (w : World) (hv : w.ownsRow Bv 69 2 v o.days.length (dayVs o.days)) (hf : 0 ≤ o.freq ∧ o.freq ≤ 6) (hdl : o.days.length ≤ 1000) (ht : t ≠ 0) :
    Calls Tryz.prog 72 #[.agg (rowA 18 (ruleF o t sl v))] w fun e w' => GivesOptA o t sl w e w' := by
  have hf0 := hf.1
  have hf1 := hf.2
  have hfw : IntKind.i64.wrap o.freq = o.freq := by simp [IntKind.wrap, IntKind.bits, IntKind.signed]; omega
  obtain ⟨qv, cv, rfl, -⟩ := own_slice hv
  have hD := rowD_of_own rfl hv
  have HF := Lib.hid (show ∀ k, k < 18 → ((w.alloc (.cells (rowA 18 (ruleF o t sl (.slice qv o.days.length cv))) 36)).alloc (.cells opt0 122)).cell? ⟨w.heap.size, k, none⟩ = some (ruleF o t sl (.slice qv o.days.length cv) k) from fun k hk => by
    have := World.rowIs_alloc w (rowA 18 (ruleF o t sl (.slice qv o.days.length cv))) 36 (ruleF o t sl (.slice qv o.days.length cv)) (fun i hi => rowA_get (by rwa [rowA_size] at hi))
    rw [rowA_size] at this
    exact (this.alloc _).cell hk)
  have HR0 := Lib.hid (show ((w.alloc (.cells (rowA 18 (ruleF o t sl (.slice qv o.days.length cv))) 36)).alloc (.cells opt0 122)).rowIs (w.heap.size + 1) 122 19 zOptF from by have := zOpt_at (w.alloc (.cells (rowA 18 (ruleF o t sl (.slice qv o.days.length cv))) 36)); simpa using this)
  have HB0 := Lib.hid ((below_a1 (w := w) (o := .cells (rowA 18 (ruleF o t sl (.slice qv o.days.length cv))) 36)).alloc (by simp) (.cells opt0 122))
  have HDD := Lib.hid (hD.below HB0.out)
  have hz : ((w.alloc (.cells (rowA 18 (ruleF o t sl (.slice qv o.days.length cv))) 36)).alloc (.cells opt0 122)).heap.size = w.heap.size + 2 := by simp
  have hZZ := Lib.hid fun (a b : Int) (W : World) => zzWeekday_any a b W
  have hOF := Lib.hid fun (s : Int) (W : World) => of_any s W
  have htb : (!(decide (t = 0))) = true := by simp [ht]
  obtain ⟨d6, hud⟩ := u122
  clear hv hf hD
  go_enter Tryz.func72, Tryz.ntmps72
  generalize hA : rowA 18 (ruleF o t sl (.slice qv o.days.length cv)) = A at *
  unfold opt0 at *
  go_upto_region 1 with fail
  generalize hw1 : (w.alloc (.cells A 36)).alloc (.cells #[_, _, _, _, _, _, _, _, _, _, _, _, _, _, _, _, _, _, _] 122) = w1 at *
  clear hw1 hA
  generalize hG : w.heap.size = G at *
  have hG1 : G < w1.heap.size := by omega
  have HZ := Lib.hid hz
  clear hz
  have HX := Lib.hid fun (k : Nat) (hk : k < 18) (W : World) (hW : Below w1.heap.size w1 W) => (hW.cell (p := ⟨G, k, none⟩) hG1).trans (HF.out k hk)
  have HK := Lib.hid (show ∀ W : World, Below w1.heap.size w1 W → (fun w' : World => Below w1.heap.size w1 w' ∧ w'.cell? ⟨G, 0, none⟩ = some (.int .u8 o.freq) ∧ w'.cell? ⟨G, 3, none⟩ = some (.int .i64 o.interval) ∧ w'.cell? ⟨G, 4, none⟩ = some (.int .i64 o.wk) ∧ w'.cell? ⟨G, 5, none⟩ = some (.int .i64 o.count) ∧ w'.cell? ⟨G, 8, none⟩ = some (.slice (slP (sl 9)) (o.l 9).length (slC (sl 9))) ∧ w'.cell? ⟨G, 9, none⟩ = some (.slice (slP (sl 10)) (o.l 10).length (slC (sl 10))) ∧ w'.cell? ⟨G, 10, none⟩ = some (.slice (slP (sl 11)) (o.l 11).length (slC (sl 11))) ∧ w'.cell? ⟨G, 11, none⟩ = some (.slice (slP (sl 12)) (o.l 12).length (slC (sl 12))) ∧ w'.cell? ⟨G, 12, none⟩ = some (.slice (slP (sl 13)) (o.l 13).length (slC (sl 13))) ∧ w'.cell? ⟨G, 14, none⟩ = some (.slice (slP (sl 15)) (o.l 15).length (slC (sl 15))) ∧ w'.cell? ⟨G, 15, none⟩ = some (.slice (slP (sl 16)) (o.l 16).length (slC (sl 16))) ∧ w'.cell? ⟨G, 16, none⟩ = some (.slice (slP (sl 17)) (o.l 17).length (slC (sl 17))) ∧ w'.cell? ⟨G, 17, none⟩ = some (.slice (slP (sl 18)) (o.l 18).length (slC (sl 18)))) W from fun W hW => ⟨hW, HX.out 0 (by omega) W hW, HX.out 3 (by omega) W hW, HX.out 4 (by omega) W hW, HX.out 5 (by omega) W hW, HX.out 8 (by omega) W hW, HX.out 9 (by omega) W hW, HX.out 10 (by omega) W hW, HX.out 11 (by omega) W hW, HX.out 12 (by omega) W hW, HX.out 14 (by omega) W hW, HX.out 15 (by omega) W hW, HX.out 16 (by omega) W hW, HX.out 17 (by omega) W hW⟩)
  go_cut [3] from 6 to 65 (fun v3 wc => ∃ N, v3 = .pointer (some ⟨N, 0, none⟩) ∧ w1.heap.size ≤ N ∧ wc.rowIs N 122 19 (optH o 0 0 sl (.slice none 0 0)) ∧ Below w1.heap.size w1 wc)
  case rest =>
      obtain ⟨N, rfl, hN, hRN, hBN⟩ := hcut
      have HRN := Lib.hid hRN
      have HBN := Lib.hid hBN
      have hNz : N < wc.heap.size := hRN.lt
      have hNG : N ≠ G := by omega
      clear hRN hBN
      have x1 : wc.cell? ⟨G, 1, none⟩ = some (.bool (!(decide (t = 0)))) := HX.out 1 (by omega) wc HBN.out
      rw [htb] at x1
      have x2 : wc.cell? ⟨G, 2, none⟩ = some (.int .i64 t) := HX.out 2 (by omega) wc HBN.out
      go_upto_if 36 with fail
      go_cut [3] from 37 to 65 (fun v3 wc => v3 = .pointer (some ⟨N, 0, none⟩) ∧ wc.rowIs N 122 19 (optH o t 0 sl (.slice none 0 0)) ∧ Below w1.heap.size w1 wc)
      case first =>
        go_wp2_with fail
        refine (hOF.out t _).mono ?_; rintro e w2 ⟨rfl, hb2⟩
        have HR2 := Lib.hid (below_row HRN.out hb2 hNz)
        have HB2 := Lib.hid (HBN.out.trans (hb2.mono HBN.out.size))
        obtain ⟨v1, y1⟩ : ∃ v, w2.cell? ⟨N, 1, none⟩ = some v := ⟨_, HR2.out.cell (by decide)⟩
        obtain ⟨v2, y2⟩ : ∃ v, w2.cell? ⟨N, 2, none⟩ = some v := ⟨_, HR2.out.cell (by decide)⟩
        have q1 := HR2.out.frozen 1
        have q2 := HR2.out.frozen 2
        clear x1 x2 hb2
        go_wp2_with fail
        go_meet
        refine ⟨rfl, ((HR2.out.set 1 (.int .i64 t)).set 2 (.int .i64 0)).congr fun j hj => ?_, (HB2.out.setCell hN _).setCell hN _⟩
        have h19 : j = 0 ∨ j = 1 ∨ j = 2 ∨ j = 3 ∨ j = 4 ∨ j = 5 ∨ j = 6 ∨ j = 7 ∨ j = 8 ∨ j = 9 ∨ j = 10 ∨ j = 11 ∨ j = 12 ∨ j = 13 ∨ j = 14 ∨ j = 15 ∨ j = 16 ∨ j = 17 ∨ j = 18 := by omega
        rcases h19 with h | h | h | h | h | h | h | h | h | h | h | h | h | h | h | h | h | h | h <;> subst h <;> rfl
      obtain ⟨rfl, hR3, hB3⟩ := hcut
      have HR3 := Lib.hid hR3
      have HB3 := Lib.hid hB3
      clear hR3 hB3 hNz x1 x2 HRN HBN
      have z6 : wc.cell? ⟨G, 6, none⟩ = some (.bool (!(decide (o.till = 0)))) := HX.out 6 (by omega) wc HB3.out
      have z7 : wc.cell? ⟨G, 7, none⟩ = some (.int .i64 o.till) := HX.out 7 (by omega) wc HB3.out
      go_upto_if 42 with fail
      go_cut [3] from 42 to 65 (fun v3 wc => v3 = .pointer (some ⟨N, 0, none⟩) ∧ wc.rowIs N 122 19 (optH o t o.till sl (.slice none 0 0)) ∧ Below w1.heap.size w1 wc)
      case rest =>
        obtain ⟨rfl, hRN, hBN⟩ := hcut
        clear HR3 HB3
        have HRN := Lib.hid hRN
        have HBN := Lib.hid hBN
        have x13 : wc.cell? ⟨G, 13, none⟩ = some (.slice qv o.days.length cv) := HX.out 13 (by omega) wc hBN
        have hNz : N < wc.heap.size := hRN.lt
        obtain ⟨m, hm⟩ : ∃ m, m = o.days.length := ⟨_, rfl⟩
        rw [← hm] at x13 hdl
        clear hRN hBN
        obtain ⟨i0, hi, hzz⟩ := Option.map_eq_some_iff.1 info119
        simp only [Prod.mk.injEq] at hzz
        obtain ⟨hz0, hz1, hz2⟩ := hzz
        have HI := Lib.hid (And.intro hi (And.intro hz0 (And.intro hz1 hz2)))
        have HM := Lib.hid hm
        clear hm hi hz0 hz1 hz2
        go_wp2_with fail
        go_loopw [5, 50] (fun _ u wr => ∃ (k : Nat) (v : Value), k ≤ m ∧ u = .int .i64 k ∧ Hid (wr.rowIs N 122 19 (optH o t o.till sl v)) ∧ Hid (wr.ownsRow wc.heap.size 119 2 v k (dayVs (o.days.take k))) ∧ Hid (Below w1.heap.size w1 wr) ∧ wc.heap.size ≤ wr.heap.size) (fun _ u _ => m - (intOf u).toNat)
        case atStart => exact ⟨0, _, Nat.zero_le _, rfl, HRN, Lib.hid (own_nil _ _ _ _), HBN, Nat.le_refl _⟩
        case round =>
          obtain ⟨k, v, hk, rfl, HR2, HO2, HB2, hz2⟩ := hrel
          have hr := HR2.out
          have hNr : N < wr.heap.size := hr.lt
          by_cases hkm : k < m
          · have hkl : k < o.days.length := by have := HM.out; omega
            obtain ⟨d, hd⟩ : ∃ d, o.days[k]? = some d := ⟨_, List.getElem?_eq_getElem hkl⟩
            obtain ⟨g, hpg, hgl, hc0, hc1⟩ := HDD.out.2 k d.1 d.2 hd
            have hbw : Below w1.heap.size w1 wr := HB2.out
            have d0 := (hbw.cell (p := ⟨g, k * 2, none⟩) hgl).trans hc0
            have d1 := (hbw.cell (p := ⟨g, k * 2 + 1, none⟩) hgl).trans hc1
            have hgr : g < wr.heap.size := Nat.lt_of_lt_of_le hgl hbw.size
            have HTK := Lib.hid (show o.days.take (k + 1) = o.days.take k ++ [d] by rw [List.take_add_one, hd]; rfl)
            have hkmi : ((k : Nat) : Int) < ((m : Nat) : Int) := by omega
            have hki : (0 : Int) ≤ ((k : Nat) : Int) := by omega
            obtain ⟨da, db⟩ := d
            have HRa := Lib.hid (HR2.out.alloc (.cells #[.int .i64 da, .int .i64 db] 69))
            have HOa := Lib.hid (HO2.out.alloc (.cells #[.int .i64 da, .int .i64 db] 69))
            have HBa := Lib.hid (HB2.out.alloc HB2.out.size (.cells #[.int .i64 da, .int .i64 db] 69))
            have y0 : (wr.alloc (.cells #[.int .i64 da, .int .i64 db] 69)).cell? ⟨wr.heap.size, 0, none⟩ = some (.int .i64 da) := by simp
            have y1 : (wr.alloc (.cells #[.int .i64 da, .int .i64 db] 69)).cell? ⟨wr.heap.size, 1, none⟩ = some (.int .i64 db) := by simp
            have x14 : (wr.alloc (.cells #[.int .i64 da, .int .i64 db] 69)).cell? ⟨N, 14, none⟩ = some v := HRa.out.cell (i := 14) (by omega)
            have hza : (wr.alloc (.cells #[.int .i64 da, .int .i64 db] 69)).heap.size = wr.heap.size + 1 := by simp
            rw [hpg]
            clear hc0 hc1 hpg hr hbw hkl hd
            go_upto_region 9 with fail
            generalize wr.alloc (.cells #[.int .i64 da, .int .i64 db] 69) = w4 at *
            have hN4 : N < w4.heap.size := by omega
            have hw4 : wc.heap.size ≤ w4.heap.size := by omega
            have hX4 : wr.heap.size < w4.heap.size := by omega
            generalize wr.heap.size = X at *
            clear d0 d1 hza HR2 HO2 HB2
            go_region_law (first
              | (go_simp; go_at_call 116; refine (zzWeekday_any da db _).mono ?_; rintro e w6 ⟨rfl, hb6⟩; have HR6 := Lib.hid (below_row (w := w4.drew) HRa.out.drew hb6 hN4); have HO6 := Lib.hid (own_below (own_drew HOa.out) hb6); have d3 : w6.cell? ⟨N, 14, none⟩ = some v := (hb6.cell (p := ⟨N, 14, none⟩) hN4).trans x14; have HB6 := Lib.hid (HBa.out.drew.trans (hb6.mono HBa.out.size)); have hz6 : w4.heap.size ≤ w6.heap.size := hb6.size; have hN6 : N < w6.heap.size := Nat.lt_of_lt_of_le hN4 hb6.size; clear hb6)
              | (refine step_append_lies _ rfl (.tmp 55) (.tmp 61) 120 rfl wc.heap.size 119 i0 (.agg #[.int .i64 0, .int .i64 0]) 2 16 Tryz.underlying120 HI.out.1 HI.out.2.1 HI.out.2.2.1 HI.out.2.2.2 rfl (by decide) v k (dayVs (o.days.take k)) (by simp [Act.eval]) (HO6.out.alloc _) ⟨w6.heap.size, 0, none⟩ 1 1 [.int .i64 da, .int .i64 db] (by simp [Act.eval]) rfl (World.news_of_block (cs := #[.int .i64 da, .int .i64 db]) (t := 119) (fr := (0, 0)) (heap_alloc_new w6 _)) (by simp [Value.oneCell']) (by decide) (by simp only [maxLen]; omega) (by omega) (by rw [World.size_alloc]; omega) _ rfl ?_; intro g7 cap7 w8 hown7 hgrow7 hat7 hlt7; have HR8 := Lib.hid (row_grown (HR6.out.alloc (.cells #[.int .i64 da, .int .i64 db] 119)) hgrow7 (fun e => by have := own_base HO6.out _ e; omega)); have e3 : w8.cell? ⟨N, 14, none⟩ = some v := HR8.out.cell (i := 14) (by decide); have q3 := HR8.out.frozen 14; have HB8 := Lib.hid ((HB6.out.alloc HB6.out.size (.cells #[.int .i64 da, .int .i64 db] 119)).grown hgrow7 (by simp; have := HB6.out.size; omega) (fun k hk => by have := own_base HO6.out k hk; have := HBN.out.size; omega)); have HO8 := Lib.hid hown7; have hz8 : w6.heap.size + 1 ≤ w8.heap.size := (by have := hgrow7.size; simpa using this); clear hown7 hgrow7 hat7))
            all_goals
              go_wp2_with fail
              go_roundw
              case rel =>
                refine ⟨k + 1, .slice (some ⟨g7, 0, none⟩) (k + 1) cap7, by omega, by go_num, Lib.hid ?_, Lib.hid ?_, Lib.hid (HB8.out.setCell hN _), by simp; omega⟩
                · refine (HR8.out.set 14 _).congr fun j hj => ?_
                  have h19 : j = 0 ∨ j = 1 ∨ j = 2 ∨ j = 3 ∨ j = 4 ∨ j = 5 ∨ j = 6 ∨ j = 7 ∨ j = 8 ∨ j = 9 ∨ j = 10 ∨ j = 11 ∨ j = 12 ∨ j = 13 ∨ j = 14 ∨ j = 15 ∨ j = 16 ∨ j = 17 ∨ j = 18 := by omega
                  rcases h19 with h | h | h | h | h | h | h | h | h | h | h | h | h | h | h | h | h | h | h <;> subst h <;> rfl
                · rw [HTK.out]
                  have := own_set (C := N) (k := 14) (u := .slice (some ⟨g7, 0, none⟩) (k + 1) cap7) HO8.out hNz
                  simpa [dayVs] using this
              case measure => simp [intOf]; omega
          · obtain rfl : k = m := by omega
            obtain ⟨q5, c5, rfl, _⟩ := own_slice HO2.out
            have HRt := Lib.hid (below_row HR0.out HB2.out HR0.out.lt)
            have HU := Lib.hid hud
            clear hr
            go_wp2_with (first | ((with_reducible refine gd_load 122 ?_); refine wpl_load_row0 rfl 122 _ rfl N 122 19 19 _ rfl HR2.out (by omega) d6 HU.out.1 HU.out.2 info122s ?_) | ((with_reducible refine gd_store 122 ?_); refine wpl_store_row rfl 122 _ _ rfl (G + 1) 0 122 19 _ (rowA 19 (optH o t o.till sl (.slice q5 k c5))) rfl rfl HRt.out (by simp [rowA_size]) (by rw [info122s, rowA_size]) (rowA_all fun i hi => optH_one _ _ _ _ _ rfl i hi) ?_; intro w8 hR8 hg8))
            refine bodyPost_ret (results_row rfl _ (G + 1) 122 19 _ (by rfl) hR8 d6 HU.out.1 HU.out.2 info122s) rfl ?_
            rw [updR_all]
            have ht : o.days.take k = o.days := by rw [HM.out, List.take_length]
            have h8 := own_grown HO2.out hg8 (by have := HBN.out.size; omega)
            rw [ht, HM.out] at h8
            have hm := HM.out
            subst hm
            rw [optH_end]
            exact ⟨q5, c5, wc.heap.size, rfl, by have := HB0.out.size; have := HBN.out.size; omega, h8, by rw [hG]; exact (HB0.out.trans (HB2.out.mono (by have := HB0.out.size; omega))).grown hg8 (by have := HB0.out.size; have := HB2.out.size; omega) (fun j hj => by cases hj; omega)⟩
      case first =>
      have hN3 : N < wc.heap.size := HR3.out.lt
      by_cases hu : o.till = 0
      · have hub : (!(decide (o.till = 0))) = false := by simp [hu]
        rw [hub]
        clear hub
        have HU := Lib.hid hu
        clear hu
        go_wp2_with fail
        go_meet
        refine ⟨rfl, ?_, HB3.out⟩
        have hu := HU.out
        rw [hu]
        exact HR3.out
      · have hub : (!(decide (o.till = 0))) = true := by simp [hu]
        rw [hub]
        clear hub
        have HU := Lib.hid hu
        clear hu
        go_wp2_with fail
        refine (hOF.out o.till _).mono ?_; rintro e w2 ⟨rfl, hb2⟩
        have HR2 := Lib.hid (below_row HR3.out hb2 hN3)
        have HB2 := Lib.hid (HB3.out.trans (hb2.mono HB3.out.size))
        obtain ⟨v1, y1⟩ : ∃ v, w2.cell? ⟨N, 7, none⟩ = some v := ⟨_, HR2.out.cell (by decide)⟩
        obtain ⟨v2, y2⟩ : ∃ v, w2.cell? ⟨N, 8, none⟩ = some v := ⟨_, HR2.out.cell (by decide)⟩
        have q1 := HR2.out.frozen 7
        have q2 := HR2.out.frozen 8
        clear hb2 z6 z7
        go_wp2_with fail
        go_meet
        refine ⟨rfl, ((HR2.out.set 7 (.int .i64 o.till)).set 8 (.int .i64 0)).congr fun j hj => ?_, (HB2.out.setCell hN _).setCell hN _⟩
        have h19 : j = 0 ∨ j = 1 ∨ j = 2 ∨ j = 3 ∨ j = 4 ∨ j = 5 ∨ j = 6 ∨ j = 7 ∨ j = 8 ∨ j = 9 ∨ j = 10 ∨ j = 11 ∨ j = 12 ∨ j = 13 ∨ j = 14 ∨ j = 15 ∨ j = 16 ∨ j = 17 ∨ j = 18 := by omega
        rcases h19 with h | h | h | h | h | h | h | h | h | h | h | h | h | h | h | h | h | h | h <;> subst h <;> rfl
  case first =>
  try simp only [List.append_eq, List.cons_append, List.nil_append]
  refine wp_region_noPanic ?_
  refine wp_region_held_drew (S := (fun w' : World => Below w1.heap.size w1 w' ∧ w'.cell? ⟨G, 0, none⟩ = some (.int .u8 o.freq) ∧ w'.cell? ⟨G, 3, none⟩ = some (.int .i64 o.interval) ∧ w'.cell? ⟨G, 4, none⟩ = some (.int .i64 o.wk) ∧ w'.cell? ⟨G, 5, none⟩ = some (.int .i64 o.count) ∧ w'.cell? ⟨G, 8, none⟩ = some (.slice (slP (sl 9)) (o.l 9).length (slC (sl 9))) ∧ w'.cell? ⟨G, 9, none⟩ = some (.slice (slP (sl 10)) (o.l 10).length (slC (sl 10))) ∧ w'.cell? ⟨G, 10, none⟩ = some (.slice (slP (sl 11)) (o.l 11).length (slC (sl 11))) ∧ w'.cell? ⟨G, 11, none⟩ = some (.slice (slP (sl 12)) (o.l 12).length (slC (sl 12))) ∧ w'.cell? ⟨G, 12, none⟩ = some (.slice (slP (sl 13)) (o.l 13).length (slC (sl 13))) ∧ w'.cell? ⟨G, 14, none⟩ = some (.slice (slP (sl 15)) (o.l 15).length (slC (sl 15))) ∧ w'.cell? ⟨G, 15, none⟩ = some (.slice (slP (sl 16)) (o.l 16).length (slC (sl 16))) ∧ w'.cell? ⟨G, 16, none⟩ = some (.slice (slP (sl 17)) (o.l 17).length (slC (sl 17))) ∧ w'.cell? ⟨G, 17, none⟩ = some (.slice (slP (sl 18)) (o.l 18).length (slC (sl 18))))) (by kernel_rfl) (HK.out _ ((Below.refl _ _).drew)) (fun hHeld => ?_)
  refine wpAnyH_take (i := 0) (v := ?_) (arr_at rfl) (by as_aux_lemma => kernel_rfl) (by as_aux_lemma => kernel_rfl) (by as_aux_lemma => kernel_rfl) (fun _ _ _ h => h) (Or.inl ⟨by rfl, ?_⟩) hHeld ?_
  rotate_left
  · intro w hSw
    (try dsimp only at hSw)
    go_simp
    all_goals with_reducible rfl
  try simp only [Act.put, List.setIfInBounds_toArray, List.set_cons_zero, List.set_cons_succ]
  refine wpAnyH_take (i := 1) (v := ?_) (arr_at rfl) (by as_aux_lemma => kernel_rfl) (by as_aux_lemma => kernel_rfl) (by as_aux_lemma => kernel_rfl) (fun _ _ _ h => h) (Or.inl ⟨by rfl, ?_⟩) hHeld ?_
  rotate_left
  · intro w hSw
    (try dsimp only at hSw)
    go_simp
    all_goals with_reducible rfl
  try simp only [Act.put, List.setIfInBounds_toArray, List.set_cons_zero, List.set_cons_succ]
  refine wpAnyH_take (i := 2) (v := ?_) (arr_at rfl) (by as_aux_lemma => kernel_rfl) (by as_aux_lemma => kernel_rfl) (by as_aux_lemma => kernel_rfl) (fun _ _ _ h => h) (Or.inl ⟨by rfl, ?_⟩) hHeld ?_
  rotate_left
  · intro w hSw
    (try dsimp only at hSw)
    go_simp
    all_goals with_reducible rfl
  try simp only [Act.put, List.setIfInBounds_toArray, List.set_cons_zero, List.set_cons_succ]
  refine wpAnyH_take (i := 3) (v := ?_) (arr_at rfl) (by as_aux_lemma => kernel_rfl) (by as_aux_lemma => kernel_rfl) (by as_aux_lemma => kernel_rfl) (fun _ _ _ h => h) (Or.inl ⟨by rfl, ?_⟩) hHeld ?_
  rotate_left
  · intro w hSw
    (try dsimp only at hSw)
    go_simp
    all_goals with_reducible rfl
  try simp only [Act.put, List.setIfInBounds_toArray, List.set_cons_zero, List.set_cons_succ]
  refine wpAnyH_take (i := 4) (v := ?_) (arr_at rfl) (by as_aux_lemma => kernel_rfl) (by as_aux_lemma => kernel_rfl) (by as_aux_lemma => kernel_rfl) (fun _ _ _ h => h) (Or.inl ⟨by rfl, ?_⟩) hHeld ?_
  rotate_left
  · intro w hSw
    (try dsimp only at hSw)
    go_simp
    all_goals with_reducible rfl
  try simp only [Act.put, List.setIfInBounds_toArray, List.set_cons_zero, List.set_cons_succ]
  refine wpAnyH_take (i := 5) (v := ?_) (arr_at rfl) (by as_aux_lemma => kernel_rfl) (by as_aux_lemma => kernel_rfl) (by as_aux_lemma => kernel_rfl) (fun _ _ _ h => h) (Or.inl ⟨by rfl, ?_⟩) hHeld ?_
  rotate_left
  · intro w hSw
    (try dsimp only at hSw)
    go_simp
    all_goals with_reducible rfl
  try simp only [Act.put, List.setIfInBounds_toArray, List.set_cons_zero, List.set_cons_succ]
  refine wpAnyH_take (i := 6) (v := ?_) (arr_at rfl) (by as_aux_lemma => kernel_rfl) (by as_aux_lemma => kernel_rfl) (by as_aux_lemma => kernel_rfl) (fun _ _ _ h => h) (Or.inl ⟨by rfl, ?_⟩) hHeld ?_
  rotate_left
  · intro w hSw
    (try dsimp only at hSw)
    go_simp
    all_goals with_reducible rfl
  try simp only [Act.put, List.setIfInBounds_toArray, List.set_cons_zero, List.set_cons_succ]
  refine wpAnyH_take (i := 8) (v := ?_) (arr_at rfl) (by as_aux_lemma => kernel_rfl) (by as_aux_lemma => kernel_rfl) (by as_aux_lemma => kernel_rfl) (fun _ _ _ h => h) (Or.inl ⟨by rfl, ?_⟩) hHeld ?_
  rotate_left
  · intro w hSw
    (try dsimp only at hSw)
    go_simp
    all_goals with_reducible rfl
  try simp only [Act.put, List.setIfInBounds_toArray, List.set_cons_zero, List.set_cons_succ]
  refine wpAnyH_take (i := 9) (v := ?_) (arr_at rfl) (by as_aux_lemma => kernel_rfl) (by as_aux_lemma => kernel_rfl) (by as_aux_lemma => kernel_rfl) (fun _ _ _ h => h) (Or.inl ⟨by rfl, ?_⟩) hHeld ?_
  rotate_left
  · intro w hSw
    (try dsimp only at hSw)
    go_simp
    all_goals with_reducible rfl
  try simp only [Act.put, List.setIfInBounds_toArray, List.set_cons_zero, List.set_cons_succ]
  refine wpAnyH_take (i := 10) (v := ?_) (arr_at rfl) (by as_aux_lemma => kernel_rfl) (by as_aux_lemma => kernel_rfl) (by as_aux_lemma => kernel_rfl) (fun _ _ _ h => h) (Or.inl ⟨by rfl, ?_⟩) hHeld ?_
  rotate_left
  · intro w hSw
    (try dsimp only at hSw)
    go_simp
    all_goals with_reducible rfl
  try simp only [Act.put, List.setIfInBounds_toArray, List.set_cons_zero, List.set_cons_succ]
  refine wpAnyH_take (i := 11) (v := ?_) (arr_at rfl) (by as_aux_lemma => kernel_rfl) (by as_aux_lemma => kernel_rfl) (by as_aux_lemma => kernel_rfl) (fun _ _ _ h => h) (Or.inl ⟨by rfl, ?_⟩) hHeld ?_
  rotate_left
  · intro w hSw
    (try dsimp only at hSw)
    go_simp
    all_goals with_reducible rfl
  try simp only [Act.put, List.setIfInBounds_toArray, List.set_cons_zero, List.set_cons_succ]
  refine wpAnyH_take (i := 12) (v := ?_) (arr_at rfl) (by as_aux_lemma => kernel_rfl) (by as_aux_lemma => kernel_rfl) (by as_aux_lemma => kernel_rfl) (fun _ _ _ h => h) (Or.inl ⟨by rfl, ?_⟩) hHeld ?_
  rotate_left
  · intro w hSw
    (try dsimp only at hSw)
    go_simp
    all_goals with_reducible rfl
  try simp only [Act.put, List.setIfInBounds_toArray, List.set_cons_zero, List.set_cons_succ]
  refine wpAnyH_take (i := 13) (v := ?_) (arr_at rfl) (by as_aux_lemma => kernel_rfl) (by as_aux_lemma => kernel_rfl) (by as_aux_lemma => kernel_rfl) (fun _ _ _ h => h) (Or.inl ⟨by rfl, ?_⟩) hHeld ?_
  rotate_left
  · intro w hSw
    (try dsimp only at hSw)
    go_simp
    all_goals with_reducible rfl
  try simp only [Act.put, List.setIfInBounds_toArray, List.set_cons_zero, List.set_cons_succ]
  refine wpAnyH_take (i := 14) (v := ?_) (arr_at rfl) (by as_aux_lemma => kernel_rfl) (by as_aux_lemma => kernel_rfl) (by as_aux_lemma => kernel_rfl) (fun _ _ _ h => h) (Or.inl ⟨by rfl, ?_⟩) hHeld ?_
  rotate_left
  · intro w hSw
    (try dsimp only at hSw)
    go_simp
    all_goals with_reducible rfl
  try simp only [Act.put, List.setIfInBounds_toArray, List.set_cons_zero, List.set_cons_succ]
  refine wpAnyH_take (i := 15) (v := ?_) (arr_at rfl) (by as_aux_lemma => kernel_rfl) (by as_aux_lemma => kernel_rfl) (by as_aux_lemma => kernel_rfl) (fun _ _ _ h => h) (Or.inl ⟨by rfl, ?_⟩) hHeld ?_
  rotate_left
  · intro w hSw
    (try dsimp only at hSw)
    go_simp
    all_goals with_reducible rfl
  try simp only [Act.put, List.setIfInBounds_toArray, List.set_cons_zero, List.set_cons_succ]
  refine wpAnyH_take (i := 16) (v := ?_) (arr_at rfl) (by as_aux_lemma => kernel_rfl) (by as_aux_lemma => kernel_rfl) (by as_aux_lemma => kernel_rfl) (fun _ _ _ h => h) (Or.inl ⟨by rfl, ?_⟩) hHeld ?_
  rotate_left
  · intro w hSw
    (try dsimp only at hSw)
    go_simp
    all_goals with_reducible rfl
  try simp only [Act.put, List.setIfInBounds_toArray, List.set_cons_zero, List.set_cons_succ]
  refine wpAnyH_take (i := 17) (v := ?_) (arr_at rfl) (by as_aux_lemma => kernel_rfl) (by as_aux_lemma => kernel_rfl) (by as_aux_lemma => kernel_rfl) (fun _ _ _ h => h) (Or.inl ⟨by rfl, ?_⟩) hHeld ?_
  rotate_left
  · intro w hSw
    (try dsimp only at hSw)
    go_simp
    all_goals with_reducible rfl
  try simp only [Act.put, List.setIfInBounds_toArray, List.set_cons_zero, List.set_cons_succ]
  refine wpAnyH_take (i := 18) (v := ?_) (arr_at rfl) (by as_aux_lemma => kernel_rfl) (by as_aux_lemma => kernel_rfl) (by as_aux_lemma => kernel_rfl) (fun _ _ _ h => h) (Or.inl ⟨by rfl, ?_⟩) hHeld ?_
  rotate_left
  · intro w hSw
    (try dsimp only at hSw)
    go_simp
    all_goals with_reducible rfl
  try simp only [Act.put, List.setIfInBounds_toArray, List.set_cons_zero, List.set_cons_succ]
  refine wpAnyH_take (i := 19) (v := ?_) (arr_at rfl) (by as_aux_lemma => kernel_rfl) (by as_aux_lemma => kernel_rfl) (by as_aux_lemma => kernel_rfl) (fun _ _ _ h => h) (Or.inl ⟨by rfl, ?_⟩) hHeld ?_
  rotate_left
  · intro w hSw
    (try dsimp only at hSw)
    go_simp
    all_goals with_reducible rfl
  try simp only [Act.put, List.setIfInBounds_toArray, List.set_cons_zero, List.set_cons_succ]
  refine wpAnyH_take (i := 20) (v := ?_) (arr_at rfl) (by as_aux_lemma => kernel_rfl) (by as_aux_lemma => kernel_rfl) (by as_aux_lemma => kernel_rfl) (fun _ _ _ h => h) (Or.inl ⟨by rfl, ?_⟩) hHeld ?_
  rotate_left
  · intro w hSw
    (try dsimp only at hSw)
    go_simp
    all_goals with_reducible rfl
  try simp only [Act.put, List.setIfInBounds_toArray, List.set_cons_zero, List.set_cons_succ]
  refine wpAnyH_take (i := 21) (v := ?_) (arr_at rfl) (by as_aux_lemma => kernel_rfl) (by as_aux_lemma => kernel_rfl) (by as_aux_lemma => kernel_rfl) (fun _ _ _ h => h) (Or.inl ⟨by rfl, ?_⟩) hHeld ?_
  rotate_left
  · intro w hSw
    (try dsimp only at hSw)
    go_simp
    all_goals with_reducible rfl
  try simp only [Act.put, List.setIfInBounds_toArray, List.set_cons_zero, List.set_cons_succ]
  refine wpAnyH_take (i := 22) (v := ?_) (arr_at rfl) (by as_aux_lemma => kernel_rfl) (by as_aux_lemma => kernel_rfl) (by as_aux_lemma => kernel_rfl) (fun _ _ _ h => h) (Or.inl ⟨by rfl, ?_⟩) hHeld ?_
  rotate_left
  · intro w hSw
    (try dsimp only at hSw)
    go_simp
    all_goals with_reducible rfl
  try simp only [Act.put, List.setIfInBounds_toArray, List.set_cons_zero, List.set_cons_succ]
  refine wpAnyH_take (i := 23) (v := ?_) (arr_at rfl) (by as_aux_lemma => kernel_rfl) (by as_aux_lemma => kernel_rfl) (by as_aux_lemma => kernel_rfl) (fun _ _ _ h => h) (Or.inl ⟨by rfl, ?_⟩) hHeld ?_
  rotate_left
  · intro w hSw
    (try dsimp only at hSw)
    go_simp
    all_goals with_reducible rfl
  try simp only [Act.put, List.setIfInBounds_toArray, List.set_cons_zero, List.set_cons_succ]
  refine wpAnyH_take (i := 24) (v := ?_) (arr_at rfl) (by as_aux_lemma => kernel_rfl) (by as_aux_lemma => kernel_rfl) (by as_aux_lemma => kernel_rfl) (fun _ _ _ h => h) (Or.inl ⟨by rfl, ?_⟩) hHeld ?_
  rotate_left
  · intro w hSw
    (try dsimp only at hSw)
    go_simp
    all_goals with_reducible rfl
  try simp only [Act.put, List.setIfInBounds_toArray, List.set_cons_zero, List.set_cons_succ]
  refine wpAnyH_take (i := 25) (v := ?_) (arr_at rfl) (by as_aux_lemma => kernel_rfl) (by as_aux_lemma => kernel_rfl) (by as_aux_lemma => kernel_rfl) (fun _ _ _ h => h) (Or.inl ⟨by rfl, ?_⟩) hHeld ?_
  rotate_left
  · intro w hSw
    (try dsimp only at hSw)
    go_simp
    all_goals with_reducible rfl
  try simp only [Act.put, List.setIfInBounds_toArray, List.set_cons_zero, List.set_cons_succ]
  refine wpAnyH_take (i := 26) (v := ?_) (arr_at rfl) (by as_aux_lemma => kernel_rfl) (by as_aux_lemma => kernel_rfl) (by as_aux_lemma => kernel_rfl) (fun _ _ _ h => h) (Or.inl ⟨by rfl, ?_⟩) hHeld ?_
  rotate_left
  · intro w hSw
    (try dsimp only at hSw)
    go_simp
    all_goals with_reducible rfl
  try simp only [Act.put, List.setIfInBounds_toArray, List.set_cons_zero, List.set_cons_succ]
  refine wpAnyH_take (i := 27) (v := ?_) (arr_at rfl) (by as_aux_lemma => kernel_rfl) (by as_aux_lemma => kernel_rfl) (by as_aux_lemma => kernel_rfl) (fun _ _ _ h => h) (Or.inl ⟨by rfl, ?_⟩) hHeld ?_
  rotate_left
  · intro w hSw
    (try dsimp only at hSw)
    go_simp
    all_goals with_reducible rfl
  try simp only [Act.put, List.setIfInBounds_toArray, List.set_cons_zero, List.set_cons_succ]
  refine wpAnyH_ready (rs := [7, 29]) (by as_aux_lemma => kernel_rfl) (by simp) ?_
  refine AllReadyH.cons (arr_at rfl) (fun K hK => ?_) ?_
  ·
    go_simp
    go_at_call 116; refine (hZZ.out o.wk 0 _).mono ?_; rintro e w2 ⟨rfl, hb2⟩
    try go_wp2_with fail
    refine hK.out _ _ ?_ (fun hNew => ?_)
    · exact HK.out _ (Below.trans hHeld.1 (hb2.mono hHeld.1.size))
    clear hK K hHeld
    have hHeld := hNew
    clear hNew
    clear hb2
    try simp only [Act.put, List.setIfInBounds_toArray, List.set_cons_zero, List.set_cons_succ]
    refine wpAnyH_take (i := 28) (v := ?_) (arr_at rfl) (by as_aux_lemma => kernel_rfl) (by as_aux_lemma => kernel_rfl) (by as_aux_lemma => kernel_rfl) (fun _ _ _ h => h) (Or.inl ⟨by rfl, ?_⟩) hHeld ?_
    rotate_left
    · intro w hSw
      (try dsimp only at hSw)
      go_simp
      all_goals with_reducible rfl
    try simp only [Act.put, List.setIfInBounds_toArray, List.set_cons_zero, List.set_cons_succ]
    refine wpAnyH_ready (rs := [29]) (by as_aux_lemma => kernel_rfl) (by simp) ?_
    refine AllReadyH.cons (arr_at rfl) (fun K hK => ?_) ?_
    ·
      have hX := hHeld.1.size
      go_simp
      refine hK.out _ _ ?_ (fun hNew => ?_)
      · exact HK.out _ (hHeld.1.alloc hHeld.1.size _)
      clear hK K hHeld
      have hHeld := hNew
      clear hNew
      first | have hZ := of_new122 hHeld.1 | have hZ := of_new122d hHeld.1
      try simp only [Act.put, List.setIfInBounds_toArray, List.set_cons_zero, List.set_cons_succ]
      refine wpAnyH_ready (rs := [30]) (by as_aux_lemma => kernel_rfl) (by simp) ?_
      refine AllReadyH.cons (arr_at rfl) (fun K hK => ?_) ?_
      ·
        rw [if_pos (by rfl)]
        refine wp_store_mid 122 _ _ rfl _ 0 _ rfl rfl (rowIs_there hZ 0 19 (by omega)) info122s (by simp [Value.oneCell']) ?_
        refine hK.out _ _ ?_ (fun hNew => ?_)
        · exact HK.out _ (Below.grown hHeld.1 (setCells_grown _ _ _ (World.grownBy.refl _ _)) hHeld.1.size (fun k hk => by cases hk; exact hX))
        clear hK K hHeld
        have hHeld := hNew
        clear hNew
        have hRW := stored122 hHeld.1 hZ
        try simp only [Act.put]
        refine wpAnyH_done (by as_aux_lemma => kernel_rfl) ?_ _
        refine NoPanic.normal ?_
        as_aux_lemma =>
          go_wp2_with fail
          go_meet
          exact ⟨_, rfl, hX, World.rowIs.congr hRW fun j hj => by
              have h19 : j = 0 ∨ j = 1 ∨ j = 2 ∨ j = 3 ∨ j = 4 ∨ j = 5 ∨ j = 6 ∨ j = 7 ∨ j = 8 ∨ j = 9 ∨ j = 10 ∨ j = 11 ∨ j = 12 ∨ j = 13 ∨ j = 14 ∨ j = 15 ∨ j = 16 ∨ j = 17 ∨ j = 18 := by omega
              rcases h19 with h | h | h | h | h | h | h | h | h | h | h | h | h | h | h | h | h | h | h <;> subst h <;> simp [optH, optG, optF], hHeld.1⟩
      exact AllReadyH.nil
    exact AllReadyH.nil
  refine AllReadyH.cons (arr_at rfl) (fun K hK => ?_) ?_
  ·
    have hX := hHeld.1.size
    go_simp
    refine hK.out _ _ ?_ (fun hNew => ?_)
    · exact HK.out _ (hHeld.1.alloc hHeld.1.size _)
    clear hK K hHeld
    have hHeld := hNew
    clear hNew
    first | have hZ := of_new122 hHeld.1 | have hZ := of_new122d hHeld.1
    try simp only [Act.put, List.setIfInBounds_toArray, List.set_cons_zero, List.set_cons_succ]
    refine wpAnyH_ready (rs := [7]) (by as_aux_lemma => kernel_rfl) (by simp) ?_
    refine AllReadyH.cons (arr_at rfl) (fun K hK => ?_) ?_
    ·
      go_simp
      go_at_call 116; refine (hZZ.out o.wk 0 _).mono ?_; rintro e w2 ⟨rfl, hb2⟩
      have hZ := below_row hZ hb2 hZ.lt
      try go_wp2_with fail
      refine hK.out _ _ ?_ (fun hNew => ?_)
      · exact HK.out _ (Below.trans hHeld.1 (hb2.mono hHeld.1.size))
      clear hK K hHeld
      have hHeld := hNew
      clear hNew
      clear hb2
      try simp only [Act.put, List.setIfInBounds_toArray, List.set_cons_zero, List.set_cons_succ]
      refine wpAnyH_take (i := 28) (v := ?_) (arr_at rfl) (by as_aux_lemma => kernel_rfl) (by as_aux_lemma => kernel_rfl) (by as_aux_lemma => kernel_rfl) (fun _ _ _ h => h) (Or.inl ⟨by rfl, ?_⟩) hHeld ?_
      rotate_left
      · intro w hSw
        (try dsimp only at hSw)
        go_simp
        all_goals with_reducible rfl
      try simp only [Act.put, List.setIfInBounds_toArray, List.set_cons_zero, List.set_cons_succ]
      refine wpAnyH_ready (rs := [30]) (by as_aux_lemma => kernel_rfl) (by simp) ?_
      refine AllReadyH.cons (arr_at rfl) (fun K hK => ?_) ?_
      ·
        rw [if_pos (by rfl)]
        refine wp_store_mid 122 _ _ rfl _ 0 _ rfl rfl (rowIs_there hZ 0 19 (by omega)) info122s (by simp [Value.oneCell']) ?_
        refine hK.out _ _ ?_ (fun hNew => ?_)
        · exact HK.out _ (Below.grown hHeld.1 (setCells_grown _ _ _ (World.grownBy.refl _ _)) hHeld.1.size (fun k hk => by cases hk; exact hX))
        clear hK K hHeld
        have hHeld := hNew
        clear hNew
        have hRW := stored122 hHeld.1 hZ
        try simp only [Act.put]
        refine wpAnyH_done (by as_aux_lemma => kernel_rfl) ?_ _
        refine NoPanic.normal ?_
        as_aux_lemma =>
          go_wp2_with fail
          go_meet
          exact ⟨_, rfl, hX, World.rowIs.congr hRW fun j hj => by
              have h19 : j = 0 ∨ j = 1 ∨ j = 2 ∨ j = 3 ∨ j = 4 ∨ j = 5 ∨ j = 6 ∨ j = 7 ∨ j = 8 ∨ j = 9 ∨ j = 10 ∨ j = 11 ∨ j = 12 ∨ j = 13 ∨ j = 14 ∨ j = 15 ∨ j = 16 ∨ j = 17 ∨ j = 18 := by omega
              rcases h19 with h | h | h | h | h | h | h | h | h | h | h | h | h | h | h | h | h | h | h <;> subst h <;> simp [optH, optG, optF], hHeld.1⟩
      exact AllReadyH.nil
    exact AllReadyH.nil
  exact AllReadyH.nil
end Go.Proofs.YtnlpjncljbaapaaGreatDoor
