/- The specification's calendar, walked. -/
import Derived.Test.YtnlpjncljbaapaaGreatDoorDs
import Derived.Deep.RegionLaw
namespace Go.Proofs.YtnlpjncljbaapaaGreatDoor
open Go.RowKit

set_option maxHeartbeats 400000 in
theorem sBefore_any (y : Int) (w : World) (h1 : 1 ≤ y) (h2 : y ≤ 1000000) :
    Calls Tryz.prog 29 #[.int .i64 y] w fun e w' => e = .returned (.int .i64 (Cal.dby y)) ∧ w = w' := by
  have h3 : 0 ≤ y - 1 := by omega
  go_enter Tryz.func29, Tryz.ntmps29
  go_wp2
  go_ret
  exact ⟨rfl, rfl⟩

set_option maxHeartbeats 400000 in
theorem sLeap_any (y : Int) (w : World) (h1 : 1 ≤ y) (h2 : y ≤ 1000000) :
    Calls Tryz.prog 106 #[.int .i64 y] w fun e w' => e = .returned (.bool (Cal.leap y)) ∧ w = w' := by
  go_enter Tryz.func106, Tryz.ntmps106
  go_wp2
  all_goals
    go_ret
    exact ⟨by simp [Cal.leap, *] <;> (rw [Bool.eq_iff_iff]; simp), rfl⟩

set_option maxHeartbeats 400000 in
theorem sMonthDays_any (m y : Int) (w : World) (h1 : 1 ≤ y) (h2 : y ≤ 1000000) :
    Calls Tryz.prog 64 #[.int .i64 y, .int .i64 m] w fun e w' => e = .returned (.int .i64 (Cal.mdays y m)) ∧ w = w' := by
  by_cases h : Cal.leap y = true
  · have h3 := (Cal.leap_lp y).1 h
    go_enter Tryz.func64, Tryz.ntmps64
    go_wp2_with (go_at_call 106; refine (sLeap_any _ _ h1 h2).mono ?_; rintro e w' ⟨rfl, rfl⟩)
    all_goals
      go_ret
      refine ⟨?_, rfl⟩
      simp only [beq_iff_eq, beq_eq_false_iff_ne, ne_eq] at *
      simp [Cal.mdays, *]
  · have h' : Cal.leap y = false := by simpa using h
    have h3 := (Cal.leap_lp0 y).1 h'
    clear h
    go_enter Tryz.func64, Tryz.ntmps64
    go_wp2_with (go_at_call 106; refine (sLeap_any _ _ h1 h2).mono ?_; rintro e w' ⟨rfl, rfl⟩)
    all_goals
      go_ret
      refine ⟨?_, rfl⟩
      simp only [beq_iff_eq, beq_eq_false_iff_ne, ne_eq] at *
      simp [Cal.mdays, *]

/-- A moment as a value. -/
def momV (t : Int) : Value := .agg #[.int .i64 (t / 86400), .int .i64 (t % 86400 / 3600), .int .i64 (t % 86400 / 60 % 60), .int .i64 (t % 86400 % 60)]
set_option maxHeartbeats 400000 in
theorem momentOf_any (t : Int) (w : World) (h1 : 0 ≤ t) (h2 : t < 315537897600) :
    Calls Tryz.prog 36 #[.int .i64 t] w fun e w' => e = .returned (momV t) ∧ Below w.heap.size w w' := by
  have a0 : 0 ≤ t % 86400 := by omega
  have a1 : t % 86400 < 86400 := by omega
  have b0 : 0 ≤ t / 86400 := by omega
  have b1 : t / 86400 < 3652059 := by omega
  have c0 : 0 ≤ t % 86400 / 60 := by omega
  go_enter Tryz.func36, Tryz.ntmps36
  go_wp2
  have e : t % 86400 % 60 = t % 60 := by omega
  exact bodyPost_ret (v := momV t) (by simp [results, Tryz.results36, go_sem, momV, e]) rfl ⟨rfl, below_a1⟩

theorem dby_q (n : Int) (h0 : 0 ≤ n) (h1 : n < 3652059) : Cal.dby (n / 366 + 1) ≤ n := by unfold Cal.dby; omega
/-- A day of the calendar as a value. -/
def dayV (n : Int) : Value := .agg #[.int .i64 (Cal.year n), .int .i64 (Cal.month n), .int .i64 (Cal.date n)]
set_option maxRecDepth 100000 in
set_option maxHeartbeats 2000000 in
theorem sDayOf_any (n : Int) (w : World) (h0 : 0 ≤ n) (h1 : n < 3652059) :
    Calls Tryz.prog 37 #[.int .i64 n] w fun e w' => e = .returned (dayV n) ∧ Below w.heap.size w w' := by
  have hq := dby_q n h0 h1
  have q1 : 1 ≤ n / 366 + 1 := by omega
  have q2 : n / 366 + 1 ≤ 10000 := by omega
  obtain ⟨y1, y2⟩ := Cal.year_bd h0 h1
  have HY := Lib.hid (And.intro y1 y2)
  clear y1 y2
  go_enter Tryz.func37, Tryz.ntmps37
  go_wp2
  generalize n / 366 + 1 = y0 at *
  go_loop [3] (fun v => ∃ y : Int, v = .int .i64 y ∧ 1 ≤ y ∧ y ≤ 10000 ∧ Hid (Cal.dby y ≤ n)) (fun v => (10001 - intOf v).toNat)
  case atStart => exact ⟨y0, rfl, q1, q2, hq⟩
  case round =>
    clear hq q1 q2
    obtain ⟨y, rfl, hy1, hy2, hy⟩ := hrel
    by_cases hc : Cal.dby (y + 1) ≤ n
    · have hy3 : y < 10000 := by
        rcases Int.lt_or_le y 10000 with h | h
        · exact h
        · exfalso
          have := Cal.dby_mono 10001 (y + 1) (by omega)
          have e : Cal.dby 10001 = 3652425 := by decide
          omega
      go_wp2_with (go_at_call 29; refine (sBefore_any _ _ (by omega) (by omega)).mono ?_; rintro e w' ⟨rfl, rfl⟩)
      go_round
      case rel => exact ⟨y + 1, rfl, by omega, by omega, hc⟩
      case measure => simp [intOf]; omega
    · have hyu : y = Cal.year n := Cal.year_unique hy.out (by omega)
      have HYU := Lib.hid hyu
      have hy9 : y ≤ 9999 := by rw [hyu]; exact HY.out.2
      have hd0 : Cal.dby y ≤ n := hy.out
      have hd1 : n < Cal.dby y + 365 + Cal.lp y := by have := Cal.dby_succ y; omega
      have HLP := Lib.hid (Cal.lp_01 y)
      obtain ⟨b0, b1⟩ := Cal.dby_bd y hy1 (by omega)
      clear hyu hy
      go_wp2_with (go_at_call 29; refine (sBefore_any _ _ (by omega) (by omega)).mono ?_; rintro e w' ⟨rfl, rfl⟩)
      have hB : Below w.heap.size w ((w.alloc (.cells #[.int .i64 0, .int .i64 0, .int .i64 0] 81)).alloc (.cells #[.int .i64 y, .int .i64 1, .int .i64 (n - Cal.dby y + 1)] 81)) := below_a2
      have k0 : ((w.alloc (.cells #[.int .i64 0, .int .i64 0, .int .i64 0] 81)).alloc (.cells #[.int .i64 y, .int .i64 1, .int .i64 (n - Cal.dby y + 1)] 81)).rowIs (w.heap.size + 1) 81 3 (fun j => .int .i64 (if j = 0 then y else if j = 1 then 1 else n - Cal.dby y + 1)) := by
        have := World.rowIs_alloc (w.alloc (.cells #[.int .i64 0, .int .i64 0, .int .i64 0] 81)) #[.int .i64 y, .int .i64 1, .int .i64 (n - Cal.dby y + 1)] 81 (fun j => .int .i64 (if j = 0 then y else if j = 1 then 1 else n - Cal.dby y + 1)) (fun i hi => by
          match i, hi with
          | 0, _ => rfl
          | 1, _ => rfl
          | 2, _ => rfl
          | k + 3, h => exact absurd h (by show ¬ k + 3 < 3; omega))
        simpa using this
      have r0 : ((w.alloc (.cells #[.int .i64 0, .int .i64 0, .int .i64 0] 81)).alloc (.cells #[.int .i64 y, .int .i64 1, .int .i64 (n - Cal.dby y + 1)] 81)).rowIs w.heap.size 81 3 (fun _ => .int .i64 0) := by
        refine World.rowIs.alloc ?_ _
        exact World.rowIs_alloc w #[.int .i64 0, .int .i64 0, .int .i64 0] 81 (fun _ => .int .i64 0) (fun i hi => by
          match i, hi with
          | 0, _ => rfl
          | 1, _ => rfl
          | 2, _ => rfl
          | k + 3, h => exact absurd h (by show ¬ k + 3 < 3; omega))
      generalize (w.alloc (.cells #[.int .i64 0, .int .i64 0, .int .i64 0] 81)).alloc (.cells #[.int .i64 y, .int .i64 1, .int .i64 (n - Cal.dby y + 1)] 81) = w1 at *
      have K0 := Lib.hid k0
      have R0 := Lib.hid r0
      have HB := Lib.hid hB
      have HD0 := Lib.hid (And.intro hd0 hd1)
      clear k0 r0 hB hd0 hd1 hc
      go_loopw [] (fun wr => ∃ m v : Int, 1 ≤ m ∧ m ≤ 12 ∧ 1 ≤ v ∧ v ≤ 400 ∧ Hid (v = n - Cal.dby y - Cal.cum y m + 1) ∧ wr.rowIs (w.heap.size + 1) 81 3 (fun j => .int .i64 (if j = 0 then y else if j = 1 then m else v)) ∧ wr.rowIs w.heap.size 81 3 (fun _ => .int .i64 0) ∧ Below w.heap.size w wr) (fun wr => match wr.cell? ⟨w.heap.size + 1, 1, none⟩ with | some x => (13 - intOf x).toNat | none => 0)
      case atStart => exact ⟨1, _, by omega, by omega, by have := HD0.out; omega, by have := HD0.out; have := HLP.out; omega, by show _ = _; rw [Cal.cum_one]; omega, K0.out, R0.out, HB.out⟩
      case round =>
        clear K0 R0 HB
        obtain ⟨m, v, hm1, hm2, hv1, hv2, hv, hk, hr, hb⟩ := hrel
        have c0 := hk.cell (i := 0) (by decide)
        have c1 := hk.cell (i := 1) (by decide)
        have c2 := hk.cell (i := 2) (by decide)
        have f0 := hk.frozen 0
        have f1 := hk.frozen 1
        have f2 := hk.frozen 2
        simp at c0 c1 c2
        obtain ⟨m1, m2⟩ := Cal.mdays_bd y m
        have HMD := Lib.hid fun W : World => sMonthDays_any m y W hy1 (by omega)
        have hD := HD0.out
        have hL := HLP.out
        have hvv : v = n - Cal.dby y - Cal.cum y m + 1 := hv.out
        have hwr : IntKind.i64.wrap (v - Cal.mdays y m) = v - Cal.mdays y m := by simp [IntKind.wrap, IntKind.bits, IntKind.signed]; omega
        have hcs := Cal.cum_succ y m hm1 hm2
        have HMM := Lib.hid (show Cal.mdays y m < v → m + 1 ≤ 12 ∧ v - Cal.mdays y m = n - Cal.dby y - Cal.cum y (m + 1) + 1 from fun hgt => by
          refine ⟨?_, by omega⟩
          rcases Int.lt_or_le m 12 with h | h
          · omega
          · exfalso
            have hm : m = 12 := by omega
            subst hm
            have := Cal.cum_last y
            have e : (12 : Int) + 1 = 13 := rfl
            rw [e] at hcs
            omega)
        have HEQ := Lib.hid (show ¬ Cal.mdays y m < v → Cal.num y m v = n from fun _ => by unfold Cal.num; omega)
        have hwz : w.heap.size ≤ wr.heap.size := hb.size
        have HK := Lib.hid hk
        have HR := Lib.hid hr
        have HB := Lib.hid hb
        clear hD hL hvv hcs hv hk hr hb
        by_cases hgt : Cal.mdays y m < v
        · go_wp2_with fail
          go_quiet ((go_at_call 64; exact Calls.quiet_of_same ((HMD.out _).mono fun e w' h => ⟨h.1, h.2.symm⟩)))
          go_wp2_with fail
          go_region_law (go_simp; go_at_call 64; refine (HMD.out _).mono ?_; rintro e w2 ⟨rfl, rfl⟩)
          all_goals
            go_wp2_with fail
            go_roundw
            (case rel =>
              refine ⟨m + 1, v - Cal.mdays y m, by omega, (HMM.out hgt).1, by omega, by omega, (HMM.out hgt).2, ?_, ?_, ?_⟩
              · refine (((HK.out.of_block (by simp)).set 2 _).set 1 _).congr fun j hj => ?_
                match j, hj with
                | 0, _ => rfl
                | 1, _ => rfl
                | 2, _ => rfl
              · exact ((HR.out.of_block (by simp)).setOther (by simp) _).setOther (by simp) _
              · exact ((pw_drewN HB.out _).setCell (by simp) _).setCell (by simp) _)
            (case measure =>
              have e1 : (((wr.drewN (nq + 1)).setCell ⟨w.heap.size + 1, 2, none⟩ (.int .i64 (v - Cal.mdays y m))).setCell ⟨w.heap.size + 1, 1, none⟩ (.int .i64 (m + 1))).cell? ⟨w.heap.size + 1, 1, none⟩ = some (.int .i64 (m + 1)) :=
                (((HK.out.of_block (w' := wr.drewN (nq + 1)) (by simp)).set 2 (.int .i64 (v - Cal.mdays y m))).set 1 (.int .i64 (m + 1))).cell (i := 1) (by decide)
              rw [e1, c1]
              simp [intOf]
              omega)
        · have hnn := HEQ.out hgt
          have HU := Lib.hid (Cal.date_unique hm1 hm2 hv1 (by omega) hnn)
          clear hnn
          have g0 := HR.out.cell (i := 0) (by decide)
          have g1 := HR.out.cell (i := 1) (by decide)
          have g2 := HR.out.cell (i := 2) (by decide)
          have e0 := HR.out.frozen 0
          have e1 := HR.out.frozen 1
          have e2 := HR.out.frozen 2
          go_wp2_with fail
          go_quiet ((go_at_call 64; exact Calls.quiet_of_same ((HMD.out _).mono fun e w' h => ⟨h.1, h.2.symm⟩)))
          go_wp2_with fail
          have k := (((HR.out.of_block (w' := wr.drewN nq) (by simp)).set 0 (.int .i64 y)).set 1 (.int .i64 m)).set 2 (.int .i64 v)
          have k0 := k.cell (i := 0) (by decide)
          have k1 := k.cell (i := 1) (by decide)
          have k2 := k.cell (i := 2) (by decide)
          have hV : dayV n = .agg #[.int .i64 y, .int .i64 m, .int .i64 v] := by
            unfold dayV
            rw [← HU.out.1, ← HU.out.2.1, ← HU.out.2.2]
          have hBB : Below w.heap.size w ((((wr.drewN nq).setCell ⟨w.heap.size, 0, none⟩ (.int .i64 y)).setCell ⟨w.heap.size, 1, none⟩ (.int .i64 m)).setCell ⟨w.heap.size, 2, none⟩ (.int .i64 v)) :=
            (((pw_drewN HB.out nq).setCell (by simp) _).setCell (by simp) _).setCell (by simp) _
          generalize (((wr.drewN nq).setCell ⟨w.heap.size, 0, none⟩ (.int .i64 y)).setCell ⟨w.heap.size, 1, none⟩ (.int .i64 m)).setCell ⟨w.heap.size, 2, none⟩ (.int .i64 v) = wf at *
          exact bodyPost_ret (v := .agg #[.int .i64 y, .int .i64 m, .int .i64 v]) (by simp [results, Tryz.results37, go_sem, k0, k1, k2]) rfl ⟨by rw [hV], hBB⟩
end Go.Proofs.YtnlpjncljbaapaaGreatDoor
