/- The specification's calendar, walked. -/
import Derived.Test.YtnlpjncljbaapaaGreatDoorDs
import Derived.Deep.RegionLaw
import Derived.Lib.ItoaLen
import Derived.Lib.QuietBelow
import Derived.Lib.AppendIntMem
import Derived.Test.YtnlpjncljbaapaaGreatDoorVb
namespace Go.Proofs.YtnlpjncljbaapaaGreatDoor
open Go.RowKit

set_option maxHeartbeats 400000 in
theorem sBefore_any (y : Int) (w : World) (h1 : 1 ≤ y) (h2 : y ≤ 1000000) :
    Calls Tryz.prog 29 #[.int .i64 y] w fun e w' => e = .returned (.int .i64 (Cal.dby y)) ∧ w = w' := by
  have h3 : 0 ≤ y - 1 := by omega
  go_enter Tryz.func29, Tryz.ntmps29
  go_wp2
  go_ret
  exact ⟨rfl, rfl⟩

set_option maxHeartbeats 400000 in
theorem sLeap_any (y : Int) (w : World) (h1 : 1 ≤ y) (h2 : y ≤ 1000000) :
    Calls Tryz.prog 106 #[.int .i64 y] w fun e w' => e = .returned (.bool (Cal.leap y)) ∧ w = w' := by
  go_enter Tryz.func106, Tryz.ntmps106
  go_wp2
  all_goals
    go_ret
    exact ⟨by simp [Cal.leap, *] <;> (rw [Bool.eq_iff_iff]; simp), rfl⟩

set_option maxHeartbeats 400000 in
theorem sMonthDays_any (m y : Int) (w : World) (h1 : 1 ≤ y) (h2 : y ≤ 1000000) :
    Calls Tryz.prog 64 #[.int .i64 y, .int .i64 m] w fun e w' => e = .returned (.int .i64 (Cal.mdays y m)) ∧ w = w' := by
  by_cases h : Cal.leap y = true
  · have h3 := (Cal.leap_lp y).1 h
    go_enter Tryz.func64, Tryz.ntmps64
    go_wp2_with (go_at_call 106; refine (sLeap_any _ _ h1 h2).mono ?_; rintro e w' ⟨rfl, rfl⟩)
    all_goals
      go_ret
      refine ⟨?_, rfl⟩
      simp only [beq_iff_eq, beq_eq_false_iff_ne, ne_eq] at *
      simp [Cal.mdays, *]
  · have h' : Cal.leap y = false := by simpa using h
    have h3 := (Cal.leap_lp0 y).1 h'
    clear h
    go_enter Tryz.func64, Tryz.ntmps64
    go_wp2_with (go_at_call 106; refine (sLeap_any _ _ h1 h2).mono ?_; rintro e w' ⟨rfl, rfl⟩)
    all_goals
      go_ret
      refine ⟨?_, rfl⟩
      simp only [beq_iff_eq, beq_eq_false_iff_ne, ne_eq] at *
      simp [Cal.mdays, *]

/-- A moment as a value. -/
def momV (t : Int) : Value := .agg #[.int .i64 (t / 86400), .int .i64 (t % 86400 / 3600), .int .i64 (t % 86400 / 60 % 60), .int .i64 (t % 86400 % 60)]
set_option maxHeartbeats 400000 in
theorem momentOf_any (t : Int) (w : World) (h1 : 0 ≤ t) (h2 : t < 315537897600) :
    Calls Tryz.prog 36 #[.int .i64 t] w fun e w' => e = .returned (momV t) ∧ Below w.heap.size w w' := by
  have a0 : 0 ≤ t % 86400 := by omega
  have a1 : t % 86400 < 86400 := by omega
  have b0 : 0 ≤ t / 86400 := by omega
  have b1 : t / 86400 < 3652059 := by omega
  have c0 : 0 ≤ t % 86400 / 60 := by omega
  go_enter Tryz.func36, Tryz.ntmps36
  go_wp2
  have e : t % 86400 % 60 = t % 60 := by omega
  exact bodyPost_ret (v := momV t) (by simp [results, Tryz.results36, go_sem, momV, e]) rfl ⟨rfl, below_a1⟩

theorem dby_q (n : Int) (h0 : 0 ≤ n) (h1 : n < 3652059) : Cal.dby (n / 366 + 1) ≤ n := by unfold Cal.dby; omega
/-- A day of the calendar as a value. -/
def dayV (n : Int) : Value := .agg #[.int .i64 (Cal.year n), .int .i64 (Cal.month n), .int .i64 (Cal.date n)]
set_option maxRecDepth 100000 in
set_option maxHeartbeats 2000000 in
theorem sDayOf_any (n : Int) (w : World) (h0 : 0 ≤ n) (h1 : n < 3652059) :
    Calls Tryz.prog 37 #[.int .i64 n] w fun e w' => e = .returned (dayV n) ∧ Below w.heap.size w w' := by
  have hq := dby_q n h0 h1
  have q1 : 1 ≤ n / 366 + 1 := by omega
  have q2 : n / 366 + 1 ≤ 10000 := by omega
  obtain ⟨y1, y2⟩ := Cal.year_bd h0 h1
  have HY := Lib.hid (And.intro y1 y2)
  clear y1 y2
  go_enter Tryz.func37, Tryz.ntmps37
  go_wp2
  generalize n / 366 + 1 = y0 at *
  go_loop [3] (fun v => ∃ y : Int, v = .int .i64 y ∧ 1 ≤ y ∧ y ≤ 10000 ∧ Hid (Cal.dby y ≤ n)) (fun v => (10001 - intOf v).toNat)
  case atStart => exact ⟨y0, rfl, q1, q2, hq⟩
  case round =>
    clear hq q1 q2
    obtain ⟨y, rfl, hy1, hy2, hy⟩ := hrel
    by_cases hc : Cal.dby (y + 1) ≤ n
    · have hy3 : y < 10000 := by
        rcases Int.lt_or_le y 10000 with h | h
        · exact h
        · exfalso
          have := Cal.dby_mono 10001 (y + 1) (by omega)
          have e : Cal.dby 10001 = 3652425 := by decide
          omega
      go_wp2_with (go_at_call 29; refine (sBefore_any _ _ (by omega) (by omega)).mono ?_; rintro e w' ⟨rfl, rfl⟩)
      go_round
      case rel => exact ⟨y + 1, rfl, by omega, by omega, hc⟩
      case measure => simp [intOf]; omega
    · have hyu : y = Cal.year n := Cal.year_unique hy.out (by omega)
      have HYU := Lib.hid hyu
      have hy9 : y ≤ 9999 := by rw [hyu]; exact HY.out.2
      have hd0 : Cal.dby y ≤ n := hy.out
      have hd1 : n < Cal.dby y + 365 + Cal.lp y := by have := Cal.dby_succ y; omega
      have HLP := Lib.hid (Cal.lp_01 y)
      obtain ⟨b0, b1⟩ := Cal.dby_bd y hy1 (by omega)
      clear hyu hy
      go_wp2_with (go_at_call 29; refine (sBefore_any _ _ (by omega) (by omega)).mono ?_; rintro e w' ⟨rfl, rfl⟩)
      have hB : Below w.heap.size w ((w.alloc (.cells #[.int .i64 0, .int .i64 0, .int .i64 0] 81)).alloc (.cells #[.int .i64 y, .int .i64 1, .int .i64 (n - Cal.dby y + 1)] 81)) := below_a2
      have k0 : ((w.alloc (.cells #[.int .i64 0, .int .i64 0, .int .i64 0] 81)).alloc (.cells #[.int .i64 y, .int .i64 1, .int .i64 (n - Cal.dby y + 1)] 81)).rowIs (w.heap.size + 1) 81 3 (fun j => .int .i64 (if j = 0 then y else if j = 1 then 1 else n - Cal.dby y + 1)) := by
        have := World.rowIs_alloc (w.alloc (.cells #[.int .i64 0, .int .i64 0, .int .i64 0] 81)) #[.int .i64 y, .int .i64 1, .int .i64 (n - Cal.dby y + 1)] 81 (fun j => .int .i64 (if j = 0 then y else if j = 1 then 1 else n - Cal.dby y + 1)) (fun i hi => by
          match i, hi with
          | 0, _ => rfl
          | 1, _ => rfl
          | 2, _ => rfl
          | k + 3, h => exact absurd h (by show ¬ k + 3 < 3; omega))
        simpa using this
      have r0 : ((w.alloc (.cells #[.int .i64 0, .int .i64 0, .int .i64 0] 81)).alloc (.cells #[.int .i64 y, .int .i64 1, .int .i64 (n - Cal.dby y + 1)] 81)).rowIs w.heap.size 81 3 (fun _ => .int .i64 0) := by
        refine World.rowIs.alloc ?_ _
        exact World.rowIs_alloc w #[.int .i64 0, .int .i64 0, .int .i64 0] 81 (fun _ => .int .i64 0) (fun i hi => by
          match i, hi with
          | 0, _ => rfl
          | 1, _ => rfl
          | 2, _ => rfl
          | k + 3, h => exact absurd h (by show ¬ k + 3 < 3; omega))
      generalize (w.alloc (.cells #[.int .i64 0, .int .i64 0, .int .i64 0] 81)).alloc (.cells #[.int .i64 y, .int .i64 1, .int .i64 (n - Cal.dby y + 1)] 81) = w1 at *
      have K0 := Lib.hid k0
      have R0 := Lib.hid r0
      have HB := Lib.hid hB
      have HD0 := Lib.hid (And.intro hd0 hd1)
      clear k0 r0 hB hd0 hd1 hc
      go_loopw [] (fun wr => ∃ m v : Int, 1 ≤ m ∧ m ≤ 12 ∧ 1 ≤ v ∧ v ≤ 400 ∧ Hid (v = n - Cal.dby y - Cal.cum y m + 1) ∧ wr.rowIs (w.heap.size + 1) 81 3 (fun j => .int .i64 (if j = 0 then y else if j = 1 then m else v)) ∧ wr.rowIs w.heap.size 81 3 (fun _ => .int .i64 0) ∧ Below w.heap.size w wr) (fun wr => match wr.cell? ⟨w.heap.size + 1, 1, none⟩ with | some x => (13 - intOf x).toNat | none => 0)
      case atStart => exact ⟨1, _, by omega, by omega, by have := HD0.out; omega, by have := HD0.out; have := HLP.out; omega, by show _ = _; rw [Cal.cum_one]; omega, K0.out, R0.out, HB.out⟩
      case round =>
        clear K0 R0 HB
        obtain ⟨m, v, hm1, hm2, hv1, hv2, hv, hk, hr, hb⟩ := hrel
        have c0 := hk.cell (i := 0) (by decide)
        have c1 := hk.cell (i := 1) (by decide)
        have c2 := hk.cell (i := 2) (by decide)
        have f0 := hk.frozen 0
        have f1 := hk.frozen 1
        have f2 := hk.frozen 2
        simp at c0 c1 c2
        obtain ⟨m1, m2⟩ := Cal.mdays_bd y m
        have HMD := Lib.hid fun W : World => sMonthDays_any m y W hy1 (by omega)
        have hD := HD0.out
        have hL := HLP.out
        have hvv : v = n - Cal.dby y - Cal.cum y m + 1 := hv.out
        have hwr : IntKind.i64.wrap (v - Cal.mdays y m) = v - Cal.mdays y m := by simp [IntKind.wrap, IntKind.bits, IntKind.signed]; omega
        have hcs := Cal.cum_succ y m hm1 hm2
        have HMM := Lib.hid (show Cal.mdays y m < v → m + 1 ≤ 12 ∧ v - Cal.mdays y m = n - Cal.dby y - Cal.cum y (m + 1) + 1 from fun hgt => by
          refine ⟨?_, by omega⟩
          rcases Int.lt_or_le m 12 with h | h
          · omega
          · exfalso
            have hm : m = 12 := by omega
            subst hm
            have := Cal.cum_last y
            have e : (12 : Int) + 1 = 13 := rfl
            rw [e] at hcs
            omega)
        have HEQ := Lib.hid (show ¬ Cal.mdays y m < v → Cal.num y m v = n from fun _ => by unfold Cal.num; omega)
        have hwz : w.heap.size ≤ wr.heap.size := hb.size
        have HK := Lib.hid hk
        have HR := Lib.hid hr
        have HB := Lib.hid hb
        clear hD hL hvv hcs hv hk hr hb
        by_cases hgt : Cal.mdays y m < v
        · go_wp2_with fail
          go_quiet ((go_at_call 64; exact Calls.quiet_of_same ((HMD.out _).mono fun e w' h => ⟨h.1, h.2.symm⟩)))
          go_wp2_with fail
          go_region_law (go_simp; go_at_call 64; refine (HMD.out _).mono ?_; rintro e w2 ⟨rfl, rfl⟩)
          all_goals
            go_wp2_with fail
            go_roundw
            (case rel =>
              refine ⟨m + 1, v - Cal.mdays y m, by omega, (HMM.out hgt).1, by omega, by omega, (HMM.out hgt).2, ?_, ?_, ?_⟩
              · refine (((HK.out.of_block (by simp)).set 2 _).set 1 _).congr fun j hj => ?_
                match j, hj with
                | 0, _ => rfl
                | 1, _ => rfl
                | 2, _ => rfl
              · exact ((HR.out.of_block (by simp)).setOther (by simp) _).setOther (by simp) _
              · exact ((pw_drewN HB.out _).setCell (by simp) _).setCell (by simp) _)
            (case measure =>
              have e1 : (((wr.drewN (nq + 1)).setCell ⟨w.heap.size + 1, 2, none⟩ (.int .i64 (v - Cal.mdays y m))).setCell ⟨w.heap.size + 1, 1, none⟩ (.int .i64 (m + 1))).cell? ⟨w.heap.size + 1, 1, none⟩ = some (.int .i64 (m + 1)) :=
                (((HK.out.of_block (w' := wr.drewN (nq + 1)) (by simp)).set 2 (.int .i64 (v - Cal.mdays y m))).set 1 (.int .i64 (m + 1))).cell (i := 1) (by decide)
              rw [e1, c1]
              simp [intOf]
              omega)
        · have hnn := HEQ.out hgt
          have HU := Lib.hid (Cal.date_unique hm1 hm2 hv1 (by omega) hnn)
          clear hnn
          have g0 := HR.out.cell (i := 0) (by decide)
          have g1 := HR.out.cell (i := 1) (by decide)
          have g2 := HR.out.cell (i := 2) (by decide)
          have e0 := HR.out.frozen 0
          have e1 := HR.out.frozen 1
          have e2 := HR.out.frozen 2
          go_wp2_with fail
          go_quiet ((go_at_call 64; exact Calls.quiet_of_same ((HMD.out _).mono fun e w' h => ⟨h.1, h.2.symm⟩)))
          go_wp2_with fail
          have k := (((HR.out.of_block (w' := wr.drewN nq) (by simp)).set 0 (.int .i64 y)).set 1 (.int .i64 m)).set 2 (.int .i64 v)
          have k0 := k.cell (i := 0) (by decide)
          have k1 := k.cell (i := 1) (by decide)
          have k2 := k.cell (i := 2) (by decide)
          have hV : dayV n = .agg #[.int .i64 y, .int .i64 m, .int .i64 v] := by
            unfold dayV
            rw [← HU.out.1, ← HU.out.2.1, ← HU.out.2.2]
          have hBB : Below w.heap.size w ((((wr.drewN nq).setCell ⟨w.heap.size, 0, none⟩ (.int .i64 y)).setCell ⟨w.heap.size, 1, none⟩ (.int .i64 m)).setCell ⟨w.heap.size, 2, none⟩ (.int .i64 v)) :=
            (((pw_drewN HB.out nq).setCell (by simp) _).setCell (by simp) _).setCell (by simp) _
          generalize (((wr.drewN nq).setCell ⟨w.heap.size, 0, none⟩ (.int .i64 y)).setCell ⟨w.heap.size, 1, none⟩ (.int .i64 m)).setCell ⟨w.heap.size, 2, none⟩ (.int .i64 v) = wf at *
          exact bodyPost_ret (v := .agg #[.int .i64 y, .int .i64 m, .int .i64 v]) (by simp [results, Tryz.results37, go_sem, k0, k1, k2]) rfl ⟨by rw [hV], hBB⟩
end Go.Proofs.YtnlpjncljbaapaaGreatDoor

/- The specification's dates, written. -/
namespace Go.Proofs.YtnlpjncljbaapaaGreatDoor
open Go.RowKit Go.Sort

def zp (k : Nat) (l : List UInt8) : List UInt8 := List.replicate (k - l.length) 48 ++ l
theorem dg_nat (u : Nat) : dg (u : Int) = UInt8.ofNat (48 + u % 10) := by
  unfold dg
  congr 1
theorem dec1 {u : Nat} (h : u < 10) : Lib.decDigits u = [UInt8.ofNat (48 + u)] := by rw [Lib.decDigits, dif_pos h]
theorem decS {u : Nat} (h : ¬ u < 10) : Lib.decDigits u = Lib.decDigits (u / 10) ++ [UInt8.ofNat (48 + u % 10)] := by rw [Lib.decDigits, dif_neg h]
theorem zp2 (n : Int) (h0 : 0 ≤ n) (h1 : n < 100) : zp 2 (Lib.itoa n) = [dg (n / 10), dg n] := by
  obtain ⟨u, rfl⟩ := Int.eq_ofNat_of_zero_le h0
  rw [Lib.itoa_nonneg, show ((u : Int) / 10) = ((u / 10 : Nat) : Int) by omega, dg_nat, dg_nat]
  by_cases h : u < 10
  · have e1 : u / 10 = 0 := by omega
    have e2 : u % 10 = u := by omega
    rw [dec1 h, e1, e2]
    rfl
  · have e2 : u / 10 % 10 = u / 10 := by omega
    rw [decS h, dec1 (by omega), e2]
    rfl
theorem zp4 (n : Int) (h0 : 0 ≤ n) (h1 : n < 10000) : zp 4 (Lib.itoa n) = [dg (n / 1000), dg (n / 100), dg (n / 10), dg n] := by
  obtain ⟨u, rfl⟩ := Int.eq_ofNat_of_zero_le h0
  rw [Lib.itoa_nonneg, show ((u : Int) / 10) = ((u / 10 : Nat) : Int) by omega, show ((u : Int) / 100) = ((u / 100 : Nat) : Int) by omega, show ((u : Int) / 1000) = ((u / 1000 : Nat) : Int) by omega, dg_nat, dg_nat, dg_nat, dg_nat]
  have d2 : u / 10 / 10 = u / 100 := by omega
  have d3 : u / 100 / 10 = u / 1000 := by omega
  by_cases h : u < 10
  · rw [dec1 h, show u / 1000 = 0 by omega, show u / 100 = 0 by omega, show u / 10 = 0 by omega, show u % 10 = u by omega]
    rfl
  by_cases h2 : u < 100
  · rw [decS h, dec1 (by omega), show u / 1000 = 0 by omega, show u / 100 = 0 by omega, show u / 10 % 10 = u / 10 by omega]
    rfl
  by_cases h3 : u < 1000
  · rw [decS h, decS (by omega), dec1 (by omega), d2, show u / 1000 = 0 by omega, show u / 100 % 10 = u / 100 by omega]
    rfl
  · rw [decS h, decS (by omega), decS (by omega), dec1 (by omega), d2, d3, show u / 1000 % 10 = u / 1000 by omega]
    rfl
set_option maxHeartbeats 1000000 in
theorem itoa_any (n : Int) (h0 : -9223372036854775808 ≤ n) (h1 : n ≤ 9223372036854775807) (w : World) (hG : Glob w) : Calls Tryz.prog 65 #[.int .i64 n] w fun e w' => e = .returned (.string ⟨(Lib.itoa n).toArray⟩) ∧ Below w.heap.size w w' :=
  (Tryz.strconv_Itoa n h0 h1 w hG.pow).mono fun e w' ⟨he, k, os, hw⟩ => ⟨he, by rw [hw]; exact Lib.below_grow _ _ (Nat.le_refl _) _ _⟩
set_option maxHeartbeats 1000000 in
theorem padded_any (n : Int) (k : Nat) (h0 : 0 ≤ n) (h1 : n ≤ 100000) (hk : k ≤ 10) (w : World) (hG : Glob w) :
    Calls Tryz.prog 38 #[.int .i64 n, .int .i64 (k : Int)] w fun e w' => e = .returned (.string ⟨(zp k (Lib.itoa n)).toArray⟩) ∧ Below w.heap.size w w' := by
  have HI := Lib.hid (itoa_any n (by omega) (by omega) w hG)
  have hl : (Lib.itoa n).length ≤ 21 := Lib.itoa_length_le n (by omega) (by omega)
  have HZ : Hid (zp k (Lib.itoa n) = List.replicate (k - (Lib.itoa n).length) 48 ++ Lib.itoa n) := rfl
  generalize zp k (Lib.itoa n) = z at *
  generalize Lib.itoa n = l at *
  go_enter Tryz.func38, Tryz.ntmps38
  go_wp2_with fail
  refine HI.out.mono ?_; rintro e w1 ⟨rfl, hb⟩
  have HB := Lib.hid hb
  clear hb
  go_wp2_with fail
  go_loop [5] (fun v => ∃ j : Nat, v = .string ⟨(List.replicate j 48 ++ l).toArray⟩ ∧ (j = 0 ∨ j + l.length ≤ k)) (fun v => match v with | .string s => k - s.size | _ => 0)
  case atStart => exact ⟨0, rfl, .inl rfl⟩
  case round =>
    obtain ⟨j, rfl, hj⟩ := hrel
    have hsz : (⟨(List.replicate j 48 ++ l).toArray⟩ : ByteArray).size = j + l.length := by rw [Lib.size_eq]; simp
    by_cases hlt : j + l.length < k
    · go_wp2_with fail
      have hc : ((⟨#[48]⟩ : ByteArray) ++ ⟨(List.replicate j 48 ++ l).toArray⟩) = ⟨(List.replicate (j + 1) 48 ++ l).toArray⟩ := by
        apply ByteArray.ext
        simp [List.replicate_succ]
      rw [hc]
      go_round
      case rel => exact ⟨j + 1, rfl, .inr (by omega)⟩
      case measure =>
        show k - (⟨(List.replicate (j + 1) 48 ++ l).toArray⟩ : ByteArray).size < k - (⟨(List.replicate j 48 ++ l).toArray⟩ : ByteArray).size
        rw [hsz, Lib.size_eq]
        simp
        omega
    · go_wp2_with fail
      go_ret
      refine ⟨?_, HB.out⟩
      have : j = k - l.length := by omega
      rw [HZ.out, this]
      rfl
theorem padded2 (n : Int) (h0 : 0 ≤ n) (h1 : n ≤ 100000) (w : World) (hG : Glob w) :
    Calls Tryz.prog 38 #[.int .i64 n, .int .i64 2] w fun e w' => e = .returned (.string ⟨(zp 2 (Lib.itoa n)).toArray⟩) ∧ Below w.heap.size w w' := padded_any n 2 h0 h1 (by omega) w hG
theorem padded4 (n : Int) (h0 : 0 ≤ n) (h1 : n ≤ 100000) (w : World) (hG : Glob w) :
    Calls Tryz.prog 38 #[.int .i64 n, .int .i64 4] w fun e w' => e = .returned (.string ⟨(zp 4 (Lib.itoa n)).toArray⟩) ∧ Below w.heap.size w w' := padded_any n 4 h0 h1 (by omega) w hG
set_option maxRecDepth 100000 in
set_option maxHeartbeats 2000000 in
theorem dateText_any (t : Int) (h0 : 0 ≤ t) (h1 : t < 315537897600) (w : World) (hG : Glob w) :
    Calls Tryz.prog 14 #[.int .i64 t] w fun e w' => e = .returned (.string ⟨(dateL t).toArray⟩) ∧ Below w.heap.size w w' := by
  have HM := Lib.hid (momentOf_any t w h0 h1)
  have d0 : 0 ≤ t / 86400 := by omega
  have d1 : t / 86400 < 3652059 := by omega
  have HD := Lib.hid fun W : World => sDayOf_any (t / 86400) W d0 d1
  obtain ⟨y1, y2⟩ := Cal.year_bd d0 d1
  obtain ⟨m1, m2, e1, e2, _⟩ := Cal.date_ok (t / 86400)
  obtain ⟨_, e3⟩ := Cal.mdays_bd (Cal.year (t / 86400)) (Cal.month (t / 86400))
  have z1 := zp4 (Cal.year (t / 86400)) (by omega) (by omega)
  have z2 := zp2 (Cal.month (t / 86400)) (by omega) (by omega)
  have z3 := zp2 (Cal.date (t / 86400)) (by omega) (by omega)
  have z4 := zp2 (t % 86400 / 3600) (by omega) (by omega)
  have z5 := zp2 (t % 86400 / 60 % 60) (by omega) (by omega)
  have z6 := zp2 (t % 86400 % 60) (by omega) (by omega)
  have HL : Hid ((⟨(dateL t).toArray⟩ : ByteArray) = (⟨(zp 4 (Lib.itoa (Cal.year (t / 86400)))).toArray⟩ : ByteArray) ++ (⟨(zp 2 (Lib.itoa (Cal.month (t / 86400)))).toArray⟩ : ByteArray) ++ (⟨(zp 2 (Lib.itoa (Cal.date (t / 86400)))).toArray⟩ : ByteArray) ++ ⟨#[84]⟩ ++ (⟨(zp 2 (Lib.itoa (t % 86400 / 3600))).toArray⟩ : ByteArray) ++ (⟨(zp 2 (Lib.itoa (t % 86400 / 60 % 60))).toArray⟩ : ByteArray) ++ (⟨(zp 2 (Lib.itoa (t % 86400 % 60))).toArray⟩ : ByteArray) ++ ⟨#[90]⟩) := by
    rw [z1, z2, z3, z4, z5, z6]
    rfl
  have s1 : (⟨(zp 4 (Lib.itoa (Cal.year (t / 86400)))).toArray⟩ : ByteArray).size = 4 := by rw [z1]; rfl
  have s2 : (⟨(zp 2 (Lib.itoa (Cal.month (t / 86400)))).toArray⟩ : ByteArray).size = 2 := by rw [z2]; rfl
  have s3 : (⟨(zp 2 (Lib.itoa (Cal.date (t / 86400)))).toArray⟩ : ByteArray).size = 2 := by rw [z3]; rfl
  have s4 : (⟨(zp 2 (Lib.itoa (t % 86400 / 3600))).toArray⟩ : ByteArray).size = 2 := by rw [z4]; rfl
  have s5 : (⟨(zp 2 (Lib.itoa (t % 86400 / 60 % 60))).toArray⟩ : ByteArray).size = 2 := by rw [z5]; rfl
  have s6 : (⟨(zp 2 (Lib.itoa (t % 86400 % 60))).toArray⟩ : ByteArray).size = 2 := by rw [z6]; rfl
  clear z1 z2 z3 z4 z5 z6
  have P1 := Lib.hid fun W (hG : Glob W) => padded4 (Cal.year (t / 86400)) (by omega) (by omega) W hG
  have P2 := Lib.hid fun W (hG : Glob W) => padded2 (Cal.month (t / 86400)) (by omega) (by omega) W hG
  have P3 := Lib.hid fun W (hG : Glob W) => padded2 (Cal.date (t / 86400)) (by omega) (by omega) W hG
  have P4 := Lib.hid fun W (hG : Glob W) => padded2 (t % 86400 / 3600) (by omega) (by omega) W hG
  have P5 := Lib.hid fun W (hG : Glob W) => padded2 (t % 86400 / 60 % 60) (by omega) (by omega) W hG
  have P6 := Lib.hid fun W (hG : Glob W) => padded2 (t % 86400 % 60) (by omega) (by omega) W hG
  generalize (⟨(zp 4 (Lib.itoa (Cal.year (t / 86400)))).toArray⟩ : ByteArray) = b1 at *
  generalize (⟨(zp 2 (Lib.itoa (Cal.month (t / 86400)))).toArray⟩ : ByteArray) = b2 at *
  generalize (⟨(zp 2 (Lib.itoa (Cal.date (t / 86400)))).toArray⟩ : ByteArray) = b3 at *
  generalize (⟨(zp 2 (Lib.itoa (t % 86400 / 3600))).toArray⟩ : ByteArray) = b4 at *
  generalize (⟨(zp 2 (Lib.itoa (t % 86400 / 60 % 60))).toArray⟩ : ByteArray) = b5 at *
  generalize (⟨(zp 2 (Lib.itoa (t % 86400 % 60))).toArray⟩ : ByteArray) = b6 at *
  unfold momV at HM
  unfold dayV at HD
  generalize t / 86400 = dn at *
  generalize t % 86400 / 3600 = hh at *
  generalize t % 86400 / 60 % 60 = mm at *
  generalize t % 86400 % 60 = ss at *
  generalize Cal.year dn = yy at *
  generalize Cal.month dn = mo at *
  generalize Cal.date dn = dd at *
  generalize (⟨(dateL t).toArray⟩ : ByteArray) = dl at *
  have HGl := Lib.hid hG
  clear d0 d1 y1 y2 m1 m2 e1 e2 e3 hG
  go_enter Tryz.func14, Tryz.ntmps14
  go_wp2_with fail
  refine HM.out.mono ?_; rintro e w1 ⟨rfl, hb1⟩
  go_wp2_with fail
  refine (HD.out _).mono ?_; rintro e w2 ⟨rfl, hb2⟩
  have hb3 : Below w.heap.size w w2 := (hb1.alloc hb1.size _).trans (hb2.mono (by simp; exact Nat.le_trans hb1.size (Nat.le_succ _)))
  have a1 := (hb2.cell (p := ⟨w1.heap.size, 1, none⟩) (by simp)).trans (cell_new rfl)
  have a2 := (hb2.cell (p := ⟨w1.heap.size, 2, none⟩) (by simp)).trans (cell_new rfl)
  have a3 := (hb2.cell (p := ⟨w1.heap.size, 3, none⟩) (by simp)).trans (cell_new rfl)
  have hz := hb2.size
  rw [World.size_alloc] at hz
  have HB3 := Lib.hid hb3
  clear hb1 hb2 hb3
  go_wp2_with fail
  have k1 := cell_regrown ((cell_old (o := .cells #[.int .i64 yy, .int .i64 mo, .int .i64 dd] 81) (by omega)).trans a1)
  have k2 := cell_regrown ((cell_old (o := .cells #[.int .i64 yy, .int .i64 mo, .int .i64 dd] 81) (by omega)).trans a2)
  have k3 := cell_regrown ((cell_old (o := .cells #[.int .i64 yy, .int .i64 mo, .int .i64 dd] 81) (by omega)).trans a3)
  have k4 := cell_regrown (cell_new (W := w2) (c := #[.int .i64 yy, .int .i64 mo, .int .i64 dd]) (t := 81) (i := 0) rfl)
  have k5 := cell_regrown (cell_new (W := w2) (c := #[.int .i64 yy, .int .i64 mo, .int .i64 dd]) (t := 81) (i := 1) rfl)
  have k6 := cell_regrown (cell_new (W := w2) (c := #[.int .i64 yy, .int .i64 mo, .int .i64 dd]) (t := 81) (i := 2) rfl)
  have HB4 := Lib.hid (HB3.out.alloc HB3.out.size (.cells #[.int .i64 yy, .int .i64 mo, .int .i64 dd] 81))
  clear a1 a2 a3
  generalize w2.alloc (.cells #[.int .i64 yy, .int .i64 mo, .int .i64 dd] 81) = w3 at *
  have HG3 := Lib.hid (HGl.out.on HB4.out)
  have C1 := Lib.hid fun (d : Nat) (os : Array Obj) => Calls.regrown_of (P1.out _ (HG3.out.on (below_regrown w3 d os)))
  have C2 := Lib.hid fun (d : Nat) (os : Array Obj) => Calls.regrown_of (P2.out _ (HG3.out.on (below_regrown w3 d os)))
  have C3 := Lib.hid fun (d : Nat) (os : Array Obj) => Calls.regrown_of (P3.out _ (HG3.out.on (below_regrown w3 d os)))
  have C4 := Lib.hid fun (d : Nat) (os : Array Obj) => Calls.regrown_of (P4.out _ (HG3.out.on (below_regrown w3 d os)))
  have C5 := Lib.hid fun (d : Nat) (os : Array Obj) => Calls.regrown_of (P5.out _ (HG3.out.on (below_regrown w3 d os)))
  have C6 := Lib.hid fun (d : Nat) (os : Array Obj) => Calls.regrown_of (P6.out _ (HG3.out.on (below_regrown w3 d os)))
  clear P1 P2 P3 P4 P5 P6 HM HD
  refine wp_region_quiet_below (by kernel_rfl) (by kernel_rfl) ?_
  iterate 3 (quiet_step (exact C1.out _ _))
  iterate 3 (quiet_step (exact C2.out _ _))
  iterate 4 (quiet_step (exact C3.out _ _))
  iterate 5 (quiet_step (exact C4.out _ _))
  iterate 4 (quiet_step (exact C5.out _ _))
  iterate 4 (quiet_step (exact C6.out _ _))
  iterate 3 (quiet_step (exact C6.out _ _))
  refine wpQuiet_nil ?_
  intro _ hw'
  obtain ⟨⟨dq, osq⟩, hw''⟩ := hw'
  subst hw''
  go_wp2
  go_ret
  exact ⟨by rw [HL.out]; rfl, HB4.out.trans ((below_regrown w3 dq osq).mono HB4.out.size)⟩
end Go.Proofs.YtnlpjncljbaapaaGreatDoor

/- The specification's lists, written. -/
namespace Go.Proofs.YtnlpjncljbaapaaGreatDoor
open Go.RowKit

/-- Pieces with a sign between them. -/
def joinC (c : UInt8) : List (List UInt8) → List UInt8
  | [] => []
  | [a] => a
  | a :: b :: r => a ++ c :: joinC c (b :: r)
theorem joinC_snoc (c : UInt8) (xs : List (List UInt8)) (a : List UInt8) : joinC c (xs ++ [a]) = if xs = [] then a else joinC c xs ++ c :: a := by
  induction xs with
  | nil => rfl
  | cons x r ih =>
    cases r with
    | nil => rfl
    | cons y r => simp [joinC] at ih ⊢; rw [ih]
theorem bs_app (A B : List UInt8) : ((⟨A.toArray⟩ : ByteArray) ++ ⟨#[44]⟩ ++ ⟨B.toArray⟩) = ⟨(A ++ 44 :: B).toArray⟩ := by
  apply ByteArray.ext
  simp
theorem map_take {α β : Type} {l : List α} {k : Nat} {x : α} (f : α → β) (h : l[k]? = some x) : (l.take (k + 1)).map f = (l.take k).map f ++ [f x] := by
  rw [List.take_add_one, h, List.map_append]
  rfl
theorem take_ne {α β : Type} {l : List α} {k : Nat} {x : α} (f : α → β) (h : l[k]? = some x) (hk : 0 < k) : (l.take k).map f ≠ [] := by
  intro e
  have h2 : k < l.length := (List.getElem?_eq_some_iff.1 h).1
  have := congrArg List.length e
  rw [List.length_map, List.length_take, List.length_nil] at this
  omega
/-- Numbers, days in a row that came in. -/
def RowO (w : World) (p : Option Addr) (n : Nat) (l : List Int) : Prop := n = l.length ∧ ∀ (i : Nat) x, l[i]? = some x → ∃ g o, p = some ⟨g, o, none⟩ ∧ g < w.heap.size ∧ w.cell? ⟨g, o + i, none⟩ = some (.int .i64 x)
def RowDO (w : World) (p : Option Addr) (n : Nat) (l : List (Int × Int)) : Prop := n = l.length ∧ ∀ (i : Nat) k m, l[i]? = some (k, m) → ∃ g o, p = some ⟨g, o, none⟩ ∧ g < w.heap.size ∧ w.cell? ⟨g, o + i * 2, none⟩ = some (.int .i64 k) ∧ w.cell? ⟨g, o + i * 2 + 1, none⟩ = some (.int .i64 m)
theorem RowO.below {w w' : World} {p : Option Addr} {n : Nat} {l : List Int} (h : RowO w p n l) (hb : Below w.heap.size w w') : RowO w' p n l :=
  ⟨h.1, fun i x hx => by obtain ⟨g, o, e, hg, hc⟩ := h.2 i x hx; exact ⟨g, o, e, Nat.lt_of_lt_of_le hg hb.size, (hb.cell hg).trans hc⟩⟩
theorem RowDO.below {w w' : World} {p : Option Addr} {n : Nat} {l : List (Int × Int)} (h : RowDO w p n l) (hb : Below w.heap.size w w') : RowDO w' p n l :=
  ⟨h.1, fun i k m hx => by obtain ⟨g, o, e, hg, hc, hc2⟩ := h.2 i k m hx; exact ⟨g, o, e, Nat.lt_of_lt_of_le hg hb.size, (hb.cell hg).trans hc, (hb.cell hg).trans hc2⟩⟩
def int64 (x : Int) : Prop := -9223372036854775808 ≤ x ∧ x ≤ 9223372036854775807
set_option maxRecDepth 100000 in
set_option maxHeartbeats 1000000 in
theorem joined_any (p : Option Addr) (n c : Nat) (l : List Int) (w : World) (hG : Glob w) (hr : RowO w p n l) (hl : l.length ≤ 100000) (hb : ∀ x ∈ l, int64 x) :
    Calls Tryz.prog 103 #[.slice p n c] w fun e w' => e = .returned (.string ⟨(joinC 44 (l.map Lib.itoa)).toArray⟩) ∧ Below w.heap.size w w' := by
  obtain ⟨hn, hcells⟩ := hr
  have HN := Lib.hid hn
  have HC := Lib.hid hcells
  have HG := Lib.hid hG
  have HX := Lib.hid hb
  have hn2 : n ≤ 100000 := by omega
  clear hn hcells hG hb hl
  go_enter Tryz.func103, Tryz.ntmps103
  go_wp2_with fail
  go_loopw [3, 8] (fun u v wr => ∃ (k : Nat) (s : ByteArray), k ≤ n ∧ v = .int .i64 k ∧ u = .string s ∧ s.size ≤ 22 * k ∧ Hid (s = ⟨(joinC 44 ((l.take k).map Lib.itoa)).toArray⟩) ∧ Below w.heap.size w wr) (fun _ v _ => n - (intOf v).toNat)
  case atStart => exact ⟨0, ⟨#[]⟩, Nat.zero_le _, rfl, rfl, by decide, rfl, Below.refl _ _⟩
  case round =>
    obtain ⟨k, s, hk, rfl, rfl, hs, HS, hb⟩ := hrel
    have HB := Lib.hid hb
    have hbs := hb.size
    by_cases hkn : k < n
    · have hkl : k < l.length := by have := HN.out; omega
      obtain ⟨g, o, rfl, hg, hc⟩ := HC.out k _ (List.getElem?_eq_getElem hkl)
      have hc := (hb.cell (p := ⟨g, o + k, none⟩) hg).trans hc
      have HK := Lib.hid (List.getElem?_eq_getElem hkl)
      have HXk := Lib.hid (HX.out _ (List.getElem_mem hkl))
      have HL := Lib.hid (Lib.itoa_length_le l[k] HXk.out.1 HXk.out.2)
      have HI := Lib.hid (itoa_any l[k] HXk.out.1 HXk.out.2 wr (HG.out.on hb))
      have hzs : (⟨(Lib.itoa l[k]).toArray⟩ : ByteArray).size ≤ 21 := by rw [Lib.size_eq]; exact HL.out
      obtain ⟨z, hz⟩ : ∃ z : ByteArray, z = ⟨(Lib.itoa l[k]).toArray⟩ := ⟨_, rfl⟩
      rw [← hz] at HI hzs
      have HZ := Lib.hid hz
      generalize l[k] = x at *
      clear hb hz HXk HL
      by_cases hk0 : 0 < k
      · have hk0i : (0 : Int) < (k : Int) := by omega
        go_wp2_with fail
        refine HI.out.mono ?_; rintro e w2 ⟨rfl, hb2⟩
        have HB2 := Lib.hid (HB.out.trans (hb2.mono hbs))
        clear hb2
        go_wp2_with fail
        go_roundw
        case rel =>
          refine ⟨k + 1, _, by omega, by go_num, rfl, ?_, ?_, HB2.out⟩
          · simp only [ByteArray.size_append]
            have : (⟨#[44]⟩ : ByteArray).size = 1 := rfl
            omega
          · show _ = _
            rw [HS.out, HZ.out, bs_app, map_take _ HK.out, joinC_snoc, if_neg (take_ne _ HK.out hk0)]
        case measure => simp [intOf]; omega
      · have hk0' : k = 0 := by omega
        subst hk0'
        rw [Nat.add_zero] at hc
        go_wp2_with fail
        refine HI.out.mono ?_; rintro e w2 ⟨rfl, hb2⟩
        have HB2 := Lib.hid (HB.out.trans (hb2.mono hbs))
        have hs0 : s = ⟨#[]⟩ := by rw [HS.out]; rfl
        subst hs0
        clear hb2
        go_wp2_with fail
        go_roundw
        case rel =>
          refine ⟨1, _, by omega, by go_num, rfl, ?_, ?_, HB2.out⟩
          · simp only [ByteArray.size_append]
            have : (⟨#[]⟩ : ByteArray).size = 0 := rfl
            omega
          · show _ = _
            rw [HZ.out, map_take _ HK.out]
            apply ByteArray.ext
            simp [joinC]
        case measure => simp [intOf]; omega
    · have hkn' : k = n := by omega
      subst hkn'
      go_wp2_with fail
      go_ret
      have hN := HN.out
      refine ⟨?_, HB.out⟩
      rw [HS.out, hN, List.take_length]
      rfl
theorem below_alloc1 {w : World} {o : Obj} : Below w.heap.size w (w.alloc o) := below_a1
def wdNames : List (List UInt8) := [[77, 79], [84, 85], [87, 69], [84, 72], [70, 82], [83, 65], [83, 85]]
def frNames : List (List UInt8) := [[89, 69, 65, 82, 76, 89], [77, 79, 78, 84, 72, 76, 89], [87, 69, 69, 75, 76, 89], [68, 65, 73, 76, 89], [72, 79, 85, 82, 76, 89], [77, 73, 78, 85, 84, 69, 76, 89], [83, 69, 67, 79, 78, 68, 76, 89]]
/-- Seven names in a new row. -/
def GivesNames (xs : List (List UInt8)) (w : World) (e : Ending) (w' : World) : Prop :=
  e = .returned (.slice (some ⟨w.heap.size, 0, none⟩) 7 7) ∧ w' = w.alloc (.cells (strVs xs).toArray 9)
theorem weekdays_any (w : World) : Calls Tryz.prog 105 #[] w fun e w' => GivesNames wdNames w e w' := by
  go_enter Tryz.func105, Tryz.ntmps105
  go_wp2
  go_ret
  exact ⟨rfl, rfl⟩
theorem frequencies_any (w : World) : Calls Tryz.prog 102 #[] w fun e w' => GivesNames frNames w e w' := by
  go_enter Tryz.func102, Tryz.ntmps102
  go_wp2
  go_ret
  exact ⟨rfl, rfl⟩
end Go.Proofs.YtnlpjncljbaapaaGreatDoor
