/- The calendar functions of the package's own time, walked: each comes to the plain calendar's numbers. -/
import Derived.Test.YtnlpjncljbaapaaGreatDoorProg
import Derived.Test.YtnlpjncljbaapaaGreatDoorCal
import Derived.WalkKit
import Derived.WalkSpells
import Derived.WalkLawsBesides
import Derived.Lib.Hide
import Derived.Deep.RegionWith
import Derived.Deep.QuietTactic
import Derived.BigQuiet
import Derived.Deep.LoopGhost
import Derived.Deep.RegionHeld3
import Derived.Deep.DeepCutAuto
import Derived.Deep.CutBlock
import Derived.Deep.DeepFit
import Derived.Deep.DeepMust
namespace Go.Proofs.YtnlpjncljbaapaaGreatDoor
open Go.RowKit

theorem bcell {W w1 : World} (hb : Below W.heap.size W w1) : (∀ b o, b < W.heap.size → w1.cell? ⟨b, o, none⟩ = W.cell? ⟨b, o, none⟩) ∧ (∀ b o, b < W.heap.size → w1.frozen? ⟨b, o, none⟩ = W.frozen? ⟨b, o, none⟩) :=
  ⟨fun b o h => hb.cell (p := ⟨b, o, none⟩) h, fun b o h => hb.frozen (p := ⟨b, o, none⟩) h⟩

set_option maxHeartbeats 400000 in
theorem floor_any (a b : Int) (w : World) (hb : 0 < b) (h1 : 0 ≤ a) (h2 : a ≤ 4611686018427387904) :
    Calls Tryz.prog 202 #[.int .i64 a, .int .i64 b] w fun e w' => e = .returned (.int .i64 (a / b)) ∧ w = w' := by
  have h3 : 0 ≤ a % b := Int.emod_nonneg _ (by omega)
  have h4 : ¬ a % b < 0 := by omega
  have h5 : decide (a % b < 0) = false := decide_eq_false h4
  have h6 : ¬ b = 0 := by omega
  have h7 : 0 ≤ a / b := Int.ediv_nonneg h1 (by omega)
  have h8 : a / b ≤ a := Int.ediv_le_self _ h1
  go_enter Tryz.func202, Tryz.ntmps202
  go_wp2
  go_ret
  exact ⟨rfl, rfl⟩

set_option maxHeartbeats 400000 in
theorem daysTo_any (y : Int) (w : World) (h1 : 1 ≤ y) (h2 : y ≤ 1000000) :
    Calls Tryz.prog 203 #[.int .i64 y] w fun e w' => e = .returned (.int .i64 (Cal.dby y)) ∧ w = w' := by
  have h3 : 0 ≤ y - 1 := by omega
  have h4 : y - 1 ≤ 4611686018427387904 := by omega
  go_enter Tryz.func203, Tryz.ntmps203
  go_wp2_with (go_at_call 202; refine (floor_any _ _ _ (by omega) h3 h4).mono ?_; rintro e w' ⟨rfl, rfl⟩)
  go_ret
  exact ⟨rfl, rfl⟩

theorem lt_true {a b : Int} (h : a < b) : decide (a < b) = true := decide_eq_true h

set_option maxHeartbeats 400000 in
theorem leap_any (y : Int) (w : World) (h1 : 1 ≤ y) (h2 : y ≤ 1000000) :
    Calls Tryz.prog 225 #[.int .i64 y] w fun e w' => e = .returned (.bool (Cal.leap y)) ∧ w = w' := by
  go_enter Tryz.func225, Tryz.ntmps225
  go_wp2
  all_goals
    go_ret
    exact ⟨by simp [Cal.leap, *] <;> (rw [Bool.eq_iff_iff]; simp), rfl⟩

set_option maxHeartbeats 400000 in
theorem monthDays_any (m y : Int) (w : World) (h1 : 1 ≤ y) (h2 : y ≤ 1000000) :
    Calls Tryz.prog 204 #[.int .i64 m, .int .i64 y] w fun e w' => e = .returned (.int .i64 (Cal.mdays y m)) ∧ w = w' := by
  by_cases h : Cal.leap y = true
  · have h3 := (Cal.leap_lp y).1 h
    go_enter Tryz.func204, Tryz.ntmps204
    go_wp2_with (go_at_call 225; refine (leap_any _ _ h1 h2).mono ?_; rintro e w' ⟨rfl, rfl⟩)
    all_goals
      go_ret
      refine ⟨?_, rfl⟩
      simp only [beq_iff_eq, beq_eq_false_iff_ne, ne_eq] at *
      simp [Cal.mdays, *]
  · have h' : Cal.leap y = false := by simpa using h
    have h3 := (Cal.leap_lp0 y).1 h'
    clear h
    go_enter Tryz.func204, Tryz.ntmps204
    go_wp2_with (go_at_call 225; refine (leap_any _ _ h1 h2).mono ?_; rintro e w' ⟨rfl, rfl⟩)
    all_goals
      go_ret
      refine ⟨?_, rfl⟩
      simp only [beq_iff_eq, beq_eq_false_iff_ne, ne_eq] at *
      simp [Cal.mdays, *]

theorem ret_int {k : IntKind} {a b : Int} (h : a = b) : Ending.returned (.int k a) = .returned (.int k b) := by rw [h]
theorem ret_t3 {k1 k2 k3 : IntKind} {a b c a' b' c' : Int} (h1 : a = a') (h2 : b = b') (h3 : c = c') : Ending.returned (.tuple #[.int k1 a, .int k2 b, .int k3 c]) = .returned (.tuple #[.int k1 a', .int k2 b', .int k3 c']) := by rw [h1, h2, h3]

/-- A moment in seconds, no part of a second. -/
abbrev tm (s : Int) : Value := .agg #[.int .i64 s, .int .i64 0]

set_option maxHeartbeats 1000000 in
theorem split_any (s n : Int) (w : World) (h1 : 0 ≤ s) (h2 : s < 315537897600) :
    Calls Tryz.prog 206 #[.agg #[.int .i64 s, .int .i64 n]] w fun e w' => e = .returned (.tuple #[.int .i64 (Cal.year (s / 86400)), .int .i64 (Cal.yday (s / 86400)), .int .i64 (s % 86400)]) ∧ Below w.heap.size w w' := by
  have f1 := fun w : World => floor_any s 86400 w (by omega) h1 (by omega)
  have hd0 : 0 ≤ s / 86400 := by omega
  have hd1 : s / 86400 < 3652059 := by omega
  obtain ⟨d, hd⟩ : ∃ d, d = s / 86400 := ⟨_, rfl⟩
  rw [← hd] at hd0 hd1 ⊢
  have HS : Hid (s % 86400 = s - d * 86400) := by show s % 86400 = _; omega
  have e0 : 0 ≤ s - d * 86400 := by omega
  have e1 : s - d * 86400 < 86400 := by omega
  rw [HS.out]
  rw [← hd] at f1
  clear hd
  have f2 := fun w : World => floor_any d 146097 w (by omega) (by omega) (by omega)
  obtain ⟨q, hq⟩ : ∃ q, q = d / 146097 := ⟨_, rfl⟩
  rw [← hq] at f2
  obtain ⟨r, hr⟩ : ∃ r, r = d - q * 146097 := ⟨_, rfl⟩
  have a0 : 0 ≤ r := by omega
  have a1 : r < 146097 := by omega
  have a2 : 0 ≤ q := by omega
  have a3 : q ≤ 24 := by omega
  have F1 := Lib.hid f1
  have F2 := Lib.hid f2
  have hr' : d - q * 146097 = r := hr.symm
  have HY : Hid (∀ c f o : Int, (c = if r / 36524 = 4 then 3 else r / 36524) → (f = (r - c * 36524) / 1461) → (o = if (r - c * 36524 - f * 1461) / 365 = 4 then 3 else (r - c * 36524 - f * 1461) / 365) → 400 * q + 100 * c + 4 * f + o + 1 = Cal.year d ∧ r - c * 36524 - f * 1461 - o * 365 = Cal.yday d) := by
    intro c f o h3 h4 h5
    have g1 : q = Cal.yq d := hq
    have g2 : r = Cal.yr1 d := by unfold Cal.yr1; omega
    have g3 : c = Cal.yc d := by rw [h3, g2]; rfl
    have g4 : r - c * 36524 = Cal.yr2 d := by rw [g2, g3]; rfl
    have g5 : f = Cal.yf d := by rw [h4, g4]; rfl
    have g6 : r - c * 36524 - f * 1461 = Cal.yr3 d := by rw [g4, g5]; unfold Cal.yr3 Cal.yf; omega
    have g7 : o = Cal.yo d := by rw [h5, g6]; rfl
    refine ⟨?_, ?_⟩
    · rw [g1, g3, g5, g7]; rfl
    · rw [g6, g7]; rfl
  clear f1 f2 hr hq
  by_cases hc : r / 36524 = 4
  · obtain rfl : r = 146096 := by omega
    have HY' := Lib.hid (HY.out _ _ _ rfl rfl rfl)
    clear HY
    go_enter Tryz.func206, Tryz.ntmps206
    go_wp2_with fail
    refine (F1.out _).mono ?_; rintro e w' ⟨rfl, rfl⟩
    go_wp2_with fail
    refine (F2.out _).mono ?_; rintro e w' ⟨rfl, rfl⟩
    go_wp2_with fail
    go_ret3
    exact ⟨ret_t3 (by have := HY'.out.1; omega) (by have := HY'.out.2; omega) rfl, (Below.refl _ _).alloc (Nat.le_refl _) _⟩
  · have hcb : (r / 36524 == 4) = false := by simpa using hc
    by_cases ho : (r - r / 36524 * 36524 - (r - r / 36524 * 36524) / 1461 * 1461) / 365 = 4
    · have hob : ((r - r / 36524 * 36524 - (r - r / 36524 * 36524) / 1461 * 1461) / 365 == 4) = true := by simpa using ho
      have HY' := HY.out _ _ _ rfl rfl rfl
      rw [if_neg hc, if_pos ho] at HY'
      have HY' := Lib.hid HY'
      clear HY
      go_enter Tryz.func206, Tryz.ntmps206
      go_wp2_with fail
      refine (F1.out _).mono ?_; rintro e w' ⟨rfl, rfl⟩
      go_wp2_with fail
      refine (F2.out _).mono ?_; rintro e w' ⟨rfl, rfl⟩
      go_wp2_with fail
      go_ret3
      exact ⟨ret_t3 (by have := HY'.out.1; omega) (by have := HY'.out.2; omega) rfl, (Below.refl _ _).alloc (Nat.le_refl _) _⟩
    · have hob : ((r - r / 36524 * 36524 - (r - r / 36524 * 36524) / 1461 * 1461) / 365 == 4) = false := by simpa using ho
      have HY' := HY.out _ _ _ rfl rfl rfl
      rw [if_neg hc, if_neg ho] at HY'
      have HY' := Lib.hid HY'
      clear HY
      go_enter Tryz.func206, Tryz.ntmps206
      go_wp2_with fail
      refine (F1.out _).mono ?_; rintro e w' ⟨rfl, rfl⟩
      go_wp2_with fail
      refine (F2.out _).mono ?_; rintro e w' ⟨rfl, rfl⟩
      go_wp2_with fail
      go_ret3
      exact ⟨ret_t3 (by have := HY'.out.1; omega) (by have := HY'.out.2; omega) rfl, (Below.refl _ _).alloc (Nat.le_refl _) _⟩
/- DATE -/
theorem below_box {B : Nat} {w w1 : World} {o : Obj} (hb : Below (w.alloc o).heap.size (w.alloc o) w1) (hB : B ≤ w.heap.size) : Below B w w1 :=
  ((Below.refl _ _).alloc hB o).trans (hb.mono (by simp; omega))

set_option maxHeartbeats 1000000 in
theorem date_any (s n : Int) (w : World) (h1 : 0 ≤ s) (h2 : s < 315537897600) :
    Calls Tryz.prog 170 #[.agg #[.int .i64 s, .int .i64 n]] w fun e w' => e = .returned (.tuple #[.int .i64 (Cal.year (s / 86400)), .int .i64 (Cal.month (s / 86400)), .int .i64 (Cal.date (s / 86400))]) ∧ Below w.heap.size w w' := by
  have f1 := fun w : World => split_any s n w h1 h2
  have hd0 : 0 ≤ s / 86400 := by omega
  have hd1 : s / 86400 < 3652059 := by omega
  obtain ⟨d, hd⟩ : ∃ d, d = s / 86400 := ⟨_, rfl⟩
  rw [← hd] at hd0 hd1 f1 ⊢
  have F1 := Lib.hid f1
  clear f1 hd
  obtain ⟨g1, g2, g3⟩ := Cal.year_ok d
  obtain ⟨y1, y2⟩ := Cal.year_bd hd0 hd1
  obtain ⟨m1, m2, m3, m4⟩ := Cal.mon_ok (Cal.year d) (Cal.yday d) g2 g3
  have ey : Cal.mon (Cal.year d) (Cal.yday d) = Cal.month d := rfl
  have ed : Cal.yday d - Cal.cum (Cal.year d) (Cal.month d) + 1 = Cal.date d := rfl
  rw [ey] at m1 m2 m3 m4
  have lp := Cal.lp_01 (Cal.year d)
  clear ey g1
  generalize Cal.year d = y at *
  generalize Cal.yday d = yd at *
  generalize Cal.month d = m at *
  have ED := Lib.hid ed
  clear ed
  generalize Cal.date d = dt at *
  go_enter Tryz.func170, Tryz.ntmps170
  go_wp2_with fail
  refine (F1.out _).mono ?_; rintro e w1 ⟨rfl, hb⟩
  have HB := below_box hb (Nat.le_refl _)
  clear hb
  go_wp2_with fail
  go_loop [6, 8] (fun u v => ∃ k : Int, 1 ≤ k ∧ k ≤ m ∧ v = .int .i64 k ∧ u = .int .i64 (yd - Cal.cum y k)) (fun _ v => (13 - intOf v).toNat)
  case atStart => exact ⟨1, by omega, by omega, rfl, by rw [Cal.cum_one]; simp⟩
  case round =>
    obtain ⟨k, k1, k2, rfl, rfl⟩ := hrel
    have cs := Cal.cum_succ y k k1 (by omega)
    have cb := Cal.cum_bd y k (by omega)
    have cm := Cal.cum_mono y (a := k) (b := m) k1 k2 (by omega)
    have db := Cal.mdays_bd y k
    by_cases hk : k = m
    · subst hk
      have hlt : ¬ Cal.mdays y k ≤ yd - Cal.cum y k := by omega
      clear cs
      go_wp2_with (go_at_call 204; refine (monthDays_any _ _ _ (by omega) (by omega)).mono ?_; rintro e w' ⟨rfl, rfl⟩)
      go_ret3
      exact ⟨ret_t3 rfl rfl ED.out, HB⟩
    · have cm2 := Cal.cum_mono y (a := k + 1) (b := m) (by omega) (by omega) (by omega)
      have hge : Cal.mdays y k ≤ yd - Cal.cum y k := by omega
      have CS := Lib.hid cs
      have hkm : k < m := by omega
      clear cs hk
      go_wp2_with (go_at_call 204; refine (monthDays_any _ _ _ (by omega) (by omega)).mono ?_; rintro e w' ⟨rfl, rfl⟩)
      go_round
      case rel => exact ⟨k + 1, by omega, by omega, rfl, by rw [CS.out]; go_num⟩
      case measure => simp [intOf]; omega
end Go.Proofs.YtnlpjncljbaapaaGreatDoor
