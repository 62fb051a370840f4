/- The plain calendar: days, months and years as whole numbers; no program in sight. -/
import Derived.Test.YtnlpjncljbaapaaGreatDoorProg
import Derived.WalkKit
import Derived.WalkSpells
import Derived.WalkLawsBesides
import Derived.Lib.Hide
import Derived.Deep.RegionWith
import Derived.Deep.QuietTactic
import Derived.BigQuiet
import Derived.Deep.LoopGhost
import Derived.Deep.RegionHeld3
import Derived.Deep.DeepCutAuto
import Derived.Deep.CutBlock
import Derived.Deep.DeepFit
import Derived.Deep.DeepMust
namespace Go.Proofs.YtnlpjncljbaapaaGreatDoor
namespace Cal

def leap (y : Int) : Bool := decide (y % 4 = 0) && (!decide (y % 100 = 0) || decide (y % 400 = 0))
def lp (y : Int) : Int := if leap y = true then 1 else 0
def mdays (y m : Int) : Int := if m = 2 then 28 + lp y else if m = 4 ∨ m = 6 ∨ m = 9 ∨ m = 11 then 30 else 31
def dby (y : Int) : Int := 365 * (y - 1) + (y - 1) / 4 - (y - 1) / 100 + (y - 1) / 400
def cum (y m : Int) : Int :=
  if m ≤ 1 then 0 else if m = 2 then 31 else lp y + (if m = 3 then 59 else if m = 4 then 90 else if m = 5 then 120 else if m = 6 then 151 else if m = 7 then 181 else if m = 8 then 212 else if m = 9 then 243 else if m = 10 then 273 else if m = 11 then 304 else if m = 12 then 334 else 365)
def num (y m d : Int) : Int := dby y + cum y m + d - 1

theorem lp_01 (y : Int) : 0 ≤ lp y ∧ lp y ≤ 1 := by unfold lp; split <;> omega
theorem lp_cases (y : Int) : lp y = if y % 4 = 0 ∧ (y % 100 ≠ 0 ∨ y % 400 = 0) then 1 else 0 := by
  unfold lp leap
  by_cases h1 : y % 4 = 0 <;> by_cases h2 : y % 100 = 0 <;> by_cases h3 : y % 400 = 0 <;> simp [h1, h2, h3]
theorem leap_lp (y : Int) : leap y = true ↔ lp y = 1 := by unfold lp; split <;> simp_all
theorem leap_lp0 (y : Int) : leap y = false ↔ lp y = 0 := by unfold lp; split <;> simp_all
theorem dby_succ (y : Int) : dby (y + 1) = dby y + 365 + lp y := by
  rw [lp_cases]; unfold dby
  split <;> omega
theorem m_cases {m : Int} (h1 : 1 ≤ m) (h2 : m ≤ 12) : m = 1 ∨ m = 2 ∨ m = 3 ∨ m = 4 ∨ m = 5 ∨ m = 6 ∨ m = 7 ∨ m = 8 ∨ m = 9 ∨ m = 10 ∨ m = 11 ∨ m = 12 := by omega
theorem cum_succ (y m : Int) (h1 : 1 ≤ m) (h2 : m ≤ 12) : cum y (m + 1) = cum y m + mdays y m := by
  rcases m_cases h1 h2 with rfl | rfl | rfl | rfl | rfl | rfl | rfl | rfl | rfl | rfl | rfl | rfl <;> simp [cum, mdays] <;> omega
theorem cum_one (y : Int) : cum y 1 = 0 := by simp [cum]
theorem cum_last (y : Int) : cum y 13 = 365 + lp y := by simp [cum]; omega
theorem mdays_bd (y m : Int) : 28 ≤ mdays y m ∧ mdays y m ≤ 31 := by
  have := lp_01 y
  unfold mdays; split
  · omega
  · split <;> omega
theorem cum_bd (y m : Int) (h2 : m ≤ 13) : 0 ≤ cum y m ∧ cum y m ≤ 366 := by
  have := lp_01 y
  by_cases h : m ≤ 1
  · simp [cum, h]
  · rcases m_cases (m := m - 1) (by omega) (by omega) with h | h | h | h | h | h | h | h | h | h | h | h <;> (obtain rfl : m = _ := by rw [← Int.sub_add_cancel m 1, h]) <;> simp [cum] <;> omega
theorem dby_mono (a b : Int) (h : a ≤ b) : dby a ≤ dby b := by unfold dby; omega
theorem dby_one : dby 1 = 0 := by decide
theorem dby_bd (y : Int) (h1 : 1 ≤ y) (h2 : y ≤ 10000) : 0 ≤ dby y ∧ dby y ≤ 3652059 := by unfold dby; omega

/-- The year of a day's number, as the program reckons it. -/
def yq (n : Int) : Int := n / 146097
def yr1 (n : Int) : Int := n % 146097
def yc (n : Int) : Int := if yr1 n / 36524 = 4 then 3 else yr1 n / 36524
def yr2 (n : Int) : Int := yr1 n - yc n * 36524
def yf (n : Int) : Int := yr2 n / 1461
def yr3 (n : Int) : Int := yr2 n % 1461
def yo (n : Int) : Int := if yr3 n / 365 = 4 then 3 else yr3 n / 365
def yday (n : Int) : Int := yr3 n - yo n * 365
def year (n : Int) : Int := 400 * yq n + 100 * yc n + 4 * yf n + yo n + 1

theorem yc_bd (n : Int) : 0 ≤ yc n ∧ yc n ≤ 3 ∧ 0 ≤ yr2 n ∧ yr2 n ≤ 36524 ∧ (yc n < 3 → yr2 n < 36524) ∧ n = 146097 * yq n + 36524 * yc n + yr2 n := by
  unfold yr2 yc yq yr1
  split <;> omega
theorem yf_bd (n : Int) : 0 ≤ yf n ∧ yf n ≤ 24 ∧ 0 ≤ yr3 n ∧ yr3 n ≤ 1460 ∧ (yf n = 24 → yc n < 3 → yr3 n < 1460) ∧ yr2 n = 1461 * yf n + yr3 n := by
  have := yc_bd n
  unfold yr3 yf
  omega
theorem yo_bd (n : Int) : 0 ≤ yo n ∧ yo n ≤ 3 ∧ 0 ≤ yday n ∧ yday n ≤ 365 ∧ (yo n < 3 → yday n < 365) ∧ yr3 n = 365 * yo n + yday n := by
  have := yf_bd n
  unfold yday yo
  split <;> omega
theorem year_ok (n : Int) : n = dby (year n) + yday n ∧ 0 ≤ yday n ∧ yday n < 365 + lp (year n) := by
  obtain ⟨c0, c3, _, _, c5, hc⟩ := yc_bd n
  obtain ⟨f0, f1, _, _, f5, hf⟩ := yf_bd n
  obtain ⟨o0, o3, d0, d1, o5, ho⟩ := yo_bd n
  rw [lp_cases]
  generalize yday n = d at *
  generalize hy : year n = y
  unfold year at hy
  generalize yo n = o at *
  generalize yf n = f at *
  generalize yc n = c at *
  generalize yq n = q at *
  generalize yr2 n = r2 at *
  generalize yr3 n = r3 at *
  subst hc hf ho
  have e1 : (y - 1) / 4 = 100 * q + 25 * c + f := by omega
  have e2 : (y - 1) / 100 = 4 * q + c := by omega
  have e3 : (y - 1) / 400 = q := by omega
  refine ⟨?_, d0, ?_⟩
  · unfold dby
    rw [e1, e2, e3]
    omega
  · split
    · omega
    · rename_i hn
      have : y % 4 ≠ 0 ∨ (y % 100 = 0 ∧ y % 400 ≠ 0) := by omega
      omega
theorem year_bd {n : Int} (h0 : 0 ≤ n) (h1 : n < 3652059) : 1 ≤ year n ∧ year n ≤ 9999 := by
  obtain ⟨e, h3, h4⟩ := year_ok n
  have h5 := dby_succ (year n)
  have h6 : dby 10000 = 3652059 := by decide
  refine ⟨?_, ?_⟩
  · rcases (by omega : year n < 1 ∨ 1 ≤ year n) with h | h
    · have := dby_mono (year n + 1) 1 (by omega); have := dby_one; omega
    · exact h
  · rcases (by omega : 9999 < year n ∨ year n ≤ 9999) with h | h
    · have := dby_mono 10000 (year n) (by omega); omega
    · exact h

/-- The month of a day of a year (counted from 0). -/
def mon (y d : Int) : Int :=
  if d < cum y 2 then 1 else if d < cum y 3 then 2 else if d < cum y 4 then 3 else if d < cum y 5 then 4 else if d < cum y 6 then 5 else if d < cum y 7 then 6 else if d < cum y 8 then 7 else if d < cum y 9 then 8 else if d < cum y 10 then 9 else if d < cum y 11 then 10 else if d < cum y 12 then 11 else 12
theorem cum_mono (y : Int) {a b : Int} (h1 : 1 ≤ a) (h : a ≤ b) (h2 : b ≤ 13) : cum y a ≤ cum y b := by
  obtain ⟨k, rfl⟩ : ∃ k : Nat, b = a + k := ⟨(b - a).toNat, by omega⟩
  clear h
  induction k with
  | zero => simp
  | succ k ih =>
    have h3 := ih (by omega)
    have h4 := cum_succ y (a + k) (by omega) (by omega)
    have h5 := mdays_bd y (a + k)
    have e : a + ((k + 1 : Nat) : Int) = a + k + 1 := by omega
    rw [e, h4]; omega
theorem mon_ok (y d : Int) (h0 : 0 ≤ d) (h1 : d < 365 + lp y) : 1 ≤ mon y d ∧ mon y d ≤ 12 ∧ cum y (mon y d) ≤ d ∧ d < cum y (mon y d + 1) := by
  have c1 := cum_one y
  have c13 := cum_last y
  unfold mon
  by_cases a2 : d < cum y 2
  · simp only [if_pos a2]; exact ⟨by omega, by omega, by omega, a2⟩
  simp only [if_neg a2]
  by_cases a3 : d < cum y 3
  · simp only [if_pos a3]; exact ⟨by omega, by omega, by omega, a3⟩
  simp only [if_neg a3]
  by_cases a4 : d < cum y 4
  · simp only [if_pos a4]; exact ⟨by omega, by omega, by omega, a4⟩
  simp only [if_neg a4]
  by_cases a5 : d < cum y 5
  · simp only [if_pos a5]; exact ⟨by omega, by omega, by omega, a5⟩
  simp only [if_neg a5]
  by_cases a6 : d < cum y 6
  · simp only [if_pos a6]; exact ⟨by omega, by omega, by omega, a6⟩
  simp only [if_neg a6]
  by_cases a7 : d < cum y 7
  · simp only [if_pos a7]; exact ⟨by omega, by omega, by omega, a7⟩
  simp only [if_neg a7]
  by_cases a8 : d < cum y 8
  · simp only [if_pos a8]; exact ⟨by omega, by omega, by omega, a8⟩
  simp only [if_neg a8]
  by_cases a9 : d < cum y 9
  · simp only [if_pos a9]; exact ⟨by omega, by omega, by omega, a9⟩
  simp only [if_neg a9]
  by_cases a10 : d < cum y 10
  · simp only [if_pos a10]; exact ⟨by omega, by omega, by omega, a10⟩
  simp only [if_neg a10]
  by_cases a11 : d < cum y 11
  · simp only [if_pos a11]; exact ⟨by omega, by omega, by omega, a11⟩
  simp only [if_neg a11]
  by_cases a12 : d < cum y 12
  · simp only [if_pos a12]; exact ⟨by omega, by omega, by omega, a12⟩
  simp only [if_neg a12]
  exact ⟨by omega, by omega, by omega, by show d < cum y 13; omega⟩
/-- The date of a day's number. -/
def month (n : Int) : Int := mon (year n) (yday n)
def date (n : Int) : Int := yday n - cum (year n) (month n) + 1
theorem date_ok (n : Int) : 1 ≤ month n ∧ month n ≤ 12 ∧ 1 ≤ date n ∧ date n ≤ mdays (year n) (month n) ∧ num (year n) (month n) (date n) = n := by
  obtain ⟨e, h3, h4⟩ := year_ok n
  obtain ⟨a, b, c, d⟩ := mon_ok (year n) (yday n) h3 h4
  have h6 := cum_succ (year n) (month n) a b
  refine ⟨a, b, ?_, ?_, ?_⟩
  · show 1 ≤ yday n - cum (year n) (mon (year n) (yday n)) + 1; omega
  · have d' : yday n < cum (year n) (month n + 1) := d
    show yday n - cum (year n) (month n) + 1 ≤ _; omega
  · unfold num date; omega
end Cal
end Go.Proofs.YtnlpjncljbaapaaGreatDoor

/- The calendar functions of the package's own time, walked: each comes to the plain calendar's numbers. -/
namespace Go.Proofs.YtnlpjncljbaapaaGreatDoor
open Go.RowKit

theorem bcell {W w1 : World} (hb : Below W.heap.size W w1) : (∀ b o, b < W.heap.size → w1.cell? ⟨b, o, none⟩ = W.cell? ⟨b, o, none⟩) ∧ (∀ b o, b < W.heap.size → w1.frozen? ⟨b, o, none⟩ = W.frozen? ⟨b, o, none⟩) :=
  ⟨fun b o h => hb.cell (p := ⟨b, o, none⟩) h, fun b o h => hb.frozen (p := ⟨b, o, none⟩) h⟩

set_option maxHeartbeats 400000 in
theorem floor_any (a b : Int) (w : World) (hb : 0 < b) (h1 : 0 ≤ a) (h2 : a ≤ 4611686018427387904) :
    Calls Tryz.prog 202 #[.int .i64 a, .int .i64 b] w fun e w' => e = .returned (.int .i64 (a / b)) ∧ w = w' := by
  have h3 : 0 ≤ a % b := Int.emod_nonneg _ (by omega)
  have h4 : ¬ a % b < 0 := by omega
  have h5 : decide (a % b < 0) = false := decide_eq_false h4
  have h6 : ¬ b = 0 := by omega
  have h7 : 0 ≤ a / b := Int.ediv_nonneg h1 (by omega)
  have h8 : a / b ≤ a := Int.ediv_le_self _ h1
  go_enter Tryz.func202, Tryz.ntmps202
  go_wp2
  go_ret
  exact ⟨rfl, rfl⟩

set_option maxHeartbeats 400000 in
theorem daysTo_any (y : Int) (w : World) (h1 : 1 ≤ y) (h2 : y ≤ 1000000) :
    Calls Tryz.prog 203 #[.int .i64 y] w fun e w' => e = .returned (.int .i64 (Cal.dby y)) ∧ w = w' := by
  have h3 : 0 ≤ y - 1 := by omega
  have h4 : y - 1 ≤ 4611686018427387904 := by omega
  go_enter Tryz.func203, Tryz.ntmps203
  go_wp2_with (go_at_call 202; refine (floor_any _ _ _ (by omega) h3 h4).mono ?_; rintro e w' ⟨rfl, rfl⟩)
  go_ret
  exact ⟨rfl, rfl⟩

set_option maxHeartbeats 400000 in
theorem leap_any (y : Int) (w : World) (h1 : 1 ≤ y) (h2 : y ≤ 1000000) :
    Calls Tryz.prog 225 #[.int .i64 y] w fun e w' => e = .returned (.bool (Cal.leap y)) ∧ w = w' := by
  go_enter Tryz.func225, Tryz.ntmps225
  go_wp2
  all_goals
    go_ret
    exact ⟨by simp [Cal.leap, *] <;> (rw [Bool.eq_iff_iff]; simp), rfl⟩

set_option maxHeartbeats 400000 in
theorem monthDays_any (m y : Int) (w : World) (h1 : 1 ≤ y) (h2 : y ≤ 1000000) :
    Calls Tryz.prog 204 #[.int .i64 m, .int .i64 y] w fun e w' => e = .returned (.int .i64 (Cal.mdays y m)) ∧ w = w' := by
  by_cases h : Cal.leap y = true
  · have h3 := (Cal.leap_lp y).1 h
    go_enter Tryz.func204, Tryz.ntmps204
    go_wp2_with (go_at_call 225; refine (leap_any _ _ h1 h2).mono ?_; rintro e w' ⟨rfl, rfl⟩)
    all_goals
      go_ret
      refine ⟨?_, rfl⟩
      simp only [beq_iff_eq, beq_eq_false_iff_ne, ne_eq] at *
      simp [Cal.mdays, *]
  · have h' : Cal.leap y = false := by simpa using h
    have h3 := (Cal.leap_lp0 y).1 h'
    clear h
    go_enter Tryz.func204, Tryz.ntmps204
    go_wp2_with (go_at_call 225; refine (leap_any _ _ h1 h2).mono ?_; rintro e w' ⟨rfl, rfl⟩)
    all_goals
      go_ret
      refine ⟨?_, rfl⟩
      simp only [beq_iff_eq, beq_eq_false_iff_ne, ne_eq] at *
      simp [Cal.mdays, *]

theorem ret_int {k : IntKind} {a b : Int} (h : a = b) : Ending.returned (.int k a) = .returned (.int k b) := by rw [h]
theorem ret_t3 {k1 k2 k3 : IntKind} {a b c a' b' c' : Int} (h1 : a = a') (h2 : b = b') (h3 : c = c') : Ending.returned (.tuple #[.int k1 a, .int k2 b, .int k3 c]) = .returned (.tuple #[.int k1 a', .int k2 b', .int k3 c']) := by rw [h1, h2, h3]

set_option maxHeartbeats 1000000 in
theorem split_any (s n : Int) (w : World) (h1 : 0 ≤ s) (h2 : s < 315537897600) :
    Calls Tryz.prog 206 #[.agg #[.int .i64 s, .int .i64 n]] w fun e w' => e = .returned (.tuple #[.int .i64 (Cal.year (s / 86400)), .int .i64 (Cal.yday (s / 86400)), .int .i64 (s % 86400)]) ∧ Below w.heap.size w w' := by
  have f1 := fun w : World => floor_any s 86400 w (by omega) h1 (by omega)
  have hd0 : 0 ≤ s / 86400 := by omega
  have hd1 : s / 86400 < 3652059 := by omega
  obtain ⟨d, hd⟩ : ∃ d, d = s / 86400 := ⟨_, rfl⟩
  rw [← hd] at hd0 hd1 ⊢
  have HS : Hid (s % 86400 = s - d * 86400) := by show s % 86400 = _; omega
  have e0 : 0 ≤ s - d * 86400 := by omega
  have e1 : s - d * 86400 < 86400 := by omega
  rw [HS.out]
  rw [← hd] at f1
  clear hd
  have f2 := fun w : World => floor_any d 146097 w (by omega) (by omega) (by omega)
  obtain ⟨q, hq⟩ : ∃ q, q = d / 146097 := ⟨_, rfl⟩
  rw [← hq] at f2
  obtain ⟨r, hr⟩ : ∃ r, r = d - q * 146097 := ⟨_, rfl⟩
  have a0 : 0 ≤ r := by omega
  have a1 : r < 146097 := by omega
  have a2 : 0 ≤ q := by omega
  have a3 : q ≤ 24 := by omega
  have F1 := Lib.hid f1
  have F2 := Lib.hid f2
  have hr' : d - q * 146097 = r := hr.symm
  have HY : Hid (∀ c f o : Int, (c = if r / 36524 = 4 then 3 else r / 36524) → (f = (r - c * 36524) / 1461) → (o = if (r - c * 36524 - f * 1461) / 365 = 4 then 3 else (r - c * 36524 - f * 1461) / 365) → 400 * q + 100 * c + 4 * f + o + 1 = Cal.year d ∧ r - c * 36524 - f * 1461 - o * 365 = Cal.yday d) := by
    intro c f o h3 h4 h5
    have g1 : q = Cal.yq d := hq
    have g2 : r = Cal.yr1 d := by unfold Cal.yr1; omega
    have g3 : c = Cal.yc d := by rw [h3, g2]; rfl
    have g4 : r - c * 36524 = Cal.yr2 d := by rw [g2, g3]; rfl
    have g5 : f = Cal.yf d := by rw [h4, g4]; rfl
    have g6 : r - c * 36524 - f * 1461 = Cal.yr3 d := by rw [g4, g5]; unfold Cal.yr3 Cal.yf; omega
    have g7 : o = Cal.yo d := by rw [h5, g6]; rfl
    refine ⟨?_, ?_⟩
    · rw [g1, g3, g5, g7]; rfl
    · rw [g6, g7]; rfl
  clear f1 f2 hr hq
  by_cases hc : r / 36524 = 4
  · obtain rfl : r = 146096 := by omega
    have HY' := Lib.hid (HY.out _ _ _ rfl rfl rfl)
    clear HY
    go_enter Tryz.func206, Tryz.ntmps206
    go_wp2_with fail
    refine (F1.out _).mono ?_; rintro e w' ⟨rfl, rfl⟩
    go_wp2_with fail
    refine (F2.out _).mono ?_; rintro e w' ⟨rfl, rfl⟩
    go_wp2_with fail
    go_ret3
    exact ⟨ret_t3 (by have := HY'.out.1; omega) (by have := HY'.out.2; omega) rfl, (Below.refl _ _).alloc (Nat.le_refl _) _⟩
  · have hcb : (r / 36524 == 4) = false := by simpa using hc
    by_cases ho : (r - r / 36524 * 36524 - (r - r / 36524 * 36524) / 1461 * 1461) / 365 = 4
    · have hob : ((r - r / 36524 * 36524 - (r - r / 36524 * 36524) / 1461 * 1461) / 365 == 4) = true := by simpa using ho
      have HY' := HY.out _ _ _ rfl rfl rfl
      rw [if_neg hc, if_pos ho] at HY'
      have HY' := Lib.hid HY'
      clear HY
      go_enter Tryz.func206, Tryz.ntmps206
      go_wp2_with fail
      refine (F1.out _).mono ?_; rintro e w' ⟨rfl, rfl⟩
      go_wp2_with fail
      refine (F2.out _).mono ?_; rintro e w' ⟨rfl, rfl⟩
      go_wp2_with fail
      go_ret3
      exact ⟨ret_t3 (by have := HY'.out.1; omega) (by have := HY'.out.2; omega) rfl, (Below.refl _ _).alloc (Nat.le_refl _) _⟩
    · have hob : ((r - r / 36524 * 36524 - (r - r / 36524 * 36524) / 1461 * 1461) / 365 == 4) = false := by simpa using ho
      have HY' := HY.out _ _ _ rfl rfl rfl
      rw [if_neg hc, if_neg ho] at HY'
      have HY' := Lib.hid HY'
      clear HY
      go_enter Tryz.func206, Tryz.ntmps206
      go_wp2_with fail
      refine (F1.out _).mono ?_; rintro e w' ⟨rfl, rfl⟩
      go_wp2_with fail
      refine (F2.out _).mono ?_; rintro e w' ⟨rfl, rfl⟩
      go_wp2_with fail
      go_ret3
      exact ⟨ret_t3 (by have := HY'.out.1; omega) (by have := HY'.out.2; omega) rfl, (Below.refl _ _).alloc (Nat.le_refl _) _⟩
/- DATE -/
theorem below_box {B : Nat} {w w1 : World} {o : Obj} (hb : Below (w.alloc o).heap.size (w.alloc o) w1) (hB : B ≤ w.heap.size) : Below B w w1 :=
  ((Below.refl _ _).alloc hB o).trans (hb.mono (by simp; omega))

set_option maxHeartbeats 1000000 in
theorem date_any (s n : Int) (w : World) (h1 : 0 ≤ s) (h2 : s < 315537897600) :
    Calls Tryz.prog 170 #[.agg #[.int .i64 s, .int .i64 n]] w fun e w' => e = .returned (.tuple #[.int .i64 (Cal.year (s / 86400)), .int .i64 (Cal.month (s / 86400)), .int .i64 (Cal.date (s / 86400))]) ∧ Below w.heap.size w w' := by
  have f1 := fun w : World => split_any s n w h1 h2
  have hd0 : 0 ≤ s / 86400 := by omega
  have hd1 : s / 86400 < 3652059 := by omega
  obtain ⟨d, hd⟩ : ∃ d, d = s / 86400 := ⟨_, rfl⟩
  rw [← hd] at hd0 hd1 f1 ⊢
  have F1 := Lib.hid f1
  clear f1 hd
  obtain ⟨g1, g2, g3⟩ := Cal.year_ok d
  obtain ⟨y1, y2⟩ := Cal.year_bd hd0 hd1
  obtain ⟨m1, m2, m3, m4⟩ := Cal.mon_ok (Cal.year d) (Cal.yday d) g2 g3
  have ey : Cal.mon (Cal.year d) (Cal.yday d) = Cal.month d := rfl
  have ed : Cal.yday d - Cal.cum (Cal.year d) (Cal.month d) + 1 = Cal.date d := rfl
  rw [ey] at m1 m2 m3 m4
  have lp := Cal.lp_01 (Cal.year d)
  clear ey g1
  generalize Cal.year d = y at *
  generalize Cal.yday d = yd at *
  generalize Cal.month d = m at *
  have ED := Lib.hid ed
  clear ed
  generalize Cal.date d = dt at *
  go_enter Tryz.func170, Tryz.ntmps170
  go_wp2_with fail
  refine (F1.out _).mono ?_; rintro e w1 ⟨rfl, hb⟩
  have HB := below_box hb (Nat.le_refl _)
  clear hb
  go_wp2_with fail
  go_loop [6, 8] (fun u v => ∃ k : Int, 1 ≤ k ∧ k ≤ m ∧ v = .int .i64 k ∧ u = .int .i64 (yd - Cal.cum y k)) (fun _ v => (13 - intOf v).toNat)
  case atStart => exact ⟨1, by omega, by omega, rfl, by rw [Cal.cum_one]; simp⟩
  case round =>
    obtain ⟨k, k1, k2, rfl, rfl⟩ := hrel
    have cs := Cal.cum_succ y k k1 (by omega)
    have cb := Cal.cum_bd y k (by omega)
    have cm := Cal.cum_mono y (a := k) (b := m) k1 k2 (by omega)
    have db := Cal.mdays_bd y k
    by_cases hk : k = m
    · subst hk
      have hlt : ¬ Cal.mdays y k ≤ yd - Cal.cum y k := by omega
      clear cs
      go_wp2_with (go_at_call 204; refine (monthDays_any _ _ _ (by omega) (by omega)).mono ?_; rintro e w' ⟨rfl, rfl⟩)
      go_ret3
      exact ⟨ret_t3 rfl rfl ED.out, HB⟩
    · have cm2 := Cal.cum_mono y (a := k + 1) (b := m) (by omega) (by omega) (by omega)
      have hge : Cal.mdays y k ≤ yd - Cal.cum y k := by omega
      have CS := Lib.hid cs
      have hkm : k < m := by omega
      clear cs hk
      go_wp2_with (go_at_call 204; refine (monthDays_any _ _ _ (by omega) (by omega)).mono ?_; rintro e w' ⟨rfl, rfl⟩)
      go_round
      case rel => exact ⟨k + 1, by omega, by omega, rfl, by rw [CS.out]; go_num⟩
      case measure => simp [intOf]; omega
end Go.Proofs.YtnlpjncljbaapaaGreatDoor

/- The small functions of the package's own time, walked. -/
namespace Go.Proofs.YtnlpjncljbaapaaGreatDoor
open Go.RowKit

theorem below_a1 {w : World} {o : Obj} : Below w.heap.size w (w.alloc o) := (Below.refl _ _).alloc (Nat.le_refl _) _
theorem below_a2 {w : World} {o p : Obj} : Below w.heap.size w ((w.alloc o).alloc p) := ((Below.refl _ _).alloc (Nat.le_refl _) _).alloc (by simp) _

set_option maxHeartbeats 400000 in
theorem clock_any (s n : Int) (w : World) (h1 : 0 ≤ s) (h2 : s < 315537897600) :
    Calls Tryz.prog 171 #[.agg #[.int .i64 s, .int .i64 n]] w fun e w' => e = .returned (.tuple #[.int .i64 (s % 86400 / 3600), .int .i64 (s % 86400 / 60 % 60), .int .i64 (s % 86400 % 60)]) ∧ Below w.heap.size w w' := by
  have f1 := fun w : World => split_any s n w h1 h2
  have F1 := Lib.hid f1
  clear f1
  have e0 : 0 ≤ s % 86400 := by omega
  have e1 : s % 86400 < 86400 := by omega
  generalize s % 86400 = r at *
  go_enter Tryz.func171, Tryz.ntmps171
  go_wp2_with fail
  refine (F1.out _).mono ?_; rintro e w1 ⟨rfl, hb⟩
  have HB := below_box hb (Nat.le_refl _)
  clear hb
  go_wp2_with fail
  go_ret3
  exact ⟨ret_t3 rfl rfl rfl, HB⟩

set_option maxHeartbeats 400000 in
theorem month_any (s n : Int) (w : World) (h1 : 0 ≤ s) (h2 : s < 315537897600) :
    Calls Tryz.prog 161 #[.agg #[.int .i64 s, .int .i64 n]] w fun e w' => e = .returned (.int .i64 (Cal.month (s / 86400))) ∧ Below w.heap.size w w' := by
  have F1 := Lib.hid fun w : World => date_any s n w h1 h2
  go_enter Tryz.func161, Tryz.ntmps161
  go_wp2_with fail
  refine (F1.out _).mono ?_; rintro e w1 ⟨rfl, hb⟩
  have HB := below_box hb (Nat.le_refl _)
  clear hb
  go_wp2_with fail
  go_ret
  exact ⟨rfl, HB⟩

set_option maxHeartbeats 400000 in
theorem day_any (s n : Int) (w : World) (h1 : 0 ≤ s) (h2 : s < 315537897600) :
    Calls Tryz.prog 162 #[.agg #[.int .i64 s, .int .i64 n]] w fun e w' => e = .returned (.int .i64 (Cal.date (s / 86400))) ∧ Below w.heap.size w w' := by
  have F1 := Lib.hid fun w : World => date_any s n w h1 h2
  go_enter Tryz.func162, Tryz.ntmps162
  go_wp2_with fail
  refine (F1.out _).mono ?_; rintro e w1 ⟨rfl, hb⟩
  have HB := below_box hb (Nat.le_refl _)
  clear hb
  go_wp2_with fail
  go_ret
  exact ⟨rfl, HB⟩

set_option maxHeartbeats 400000 in
theorem hour_any (s n : Int) (w : World) (h1 : 0 ≤ s) (h2 : s < 315537897600) :
    Calls Tryz.prog 165 #[.agg #[.int .i64 s, .int .i64 n]] w fun e w' => e = .returned (.int .i64 (s % 86400 / 3600)) ∧ Below w.heap.size w w' := by
  have F1 := Lib.hid fun w : World => clock_any s n w h1 h2
  go_enter Tryz.func165, Tryz.ntmps165
  go_wp2_with fail
  refine (F1.out _).mono ?_; rintro e w1 ⟨rfl, hb⟩
  have HB := below_box hb (Nat.le_refl _)
  clear hb
  go_wp2_with fail
  go_ret
  exact ⟨rfl, HB⟩

set_option maxHeartbeats 400000 in
theorem minute_any (s n : Int) (w : World) (h1 : 0 ≤ s) (h2 : s < 315537897600) :
    Calls Tryz.prog 166 #[.agg #[.int .i64 s, .int .i64 n]] w fun e w' => e = .returned (.int .i64 (s % 86400 / 60 % 60)) ∧ Below w.heap.size w w' := by
  have F1 := Lib.hid fun w : World => clock_any s n w h1 h2
  go_enter Tryz.func166, Tryz.ntmps166
  go_wp2_with fail
  refine (F1.out _).mono ?_; rintro e w1 ⟨rfl, hb⟩
  have HB := below_box hb (Nat.le_refl _)
  clear hb
  go_wp2_with fail
  go_ret
  exact ⟨rfl, HB⟩

set_option maxHeartbeats 400000 in
theorem second_any (s n : Int) (w : World) (h1 : 0 ≤ s) (h2 : s < 315537897600) :
    Calls Tryz.prog 167 #[.agg #[.int .i64 s, .int .i64 n]] w fun e w' => e = .returned (.int .i64 (s % 86400 % 60)) ∧ Below w.heap.size w w' := by
  have F1 := Lib.hid fun w : World => clock_any s n w h1 h2
  go_enter Tryz.func167, Tryz.ntmps167
  go_wp2_with fail
  refine (F1.out _).mono ?_; rintro e w1 ⟨rfl, hb⟩
  have HB := below_box hb (Nat.le_refl _)
  clear hb
  go_wp2_with fail
  go_ret
  exact ⟨ret_int (by omega), HB⟩

set_option maxHeartbeats 400000 in
theorem weekday_any (s n : Int) (w : World) (h1 : 0 ≤ s) (h2 : s < 315537897600) :
    Calls Tryz.prog 164 #[.agg #[.int .i64 s, .int .i64 n]] w fun e w' => e = .returned (.int .i64 ((s / 86400 + 1) % 7)) ∧ Below w.heap.size w w' := by
  have f1 := fun w : World => floor_any s 86400 w (by omega) h1 (by omega)
  have d0 : 0 ≤ s / 86400 := by omega
  have d1 : s / 86400 < 3652059 := by omega
  generalize s / 86400 = d at *
  have F1 := Lib.hid f1
  have F2 := Lib.hid fun w : World => floor_any (d + 1) 7 w (by omega) (by omega) (by omega)
  clear f1
  go_enter Tryz.func164, Tryz.ntmps164
  go_wp2_with fail
  refine (F1.out _).mono ?_; rintro e w' ⟨rfl, rfl⟩
  go_wp2_with fail
  refine (F2.out _).mono ?_; rintro e w' ⟨rfl, rfl⟩
  go_wp2_with fail
  go_ret
  exact ⟨ret_int (by omega), below_a1⟩

theorem pw_drewN {B : Nat} {w W : World} (h : Below B w W) (n : Nat) : Below B w (W.drewN n) := ⟨h.os, h.tape, h.output, h.size, h.block⟩
/-- The world behind a call that hands back whatever whole number. -/
def SomeInt (lo hi : Int) (w : World) (e : Ending) (w' : World) : Prop := ∃ n : Int, lo ≤ n ∧ n ≤ hi ∧ e = .returned (.int .i64 n) ∧ Below w.heap.size w w'

set_option maxHeartbeats 400000 in
theorem toPy_any (n : Int) (w : World) (h1 : 0 ≤ n) (h2 : n ≤ 6) :
    Calls Tryz.prog 163 #[.int .i64 n] w fun e w' => SomeInt 0 6 w e w' := by
  have h : n = 0 ∨ n = 1 ∨ n = 2 ∨ n = 3 ∨ n = 4 ∨ n = 5 ∨ n = 6 := by omega
  clear h1 h2
  rcases h with rfl | rfl | rfl | rfl | rfl | rfl | rfl
  all_goals
    go_enter Tryz.func163, Tryz.ntmps163
    go_wp2
    go_ret
    exact ⟨_, by omega, by omega, rfl, below_a1⟩

set_option maxHeartbeats 400000 in
theorem isZero_any (s n : Int) (w : World) :
    Calls Tryz.prog 77 #[.agg #[.int .i64 s, .int .i64 n]] w fun e w' => e = .returned (.bool (decide (s = 0) && decide (n = 0))) ∧ Below w.heap.size w w' := by
  by_cases h : s = 0
  · subst h
    go_enter Tryz.func77, Tryz.ntmps77
    go_wp2
    go_ret
    exact ⟨by simp <;> (rw [Bool.eq_iff_iff]; simp), below_a1⟩
  · have hb : (s == 0) = false := by simpa using h
    go_enter Tryz.func77, Tryz.ntmps77
    go_wp2
    go_ret
    exact ⟨by simp [h], below_a1⟩

set_option maxHeartbeats 400000 in
theorem seconds_any (s n : Int) (w : World) :
    Calls Tryz.prog 58 #[.agg #[.int .i64 s, .int .i64 n]] w fun e w' => e = .returned (.int .i64 s) ∧ Below w.heap.size w w' := by
  go_enter Tryz.func58, Tryz.ntmps58
  go_wp2
  go_ret
  exact ⟨rfl, below_a1⟩

set_option maxHeartbeats 400000 in
theorem truncate_any (s n d : Int) (w : World) :
    Calls Tryz.prog 112 #[.agg #[.int .i64 s, .int .i64 n], .int .i64 d] w fun e w' => e = .returned (.agg #[.int .i64 s, .int .i64 0]) ∧ Below w.heap.size w w' := by
  go_enter Tryz.func112, Tryz.ntmps112
  go_wp2
  exact bodyPost_ret (v := .agg #[.int .i64 s, .int .i64 0]) (by simp [results, Tryz.results112, go_sem]) rfl ⟨rfl, below_a2⟩

set_option maxHeartbeats 400000 in
theorem of_any (s : Int) (w : World) :
    Calls Tryz.prog 70 #[.int .i64 s] w fun e w' => e = .returned (.agg #[.int .i64 s, .int .i64 0]) ∧ Below w.heap.size w w' := by
  go_enter Tryz.func70, Tryz.ntmps70
  go_wp2
  exact bodyPost_ret (v := .agg #[.int .i64 s, .int .i64 0]) (by simp [results, Tryz.results70, go_sem]) rfl ⟨rfl, below_a1⟩

set_option maxHeartbeats 400000 in
theorem at_any (w : World) :
    Calls Tryz.prog 159 #[.int .i64 0] w fun e w' => e = .returned (.agg #[.int .i64 62135596800, .int .i64 0]) ∧ Below w.heap.size w w' := by
  go_enter Tryz.func159, Tryz.ntmps159
  go_wp2
  exact bodyPost_ret (v := .agg #[.int .i64 62135596800, .int .i64 0]) (by simp [results, Tryz.results159, go_sem]) rfl ⟨rfl, below_a1⟩

set_option maxHeartbeats 400000 in
theorem timeUTC_any (s n : Int) (w : World) :
    Calls Tryz.prog 174 #[.agg #[.int .i64 s, .int .i64 n]] w fun e w' => e = .returned (.agg #[.int .i64 s, .int .i64 n]) ∧ Below w.heap.size w w' := by
  go_enter Tryz.func174, Tryz.ntmps174
  go_wp2
  exact bodyPost_ret (v := .agg #[.int .i64 s, .int .i64 n]) (by simp [results, Tryz.results174, go_sem]) rfl ⟨rfl, below_a2⟩

set_option maxHeartbeats 400000 in
theorem location_any (s n : Int) (w : World) :
    Calls Tryz.prog 98 #[.agg #[.int .i64 s, .int .i64 n]] w fun e w' => e = .returned (.agg #[]) ∧ Below w.heap.size w w' := by
  go_enter Tryz.func98, Tryz.ntmps98
  go_wp2
  exact bodyPost_ret (v := .agg #[]) (by simp [results, Tryz.results98, go_sem]) rfl ⟨rfl, below_a2⟩

set_option maxHeartbeats 400000 in
theorem utc_any (w : World) :
    Calls Tryz.prog 56 #[] w fun e w' => e = .returned (.agg #[]) ∧ Below w.heap.size w w' := by
  go_enter Tryz.func56, Tryz.ntmps56
  go_wp2
  exact bodyPost_ret (v := .agg #[]) (by simp [results, Tryz.results56, go_sem]) rfl ⟨rfl, below_a1⟩

set_option maxHeartbeats 400000 in
theorem locString_any (w : World) :
    Calls Tryz.prog 117 #[.agg #[]] w fun e w' => e = .returned (.string ⟨#[85, 84, 67]⟩) ∧ Below w.heap.size w w' := by
  go_enter Tryz.func117, Tryz.ntmps117
  go_wp2
  go_ret
  exact ⟨rfl, below_a1⟩

set_option maxHeartbeats 400000 in
theorem add_any (s : Int) (w : World) (h1 : 0 ≤ s) (h2 : s < 315537897600) :
    Calls Tryz.prog 160 #[.agg #[.int .i64 s, .int .i64 0], .int .i64 9223372036854775807] w fun e w' => e = .returned (.agg #[.int .i64 (s + 9223372036), .int .i64 854775807]) ∧ Below w.heap.size w w' := by
  go_enter Tryz.func160, Tryz.ntmps160
  go_wp2
  go_quiet (fail)
  go_wp2
  exact bodyPost_ret (v := .agg #[.int .i64 (s + 9223372036), .int .i64 854775807]) (by simp [results, Tryz.results160, go_sem]) rfl ⟨rfl, ((pw_drewN below_a2 _).setCell (by simp) _).setCell (by simp) _⟩

set_option maxHeartbeats 400000 in
theorem before_any (s n t m : Int) (w : World) :
    Calls Tryz.prog 275 #[.agg #[.int .i64 s, .int .i64 n], .agg #[.int .i64 t, .int .i64 m]] w fun e w' => e = .returned (.bool (decide (s < t) || (decide (s = t) && decide (n < m)))) ∧ Below w.heap.size w w' := by
  by_cases h1 : s < t
  · go_enter Tryz.func275, Tryz.ntmps275
    go_wp2
    go_ret
    exact ⟨by simp [h1], below_a2⟩
  · by_cases h2 : s = t
    · subst h2
      by_cases h3 : n < m
      all_goals
        go_enter Tryz.func275, Tryz.ntmps275
        go_wp2
        go_ret
        exact ⟨by simp [h3], below_a2⟩
    · have h2b : (s == t) = false := by simpa using h2
      go_enter Tryz.func275, Tryz.ntmps275
      go_wp2
      go_ret
      exact ⟨by simp [h1], below_a2⟩

/-- A date of the years 1 to 9999 as a moment. -/
def secs (y m d h mi s : Int) : Int := Cal.num y m d * 86400 + h * 3600 + mi * 60 + s
set_option maxHeartbeats 1000000 in
theorem dateOf_any (y m d h mi s : Int) (w : World) (y1 : 1 ≤ y) (y2 : y ≤ 9999) (m1 : 1 ≤ m) (m2 : m ≤ 12) (d1 : 1 ≤ d) (d2 : d ≤ 366) (h1 : 0 ≤ h) (h2 : h ≤ 23) (i1 : 0 ≤ mi) (i2 : mi ≤ 59) (s1 : 0 ≤ s) (s2 : s ≤ 59) :
    Calls Tryz.prog 168 #[.int .i64 y, .int .i64 m, .int .i64 d, .int .i64 h, .int .i64 mi, .int .i64 s, .int .i64 0, .agg #[]] w fun e w' => e = .returned (.agg #[.int .i64 (secs y m d h mi s), .int .i64 0]) ∧ Below w.heap.size w w' := by
  have f1 := fun w : World => floor_any (m - 1) 12 w (by omega) (by omega) (by omega)
  have e1 : (m - 1) / 12 = 0 := by omega
  rw [e1] at f1
  have F1 := Lib.hid f1
  have F2 := Lib.hid fun w : World => daysTo_any y w (by omega) (by omega)
  have F3 := Lib.hid fun w : World => floor_any 0 1000000000 w (by omega) (by omega) (by omega)
  have b1 := Cal.dby_bd y (by omega) (by omega)
  clear f1 e1
  obtain ⟨D, hD⟩ : ∃ D, D = Cal.dby y := ⟨_, rfl⟩
  rw [← hD] at F2 b1
  have HE : Hid (∀ c, c = Cal.cum y m → (D + d - 1 + c) * 86400 + h * 3600 + mi * 60 + s = secs y m d h mi s) := by
    intro c hc
    unfold secs Cal.num
    rw [hc, hD]
    congr 3
    omega
  clear hD
  go_enter Tryz.func168, Tryz.ntmps168
  go_wp2_with fail
  refine (F1.out _).mono ?_; rintro e w' ⟨rfl, rfl⟩
  go_wp2_with fail
  refine (F1.out _).mono ?_; rintro e w' ⟨rfl, rfl⟩
  go_wp2_with fail
  refine (F2.out _).mono ?_; rintro e w' ⟨rfl, rfl⟩
  go_wp2_with fail
  go_loop [19, 20] (fun u v => ∃ k : Int, 1 ≤ k ∧ k ≤ m ∧ v = .int .i64 k ∧ u = .int .i64 (D + d - 1 + Cal.cum y k)) (fun _ v => (13 - intOf v).toNat)
  case atStart => exact ⟨1, by omega, by omega, rfl, by rw [Cal.cum_one]; simp⟩
  case round =>
    obtain ⟨k, k1, k2, rfl, rfl⟩ := hrel
    have cs := Cal.cum_succ y k k1 (by omega)
    have cb := Cal.cum_bd y k (by omega)
    have db := Cal.mdays_bd y k
    by_cases hk : k = m
    · have hlt : ¬ k ≤ m - 1 := by omega
      have HC : Hid (k = m) := hk
      clear cs hk
      go_wp2_with fail
      refine (F3.out _).mono ?_; rintro e w' ⟨rfl, rfl⟩
      go_wp2_with fail
      exact bodyPost_ret (v := .agg #[.int .i64 ((D + d - 1 + Cal.cum y k) * 86400 + h * 3600 + mi * 60 + s), .int .i64 0]) (by simp [results, Tryz.results168, go_sem]) rfl ⟨by rw [HE.out _ (by rw [HC.out])], below_a2⟩
    · have hlt : k ≤ m - 1 := by omega
      have CS := Lib.hid cs
      clear cs hk
      go_wp2_with (go_at_call 204; refine (monthDays_any _ _ _ (by omega) (by omega)).mono ?_; rintro e w' ⟨rfl, rfl⟩)
      go_round
      case rel => exact ⟨k + 1, by omega, by omega, rfl, by rw [CS.out]; go_num⟩
      case measure => simp [intOf]; omega
end Go.Proofs.YtnlpjncljbaapaaGreatDoor
