/- The plain calendar: days, months and years as whole numbers; no program in sight. -/
namespace Go.Proofs.YtnlpjncljbaapaaGreatDoor
namespace Cal

def leap (y : Int) : Bool := decide (y % 4 = 0) && (!decide (y % 100 = 0) || decide (y % 400 = 0))
def lp (y : Int) : Int := if leap y = true then 1 else 0
def mdays (y m : Int) : Int := if m = 2 then 28 + lp y else if m = 4 ∨ m = 6 ∨ m = 9 ∨ m = 11 then 30 else 31
def dby (y : Int) : Int := 365 * (y - 1) + (y - 1) / 4 - (y - 1) / 100 + (y - 1) / 400
def cum (y m : Int) : Int :=
  if m ≤ 1 then 0 else if m = 2 then 31 else lp y + (if m = 3 then 59 else if m = 4 then 90 else if m = 5 then 120 else if m = 6 then 151 else if m = 7 then 181 else if m = 8 then 212 else if m = 9 then 243 else if m = 10 then 273 else if m = 11 then 304 else if m = 12 then 334 else 365)
def num (y m d : Int) : Int := dby y + cum y m + d - 1

theorem lp_01 (y : Int) : 0 ≤ lp y ∧ lp y ≤ 1 := by unfold lp; split <;> omega
theorem lp_cases (y : Int) : lp y = if y % 4 = 0 ∧ (y % 100 ≠ 0 ∨ y % 400 = 0) then 1 else 0 := by
  unfold lp leap
  by_cases h1 : y % 4 = 0 <;> by_cases h2 : y % 100 = 0 <;> by_cases h3 : y % 400 = 0 <;> simp [h1, h2, h3]
theorem leap_lp (y : Int) : leap y = true ↔ lp y = 1 := by unfold lp; split <;> simp_all
theorem leap_lp0 (y : Int) : leap y = false ↔ lp y = 0 := by unfold lp; split <;> simp_all
theorem dby_succ (y : Int) : dby (y + 1) = dby y + 365 + lp y := by
  rw [lp_cases]; unfold dby
  split <;> omega
theorem m_cases {m : Int} (h1 : 1 ≤ m) (h2 : m ≤ 12) : m = 1 ∨ m = 2 ∨ m = 3 ∨ m = 4 ∨ m = 5 ∨ m = 6 ∨ m = 7 ∨ m = 8 ∨ m = 9 ∨ m = 10 ∨ m = 11 ∨ m = 12 := by omega
theorem cum_succ (y m : Int) (h1 : 1 ≤ m) (h2 : m ≤ 12) : cum y (m + 1) = cum y m + mdays y m := by
  rcases m_cases h1 h2 with rfl | rfl | rfl | rfl | rfl | rfl | rfl | rfl | rfl | rfl | rfl | rfl <;> simp [cum, mdays] <;> omega
theorem cum_one (y : Int) : cum y 1 = 0 := by simp [cum]
theorem cum_last (y : Int) : cum y 13 = 365 + lp y := by simp [cum]; omega
theorem mdays_bd (y m : Int) : 28 ≤ mdays y m ∧ mdays y m ≤ 31 := by
  have := lp_01 y
  unfold mdays; split
  · omega
  · split <;> omega
theorem cum_bd (y m : Int) (h2 : m ≤ 13) : 0 ≤ cum y m ∧ cum y m ≤ 366 := by
  have := lp_01 y
  by_cases h : m ≤ 1
  · simp [cum, h]
  · rcases m_cases (m := m - 1) (by omega) (by omega) with h | h | h | h | h | h | h | h | h | h | h | h <;> (obtain rfl : m = _ := by rw [← Int.sub_add_cancel m 1, h]) <;> simp [cum] <;> omega
theorem dby_mono (a b : Int) (h : a ≤ b) : dby a ≤ dby b := by unfold dby; omega
theorem dby_one : dby 1 = 0 := by decide
theorem dby_bd (y : Int) (h1 : 1 ≤ y) (h2 : y ≤ 10000) : 0 ≤ dby y ∧ dby y ≤ 3652059 := by unfold dby; omega

/-- The year of a day's number, as the program reckons it. -/
def yq (n : Int) : Int := n / 146097
def yr1 (n : Int) : Int := n % 146097
def yc (n : Int) : Int := if yr1 n / 36524 = 4 then 3 else yr1 n / 36524
def yr2 (n : Int) : Int := yr1 n - yc n * 36524
def yf (n : Int) : Int := yr2 n / 1461
def yr3 (n : Int) : Int := yr2 n % 1461
def yo (n : Int) : Int := if yr3 n / 365 = 4 then 3 else yr3 n / 365
def yday (n : Int) : Int := yr3 n - yo n * 365
def year (n : Int) : Int := 400 * yq n + 100 * yc n + 4 * yf n + yo n + 1

theorem yc_bd (n : Int) : 0 ≤ yc n ∧ yc n ≤ 3 ∧ 0 ≤ yr2 n ∧ yr2 n ≤ 36524 ∧ (yc n < 3 → yr2 n < 36524) ∧ n = 146097 * yq n + 36524 * yc n + yr2 n := by
  unfold yr2 yc yq yr1
  split <;> omega
theorem yf_bd (n : Int) : 0 ≤ yf n ∧ yf n ≤ 24 ∧ 0 ≤ yr3 n ∧ yr3 n ≤ 1460 ∧ (yf n = 24 → yc n < 3 → yr3 n < 1460) ∧ yr2 n = 1461 * yf n + yr3 n := by
  have := yc_bd n
  unfold yr3 yf
  omega
theorem yo_bd (n : Int) : 0 ≤ yo n ∧ yo n ≤ 3 ∧ 0 ≤ yday n ∧ yday n ≤ 365 ∧ (yo n < 3 → yday n < 365) ∧ yr3 n = 365 * yo n + yday n := by
  have := yf_bd n
  unfold yday yo
  split <;> omega
theorem year_ok (n : Int) : n = dby (year n) + yday n ∧ 0 ≤ yday n ∧ yday n < 365 + lp (year n) := by
  obtain ⟨c0, c3, _, _, c5, hc⟩ := yc_bd n
  obtain ⟨f0, f1, _, _, f5, hf⟩ := yf_bd n
  obtain ⟨o0, o3, d0, d1, o5, ho⟩ := yo_bd n
  rw [lp_cases]
  generalize yday n = d at *
  generalize hy : year n = y
  unfold year at hy
  generalize yo n = o at *
  generalize yf n = f at *
  generalize yc n = c at *
  generalize yq n = q at *
  generalize yr2 n = r2 at *
  generalize yr3 n = r3 at *
  subst hc hf ho
  have e1 : (y - 1) / 4 = 100 * q + 25 * c + f := by omega
  have e2 : (y - 1) / 100 = 4 * q + c := by omega
  have e3 : (y - 1) / 400 = q := by omega
  refine ⟨?_, d0, ?_⟩
  · unfold dby
    rw [e1, e2, e3]
    omega
  · split
    · omega
    · rename_i hn
      have : y % 4 ≠ 0 ∨ (y % 100 = 0 ∧ y % 400 ≠ 0) := by omega
      omega
theorem year_unique {n y : Int} (h1 : dby y ≤ n) (h2 : n < dby (y + 1)) : y = year n := by
  obtain ⟨e, h3, h4⟩ := year_ok n
  have h5 := dby_succ (year n)
  rcases Int.lt_trichotomy y (year n) with h | h | h
  · have := dby_mono (y + 1) (year n) (by omega); omega
  · exact h
  · have := dby_mono (year n + 1) y (by omega); omega
theorem year_bd {n : Int} (h0 : 0 ≤ n) (h1 : n < 3652059) : 1 ≤ year n ∧ year n ≤ 9999 := by
  obtain ⟨e, h3, h4⟩ := year_ok n
  have h5 := dby_succ (year n)
  have h6 : dby 10000 = 3652059 := by decide
  refine ⟨?_, ?_⟩
  · rcases (by omega : year n < 1 ∨ 1 ≤ year n) with h | h
    · have := dby_mono (year n + 1) 1 (by omega); have := dby_one; omega
    · exact h
  · rcases (by omega : 9999 < year n ∨ year n ≤ 9999) with h | h
    · have := dby_mono 10000 (year n) (by omega); omega
    · exact h

/-- The month of a day of a year (counted from 0). -/
def mon (y d : Int) : Int :=
  if d < cum y 2 then 1 else if d < cum y 3 then 2 else if d < cum y 4 then 3 else if d < cum y 5 then 4 else if d < cum y 6 then 5 else if d < cum y 7 then 6 else if d < cum y 8 then 7 else if d < cum y 9 then 8 else if d < cum y 10 then 9 else if d < cum y 11 then 10 else if d < cum y 12 then 11 else 12
theorem cum_mono (y : Int) {a b : Int} (h1 : 1 ≤ a) (h : a ≤ b) (h2 : b ≤ 13) : cum y a ≤ cum y b := by
  obtain ⟨k, rfl⟩ : ∃ k : Nat, b = a + k := ⟨(b - a).toNat, by omega⟩
  clear h
  induction k with
  | zero => simp
  | succ k ih =>
    have h3 := ih (by omega)
    have h4 := cum_succ y (a + k) (by omega) (by omega)
    have h5 := mdays_bd y (a + k)
    have e : a + ((k + 1 : Nat) : Int) = a + k + 1 := by omega
    rw [e, h4]; omega
theorem mon_ok (y d : Int) (h0 : 0 ≤ d) (h1 : d < 365 + lp y) : 1 ≤ mon y d ∧ mon y d ≤ 12 ∧ cum y (mon y d) ≤ d ∧ d < cum y (mon y d + 1) := by
  have c1 := cum_one y
  have c13 := cum_last y
  unfold mon
  by_cases a2 : d < cum y 2
  · simp only [if_pos a2]; exact ⟨by omega, by omega, by omega, a2⟩
  simp only [if_neg a2]
  by_cases a3 : d < cum y 3
  · simp only [if_pos a3]; exact ⟨by omega, by omega, by omega, a3⟩
  simp only [if_neg a3]
  by_cases a4 : d < cum y 4
  · simp only [if_pos a4]; exact ⟨by omega, by omega, by omega, a4⟩
  simp only [if_neg a4]
  by_cases a5 : d < cum y 5
  · simp only [if_pos a5]; exact ⟨by omega, by omega, by omega, a5⟩
  simp only [if_neg a5]
  by_cases a6 : d < cum y 6
  · simp only [if_pos a6]; exact ⟨by omega, by omega, by omega, a6⟩
  simp only [if_neg a6]
  by_cases a7 : d < cum y 7
  · simp only [if_pos a7]; exact ⟨by omega, by omega, by omega, a7⟩
  simp only [if_neg a7]
  by_cases a8 : d < cum y 8
  · simp only [if_pos a8]; exact ⟨by omega, by omega, by omega, a8⟩
  simp only [if_neg a8]
  by_cases a9 : d < cum y 9
  · simp only [if_pos a9]; exact ⟨by omega, by omega, by omega, a9⟩
  simp only [if_neg a9]
  by_cases a10 : d < cum y 10
  · simp only [if_pos a10]; exact ⟨by omega, by omega, by omega, a10⟩
  simp only [if_neg a10]
  by_cases a11 : d < cum y 11
  · simp only [if_pos a11]; exact ⟨by omega, by omega, by omega, a11⟩
  simp only [if_neg a11]
  by_cases a12 : d < cum y 12
  · simp only [if_pos a12]; exact ⟨by omega, by omega, by omega, a12⟩
  simp only [if_neg a12]
  exact ⟨by omega, by omega, by omega, by show d < cum y 13; omega⟩
theorem mon_unique {y d m : Int} (h0 : 0 ≤ d) (h1 : d < 365 + lp y) (h2 : 1 ≤ m) (h3 : m ≤ 12) (h4 : cum y m ≤ d) (h5 : d < cum y (m + 1)) : m = mon y d := by
  obtain ⟨a, b, c, e⟩ := mon_ok y d h0 h1
  rcases Int.lt_trichotomy m (mon y d) with h | h | h
  · have := cum_mono y (a := m + 1) (b := mon y d) (by omega) (by omega) (by omega); omega
  · exact h
  · have := cum_mono y (a := mon y d + 1) (b := m) (by omega) (by omega) (by omega); omega

/-- The date of a day's number. -/
def month (n : Int) : Int := mon (year n) (yday n)
def date (n : Int) : Int := yday n - cum (year n) (month n) + 1
theorem date_ok (n : Int) : 1 ≤ month n ∧ month n ≤ 12 ∧ 1 ≤ date n ∧ date n ≤ mdays (year n) (month n) ∧ num (year n) (month n) (date n) = n := by
  obtain ⟨e, h3, h4⟩ := year_ok n
  obtain ⟨a, b, c, d⟩ := mon_ok (year n) (yday n) h3 h4
  have h6 := cum_succ (year n) (month n) a b
  refine ⟨a, b, ?_, ?_, ?_⟩
  · show 1 ≤ yday n - cum (year n) (mon (year n) (yday n)) + 1; omega
  · have d' : yday n < cum (year n) (month n + 1) := d
    show yday n - cum (year n) (month n) + 1 ≤ _; omega
  · unfold num date; omega
theorem date_unique {n y m d : Int} (h1 : 1 ≤ m) (h2 : m ≤ 12) (h3 : 1 ≤ d) (h4 : d ≤ mdays y m) (h5 : num y m d = n) : y = year n ∧ m = month n ∧ d = date n := by
  have c := cum_succ y m h1 h2
  have c1 := cum_mono y (a := 1) (b := m) (by omega) h1 (by omega)
  have c2 := cum_mono y (a := m + 1) (b := 13) (by omega) (by omega) (by omega)
  rw [cum_one] at c1
  rw [cum_last] at c2
  unfold num at h5
  have hy : y = year n := year_unique (by omega) (by rw [dby_succ]; omega)
  obtain ⟨e, h7, h8⟩ := year_ok n
  rw [← hy] at e h8
  have hm : m = month n := by
    unfold month
    rw [← hy]
    exact mon_unique (by omega) (by omega) h1 h2 (by omega) (by omega)
  refine ⟨hy, hm, ?_⟩
  unfold date
  rw [← hm, ← hy]
  omega
end Cal
end Go.Proofs.YtnlpjncljbaapaaGreatDoor
