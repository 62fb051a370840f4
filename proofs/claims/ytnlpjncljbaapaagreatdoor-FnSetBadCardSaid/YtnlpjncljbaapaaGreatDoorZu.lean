/- The small functions of the package's own time, walked. -/
import Derived.Test.YtnlpjncljbaapaaGreatDoorZt
namespace Go.Proofs.YtnlpjncljbaapaaGreatDoor
open Go.RowKit

theorem below_a1 {w : World} {o : Obj} : Below w.heap.size w (w.alloc o) := (Below.refl _ _).alloc (Nat.le_refl _) _
theorem below_a2 {w : World} {o p : Obj} : Below w.heap.size w ((w.alloc o).alloc p) := ((Below.refl _ _).alloc (Nat.le_refl _) _).alloc (by simp) _

set_option maxHeartbeats 400000 in
theorem clock_any (s n : Int) (w : World) (h1 : 0 ≤ s) (h2 : s < 315537897600) :
    Calls Tryz.prog 171 #[.agg #[.int .i64 s, .int .i64 n]] w fun e w' => e = .returned (.tuple #[.int .i64 (s % 86400 / 3600), .int .i64 (s % 86400 / 60 % 60), .int .i64 (s % 86400 % 60)]) ∧ Below w.heap.size w w' := by
  have f1 := fun w : World => split_any s n w h1 h2
  have F1 := Lib.hid f1
  clear f1
  have e0 : 0 ≤ s % 86400 := by omega
  have e1 : s % 86400 < 86400 := by omega
  generalize s % 86400 = r at *
  go_enter Tryz.func171, Tryz.ntmps171
  go_wp2_with fail
  refine (F1.out _).mono ?_; rintro e w1 ⟨rfl, hb⟩
  have HB := below_box hb (Nat.le_refl _)
  clear hb
  go_wp2_with fail
  go_ret3
  exact ⟨ret_t3 rfl rfl rfl, HB⟩

set_option maxHeartbeats 400000 in
theorem month_any (s n : Int) (w : World) (h1 : 0 ≤ s) (h2 : s < 315537897600) :
    Calls Tryz.prog 161 #[.agg #[.int .i64 s, .int .i64 n]] w fun e w' => e = .returned (.int .i64 (Cal.month (s / 86400))) ∧ Below w.heap.size w w' := by
  have F1 := Lib.hid fun w : World => date_any s n w h1 h2
  go_enter Tryz.func161, Tryz.ntmps161
  go_wp2_with fail
  refine (F1.out _).mono ?_; rintro e w1 ⟨rfl, hb⟩
  have HB := below_box hb (Nat.le_refl _)
  clear hb
  go_wp2_with fail
  go_ret
  exact ⟨rfl, HB⟩

set_option maxHeartbeats 400000 in
theorem day_any (s n : Int) (w : World) (h1 : 0 ≤ s) (h2 : s < 315537897600) :
    Calls Tryz.prog 162 #[.agg #[.int .i64 s, .int .i64 n]] w fun e w' => e = .returned (.int .i64 (Cal.date (s / 86400))) ∧ Below w.heap.size w w' := by
  have F1 := Lib.hid fun w : World => date_any s n w h1 h2
  go_enter Tryz.func162, Tryz.ntmps162
  go_wp2_with fail
  refine (F1.out _).mono ?_; rintro e w1 ⟨rfl, hb⟩
  have HB := below_box hb (Nat.le_refl _)
  clear hb
  go_wp2_with fail
  go_ret
  exact ⟨rfl, HB⟩

set_option maxHeartbeats 400000 in
theorem hour_any (s n : Int) (w : World) (h1 : 0 ≤ s) (h2 : s < 315537897600) :
    Calls Tryz.prog 165 #[.agg #[.int .i64 s, .int .i64 n]] w fun e w' => e = .returned (.int .i64 (s % 86400 / 3600)) ∧ Below w.heap.size w w' := by
  have F1 := Lib.hid fun w : World => clock_any s n w h1 h2
  go_enter Tryz.func165, Tryz.ntmps165
  go_wp2_with fail
  refine (F1.out _).mono ?_; rintro e w1 ⟨rfl, hb⟩
  have HB := below_box hb (Nat.le_refl _)
  clear hb
  go_wp2_with fail
  go_ret
  exact ⟨rfl, HB⟩

set_option maxHeartbeats 400000 in
theorem minute_any (s n : Int) (w : World) (h1 : 0 ≤ s) (h2 : s < 315537897600) :
    Calls Tryz.prog 166 #[.agg #[.int .i64 s, .int .i64 n]] w fun e w' => e = .returned (.int .i64 (s % 86400 / 60 % 60)) ∧ Below w.heap.size w w' := by
  have F1 := Lib.hid fun w : World => clock_any s n w h1 h2
  go_enter Tryz.func166, Tryz.ntmps166
  go_wp2_with fail
  refine (F1.out _).mono ?_; rintro e w1 ⟨rfl, hb⟩
  have HB := below_box hb (Nat.le_refl _)
  clear hb
  go_wp2_with fail
  go_ret
  exact ⟨rfl, HB⟩

set_option maxHeartbeats 400000 in
theorem second_any (s n : Int) (w : World) (h1 : 0 ≤ s) (h2 : s < 315537897600) :
    Calls Tryz.prog 167 #[.agg #[.int .i64 s, .int .i64 n]] w fun e w' => e = .returned (.int .i64 (s % 86400 % 60)) ∧ Below w.heap.size w w' := by
  have F1 := Lib.hid fun w : World => clock_any s n w h1 h2
  go_enter Tryz.func167, Tryz.ntmps167
  go_wp2_with fail
  refine (F1.out _).mono ?_; rintro e w1 ⟨rfl, hb⟩
  have HB := below_box hb (Nat.le_refl _)
  clear hb
  go_wp2_with fail
  go_ret
  exact ⟨ret_int (by omega), HB⟩

set_option maxHeartbeats 400000 in
theorem weekday_any (s n : Int) (w : World) (h1 : 0 ≤ s) (h2 : s < 315537897600) :
    Calls Tryz.prog 164 #[.agg #[.int .i64 s, .int .i64 n]] w fun e w' => e = .returned (.int .i64 ((s / 86400 + 1) % 7)) ∧ Below w.heap.size w w' := by
  have f1 := fun w : World => floor_any s 86400 w (by omega) h1 (by omega)
  have d0 : 0 ≤ s / 86400 := by omega
  have d1 : s / 86400 < 3652059 := by omega
  generalize s / 86400 = d at *
  have F1 := Lib.hid f1
  have F2 := Lib.hid fun w : World => floor_any (d + 1) 7 w (by omega) (by omega) (by omega)
  clear f1
  go_enter Tryz.func164, Tryz.ntmps164
  go_wp2_with fail
  refine (F1.out _).mono ?_; rintro e w' ⟨rfl, rfl⟩
  go_wp2_with fail
  refine (F2.out _).mono ?_; rintro e w' ⟨rfl, rfl⟩
  go_wp2_with fail
  go_ret
  exact ⟨ret_int (by omega), below_a1⟩

theorem pw_drewN {B : Nat} {w W : World} (h : Below B w W) (n : Nat) : Below B w (W.drewN n) := ⟨h.os, h.tape, h.output, h.size, h.block⟩
/-- The world behind a call that hands back whatever whole number. -/
def SomeInt (lo hi : Int) (w : World) (e : Ending) (w' : World) : Prop := ∃ n : Int, lo ≤ n ∧ n ≤ hi ∧ e = .returned (.int .i64 n) ∧ Below w.heap.size w w'

set_option maxHeartbeats 400000 in
theorem toPy_any (n : Int) (w : World) (h1 : 0 ≤ n) (h2 : n ≤ 6) :
    Calls Tryz.prog 163 #[.int .i64 n] w fun e w' => SomeInt 0 6 w e w' := by
  have h : n = 0 ∨ n = 1 ∨ n = 2 ∨ n = 3 ∨ n = 4 ∨ n = 5 ∨ n = 6 := by omega
  clear h1 h2
  rcases h with rfl | rfl | rfl | rfl | rfl | rfl | rfl
  all_goals
    go_enter Tryz.func163, Tryz.ntmps163
    go_wp2
    go_ret
    exact ⟨_, by omega, by omega, rfl, below_a1⟩

set_option maxHeartbeats 400000 in
theorem isZero_any (s n : Int) (w : World) :
    Calls Tryz.prog 77 #[.agg #[.int .i64 s, .int .i64 n]] w fun e w' => e = .returned (.bool (decide (s = 0) && decide (n = 0))) ∧ Below w.heap.size w w' := by
  by_cases h : s = 0
  · subst h
    go_enter Tryz.func77, Tryz.ntmps77
    go_wp2
    go_ret
    exact ⟨by simp <;> (rw [Bool.eq_iff_iff]; simp), below_a1⟩
  · have hb : (s == 0) = false := by simpa using h
    go_enter Tryz.func77, Tryz.ntmps77
    go_wp2
    go_ret
    exact ⟨by simp [h], below_a1⟩

set_option maxHeartbeats 400000 in
theorem seconds_any (s n : Int) (w : World) :
    Calls Tryz.prog 58 #[.agg #[.int .i64 s, .int .i64 n]] w fun e w' => e = .returned (.int .i64 s) ∧ Below w.heap.size w w' := by
  go_enter Tryz.func58, Tryz.ntmps58
  go_wp2
  go_ret
  exact ⟨rfl, below_a1⟩

set_option maxHeartbeats 400000 in
theorem truncate_any (s n d : Int) (w : World) :
    Calls Tryz.prog 112 #[.agg #[.int .i64 s, .int .i64 n], .int .i64 d] w fun e w' => e = .returned (.agg #[.int .i64 s, .int .i64 0]) ∧ Below w.heap.size w w' := by
  go_enter Tryz.func112, Tryz.ntmps112
  go_wp2
  exact bodyPost_ret (v := .agg #[.int .i64 s, .int .i64 0]) (by simp [results, Tryz.results112, go_sem]) rfl ⟨rfl, below_a2⟩

set_option maxHeartbeats 400000 in
theorem of_any (s : Int) (w : World) :
    Calls Tryz.prog 70 #[.int .i64 s] w fun e w' => e = .returned (.agg #[.int .i64 s, .int .i64 0]) ∧ Below w.heap.size w w' := by
  go_enter Tryz.func70, Tryz.ntmps70
  go_wp2
  exact bodyPost_ret (v := .agg #[.int .i64 s, .int .i64 0]) (by simp [results, Tryz.results70, go_sem]) rfl ⟨rfl, below_a1⟩

set_option maxHeartbeats 400000 in
theorem at_any (w : World) :
    Calls Tryz.prog 159 #[.int .i64 0] w fun e w' => e = .returned (.agg #[.int .i64 62135596800, .int .i64 0]) ∧ Below w.heap.size w w' := by
  go_enter Tryz.func159, Tryz.ntmps159
  go_wp2
  exact bodyPost_ret (v := .agg #[.int .i64 62135596800, .int .i64 0]) (by simp [results, Tryz.results159, go_sem]) rfl ⟨rfl, below_a1⟩

set_option maxHeartbeats 400000 in
theorem timeUTC_any (s n : Int) (w : World) :
    Calls Tryz.prog 174 #[.agg #[.int .i64 s, .int .i64 n]] w fun e w' => e = .returned (.agg #[.int .i64 s, .int .i64 n]) ∧ Below w.heap.size w w' := by
  go_enter Tryz.func174, Tryz.ntmps174
  go_wp2
  exact bodyPost_ret (v := .agg #[.int .i64 s, .int .i64 n]) (by simp [results, Tryz.results174, go_sem]) rfl ⟨rfl, below_a2⟩

set_option maxHeartbeats 400000 in
theorem location_any (s n : Int) (w : World) :
    Calls Tryz.prog 98 #[.agg #[.int .i64 s, .int .i64 n]] w fun e w' => e = .returned (.agg #[]) ∧ Below w.heap.size w w' := by
  go_enter Tryz.func98, Tryz.ntmps98
  go_wp2
  exact bodyPost_ret (v := .agg #[]) (by simp [results, Tryz.results98, go_sem]) rfl ⟨rfl, below_a2⟩

set_option maxHeartbeats 400000 in
theorem utc_any (w : World) :
    Calls Tryz.prog 56 #[] w fun e w' => e = .returned (.agg #[]) ∧ Below w.heap.size w w' := by
  go_enter Tryz.func56, Tryz.ntmps56
  go_wp2
  exact bodyPost_ret (v := .agg #[]) (by simp [results, Tryz.results56, go_sem]) rfl ⟨rfl, below_a1⟩

set_option maxHeartbeats 400000 in
theorem locString_any (w : World) :
    Calls Tryz.prog 117 #[.agg #[]] w fun e w' => e = .returned (.string ⟨#[85, 84, 67]⟩) ∧ Below w.heap.size w w' := by
  go_enter Tryz.func117, Tryz.ntmps117
  go_wp2
  go_ret
  exact ⟨rfl, below_a1⟩

set_option maxHeartbeats 400000 in
theorem add_any (s : Int) (w : World) (h1 : 0 ≤ s) (h2 : s < 315537897600) :
    Calls Tryz.prog 160 #[.agg #[.int .i64 s, .int .i64 0], .int .i64 9223372036854775807] w fun e w' => e = .returned (.agg #[.int .i64 (s + 9223372036), .int .i64 854775807]) ∧ Below w.heap.size w w' := by
  go_enter Tryz.func160, Tryz.ntmps160
  go_wp2
  go_quiet (fail)
  go_wp2
  exact bodyPost_ret (v := .agg #[.int .i64 (s + 9223372036), .int .i64 854775807]) (by simp [results, Tryz.results160, go_sem]) rfl ⟨rfl, ((pw_drewN below_a2 _).setCell (by simp) _).setCell (by simp) _⟩

theorem below_a2' {w : World} {o p : Obj} : Below w.heap.size w ((w.alloc o).alloc p) := below_a2
set_option maxHeartbeats 400000 in
theorem before_any (s n t m : Int) (w : World) :
    Calls Tryz.prog 275 #[.agg #[.int .i64 s, .int .i64 n], .agg #[.int .i64 t, .int .i64 m]] w fun e w' => e = .returned (.bool (decide (s < t) || (decide (s = t) && decide (n < m)))) ∧ Below w.heap.size w w' := by
  by_cases h1 : s < t
  · go_enter Tryz.func275, Tryz.ntmps275
    go_wp2
    go_ret
    exact ⟨by simp [h1], below_a2⟩
  · by_cases h2 : s = t
    · subst h2
      by_cases h3 : n < m
      all_goals
        go_enter Tryz.func275, Tryz.ntmps275
        go_wp2
        go_ret
        exact ⟨by simp [h3], below_a2⟩
    · have h2b : (s == t) = false := by simpa using h2
      go_enter Tryz.func275, Tryz.ntmps275
      go_wp2
      go_ret
      exact ⟨by simp [h1], below_a2⟩

/-- A date of the years 1 to 9999 as a moment. -/
def secs (y m d h mi s : Int) : Int := Cal.num y m d * 86400 + h * 3600 + mi * 60 + s
theorem num_bd {y m d : Int} (y1 : 1 ≤ y) (y2 : y ≤ 9999) (m1 : 1 ≤ m) (m2 : m ≤ 12) (d1 : 1 ≤ d) (d2 : d ≤ Cal.mdays y m) : 0 ≤ Cal.num y m d ∧ Cal.num y m d < 3652059 := by
  have c := Cal.cum_succ y m m1 m2
  have c1 := Cal.cum_mono y (a := 1) (b := m) (by omega) m1 (by omega)
  have c2 := Cal.cum_mono y (a := m + 1) (b := 13) (by omega) (by omega) (by omega)
  rw [Cal.cum_one] at c1
  rw [Cal.cum_last] at c2
  have b1 := Cal.dby_mono 1 y y1
  have b2 := Cal.dby_mono (y + 1) 10000 (by omega)
  have b3 := Cal.dby_succ y
  have e : Cal.dby 10000 = 3652059 := by decide
  rw [Cal.dby_one] at b1
  unfold Cal.num
  omega

set_option maxHeartbeats 1000000 in
theorem dateOf_any (y m d h mi s : Int) (w : World) (y1 : 1 ≤ y) (y2 : y ≤ 9999) (m1 : 1 ≤ m) (m2 : m ≤ 12) (d1 : 1 ≤ d) (d2 : d ≤ 366) (h1 : 0 ≤ h) (h2 : h ≤ 23) (i1 : 0 ≤ mi) (i2 : mi ≤ 59) (s1 : 0 ≤ s) (s2 : s ≤ 59) :
    Calls Tryz.prog 168 #[.int .i64 y, .int .i64 m, .int .i64 d, .int .i64 h, .int .i64 mi, .int .i64 s, .int .i64 0, .agg #[]] w fun e w' => e = .returned (.agg #[.int .i64 (secs y m d h mi s), .int .i64 0]) ∧ Below w.heap.size w w' := by
  have f1 := fun w : World => floor_any (m - 1) 12 w (by omega) (by omega) (by omega)
  have e1 : (m - 1) / 12 = 0 := by omega
  rw [e1] at f1
  have F1 := Lib.hid f1
  have F2 := Lib.hid fun w : World => daysTo_any y w (by omega) (by omega)
  have F3 := Lib.hid fun w : World => floor_any 0 1000000000 w (by omega) (by omega) (by omega)
  have b1 := Cal.dby_bd y (by omega) (by omega)
  clear f1 e1
  obtain ⟨D, hD⟩ : ∃ D, D = Cal.dby y := ⟨_, rfl⟩
  rw [← hD] at F2 b1
  have HE : Hid (∀ c, c = Cal.cum y m → (D + d - 1 + c) * 86400 + h * 3600 + mi * 60 + s = secs y m d h mi s) := by
    intro c hc
    unfold secs Cal.num
    rw [hc, hD]
    congr 3
    omega
  clear hD
  go_enter Tryz.func168, Tryz.ntmps168
  go_wp2_with fail
  refine (F1.out _).mono ?_; rintro e w' ⟨rfl, rfl⟩
  go_wp2_with fail
  refine (F1.out _).mono ?_; rintro e w' ⟨rfl, rfl⟩
  go_wp2_with fail
  refine (F2.out _).mono ?_; rintro e w' ⟨rfl, rfl⟩
  go_wp2_with fail
  go_loop [19, 20] (fun u v => ∃ k : Int, 1 ≤ k ∧ k ≤ m ∧ v = .int .i64 k ∧ u = .int .i64 (D + d - 1 + Cal.cum y k)) (fun _ v => (13 - intOf v).toNat)
  case atStart => exact ⟨1, by omega, by omega, rfl, by rw [Cal.cum_one]; simp⟩
  case round =>
    obtain ⟨k, k1, k2, rfl, rfl⟩ := hrel
    have cs := Cal.cum_succ y k k1 (by omega)
    have cb := Cal.cum_bd y k (by omega)
    have db := Cal.mdays_bd y k
    by_cases hk : k = m
    · have hlt : ¬ k ≤ m - 1 := by omega
      have HC : Hid (k = m) := hk
      clear cs hk
      go_wp2_with fail
      refine (F3.out _).mono ?_; rintro e w' ⟨rfl, rfl⟩
      go_wp2_with fail
      exact bodyPost_ret (v := .agg #[.int .i64 ((D + d - 1 + Cal.cum y k) * 86400 + h * 3600 + mi * 60 + s), .int .i64 0]) (by simp [results, Tryz.results168, go_sem]) rfl ⟨by rw [HE.out _ (by rw [HC.out])], below_a2⟩
    · have hlt : k ≤ m - 1 := by omega
      have CS := Lib.hid cs
      clear cs hk
      go_wp2_with (go_at_call 204; refine (monthDays_any _ _ _ (by omega) (by omega)).mono ?_; rintro e w' ⟨rfl, rfl⟩)
      go_round
      case rel => exact ⟨k + 1, by omega, by omega, rfl, by rw [CS.out]; go_num⟩
      case measure => simp [intOf]; omega
end Go.Proofs.YtnlpjncljbaapaaGreatDoor
