/- spec.Number, spec.Seconds, spec.ReadDate, walked. -/
import Derived.Test.YtnlpjncljbaapaaGreatDoorCu
import Derived.Test.YtnlpjncljbaapaaGreatDoorLb
namespace Go.Proofs.YtnlpjncljbaapaaGreatDoor
open Go.RowKit

theorem cum_next (y : Int) (k : Nat) (h1 : 1 ≤ k) (h2 : k ≤ 11) : Cal.cum y ((k + 1 : Nat) : Int) = Cal.cum y (k : Int) + Cal.mdays y (k : Int) := by
  have h : k = 1 ∨ k = 2 ∨ k = 3 ∨ k = 4 ∨ k = 5 ∨ k = 6 ∨ k = 7 ∨ k = 8 ∨ k = 9 ∨ k = 10 ∨ k = 11 := by omega
  rcases h with h | h | h | h | h | h | h | h | h | h | h <;> subst h <;> simp [Cal.cum, Cal.mdays] <;> omega
set_option maxRecDepth 100000 in
set_option maxHeartbeats 4000000 in
theorem secs83_any (n h mi s : Int) (w : World) (h0 : 0 ≤ n ∧ n ≤ 4000000) (h1 : 0 ≤ h ∧ h ≤ 23) (h2 : 0 ≤ mi ∧ mi ≤ 59) (h3 : 0 ≤ s ∧ s ≤ 59) :
    Calls Tryz.prog 83 #[.agg #[.int .i64 n, .int .i64 h, .int .i64 mi, .int .i64 s]] w fun e w' => e = .returned (.int .i64 (n * 86400 + h * 3600 + mi * 60 + s)) ∧ Below w.heap.size w w' := by
  have hB := below_a1 (w := w) (o := .cells #[.int .i64 n, .int .i64 h, .int .i64 mi, .int .i64 s] 78)
  go_enter Tryz.func83, Tryz.ntmps83
  go_wp2_with fail
  go_ret
  exact ⟨rfl, hB⟩
set_option maxRecDepth 100000 in
set_option maxHeartbeats 4000000 in
theorem num84_any (y m d : Int) (mn : Nat) (w : World) (hm : m = (mn : Int)) (y1 : 1 ≤ y) (y2 : y ≤ 9999) (m1 : 1 ≤ mn) (m2 : mn ≤ 12) (d1 : 1 ≤ d) (d2 : d ≤ 31) :
    Calls Tryz.prog 84 #[.agg #[.int .i64 y, .int .i64 m, .int .i64 d]] w fun e w' => e = .returned (.int .i64 (Cal.num y m d)) ∧ Below w.heap.size w w' := by
  subst hm
  have hB := below_a1 (w := w) (o := .cells #[.int .i64 y, .int .i64 (mn : Int), .int .i64 d] 81)
  have a0 : (w.alloc (.cells #[.int .i64 y, .int .i64 (mn : Int), .int .i64 d] 81)).cell? ⟨w.heap.size, 0, none⟩ = some (.int .i64 y) := cell_new rfl
  have a1 : (w.alloc (.cells #[.int .i64 y, .int .i64 (mn : Int), .int .i64 d] 81)).cell? ⟨w.heap.size, 1, none⟩ = some (.int .i64 (mn : Int)) := cell_new rfl
  have a2 : (w.alloc (.cells #[.int .i64 y, .int .i64 (mn : Int), .int .i64 d] 81)).cell? ⟨w.heap.size, 2, none⟩ = some (.int .i64 d) := cell_new rfl
  have HD := Lib.hid fun W : World => sBefore_any y W y1 (by omega)
  have HMD := Lib.hid fun (k : Int) (W : World) => sMonthDays_any k y W y1 (by omega)
  have hdb : 0 ≤ Cal.dby y ∧ Cal.dby y ≤ 4000000 := by unfold Cal.dby; omega
  have HBD := Lib.hid fun (k : Int) => Cal.mdays_bd y k
  have HCM := Lib.hid fun (k : Nat) (h1 : 1 ≤ k) (h2 : k ≤ 11) => cum_next y k h1 h2
  have HNUM := Lib.hid (show Cal.num y mn d = Cal.dby y + Cal.cum y mn + d - 1 from rfl)
  have hc1 : Cal.cum y ((1 : Nat) : Int) = 0 := by simp [Cal.cum]
  go_enter Tryz.func84, Tryz.ntmps84
  go_upto_region 1 with fail
  generalize w.alloc (.cells #[.int .i64 y, .int .i64 (mn : Int), .int .i64 d] 81) = w1 at *
  have HB := Lib.hid hB
  clear hB
  go_wp2_with fail
  refine (HD.out _).mono ?_; rintro e w2 ⟨rfl, rfl⟩
  have HC1 := Lib.hid hc1
  clear hc1
  go_wp2_with fail
  generalize Cal.dby y = D at *
  go_loop [3, 4] (fun u v => ∃ k : Nat, 1 ≤ k ∧ k ≤ mn ∧ v = .int .i64 k ∧ u = .int .i64 (D + Cal.cum y k) ∧ 0 ≤ Cal.cum y k ∧ Cal.cum y k ≤ 31 * (k - 1)) (fun _ v => mn - (intOf v).toNat)
  case atStart => exact ⟨1, Nat.le_refl _, m1, rfl, by rw [HC1.out, Int.add_zero], by rw [HC1.out]; exact Int.le_refl _, by rw [HC1.out]; decide⟩
  case round =>
    obtain ⟨k, hk1, hk, rfl, rfl, c0, c1⟩ := hrel
    by_cases hkm : k < mn
    · have hn := HCM.out k hk1 (by omega)
      have hb := HBD.out (k : Int)
      have HN := Lib.hid hn
      have hkmi : (k : Int) < (mn : Int) := by omega
      have hv : 28 ≤ Cal.mdays y k ∧ Cal.mdays y k ≤ 31 := hb
      have hn0 : 0 ≤ Cal.cum y k + Cal.mdays y k ∧ Cal.cum y k + Cal.mdays y k ≤ 31 * k := by omega
      clear hn hb
      go_wp2_with fail
      refine (HMD.out _ _).mono ?_; rintro e w3 ⟨rfl, rfl⟩
      go_wp2_with fail
      go_round
      case rel =>
        refine ⟨k + 1, by omega, by omega, by go_num, ?_, ?_, ?_⟩
        · rw [HN.out, Int.add_assoc]
        · rw [HN.out]; exact hn0.1
        · rw [HN.out]; omega
      case measure => simp [intOf]; omega
    · obtain rfl : k = mn := by omega
      go_wp2_with fail
      go_ret
      exact ⟨by rw [HNUM.out]; rfl, HB.out⟩
/-- What a date's digits say, one behind the other. -/
def dc (y m d h mi x : Int) : Nat → Int
  | 0 => y
  | 1 => m
  | 2 => d
  | 3 => h
  | 4 => mi
  | _ => x
def dcEnd : Nat → Int
  | 0 => 4
  | 1 => 6
  | 2 => 8
  | 3 => 11
  | 4 => 13
  | _ => 15
set_option maxRecDepth 100000 in
set_option maxHeartbeats 16000000 in
theorem readDate_any (t : Int) (h1 : 0 ≤ t) (h2 : t < 315537897600) (w : World) :
    Calls Tryz.prog 46 #[.string ⟨(dateL t).toArray⟩] w fun e w' => e = .returned (.tuple #[.int .i64 t, .bool true]) ∧ Below w.heap.size w w' := by
  have hd0 : 0 ≤ t / 86400 := by omega
  have hd1 : t / 86400 < 3652059 := by omega
  obtain ⟨y1, y2⟩ := Cal.year_bd hd0 hd1
  obtain ⟨m1, m2, g1, g2, hnum⟩ := Cal.date_ok (t / 86400)
  have md := Cal.mdays_bd (Cal.year (t / 86400)) (Cal.month (t / 86400))
  have hz : (⟨(dateL t).toArray⟩ : ByteArray).size = 16 := rfl
  have hb8 : ((((⟨(dateL t).toArray⟩ : ByteArray)[8]'(by rw [hz]; omega)).toNat : Int) != 84) = false := rfl
  have hb15 : ((((⟨(dateL t).toArray⟩ : ByteArray)[15]'(by rw [hz]; omega)).toNat : Int) != 90) = false := rfl
  have hdig : ∀ k (h : k < (⟨(dateL t).toArray⟩ : ByteArray).size), k ≠ 8 → k ≠ 15 → isDig ((⟨(dateL t).toArray⟩ : ByteArray)[k]) := fun k hk a b => by
    rw [hz] at hk
    have : k = 0 ∨ k = 1 ∨ k = 2 ∨ k = 3 ∨ k = 4 ∨ k = 5 ∨ k = 6 ∨ k = 7 ∨ k = 9 ∨ k = 10 ∨ k = 11 ∨ k = 12 ∨ k = 13 ∨ k = 14 := by omega
    rcases this with rfl | rfl | rfl | rfl | rfl | rfl | rfl | rfl | rfl | rfl | rfl | rfl | rfl | rfl <;> exact dg_dig _
  have D0 := Lib.hid fun W : World => (show Calls Tryz.prog 82 #[.string ⟨(dateL t).toArray⟩, .int .i64 0, .int .i64 4] W fun e w' => e = .returned (.tuple #[.int .i64 (Cal.year (t / 86400)), .bool true]) ∧ W = w' from by
    have := sdigits_any ⟨(dateL t).toArray⟩ 0 4 W (by omega) (by rw [hz]; omega) (by omega) (by rw [hz]; omega) (fun k hk a b => hdig k hk (by omega) (by omega))
    rw [show dv (((⟨(dateL t).toArray⟩ : ByteArray).data.toList.take 4).drop 0) = Cal.year (t / 86400) from dv_4 _ (by omega) y2] at this
    exact this)
  have D1 := Lib.hid fun W : World => (show Calls Tryz.prog 82 #[.string ⟨(dateL t).toArray⟩, .int .i64 4, .int .i64 6] W fun e w' => e = .returned (.tuple #[.int .i64 (Cal.month (t / 86400)), .bool true]) ∧ W = w' from by
    have := sdigits_any ⟨(dateL t).toArray⟩ 4 6 W (by omega) (by rw [hz]; omega) (by omega) (by rw [hz]; omega) (fun k hk a b => hdig k hk (by omega) (by omega))
    rw [show dv (((⟨(dateL t).toArray⟩ : ByteArray).data.toList.take 6).drop 4) = Cal.month (t / 86400) from dv_2 _ (by omega) (by omega)] at this
    exact this)
  have D2 := Lib.hid fun W : World => (show Calls Tryz.prog 82 #[.string ⟨(dateL t).toArray⟩, .int .i64 6, .int .i64 8] W fun e w' => e = .returned (.tuple #[.int .i64 (Cal.date (t / 86400)), .bool true]) ∧ W = w' from by
    have := sdigits_any ⟨(dateL t).toArray⟩ 6 8 W (by omega) (by rw [hz]; omega) (by omega) (by rw [hz]; omega) (fun k hk a b => hdig k hk (by omega) (by omega))
    rw [show dv (((⟨(dateL t).toArray⟩ : ByteArray).data.toList.take 8).drop 6) = Cal.date (t / 86400) from dv_2 _ (by omega) (by omega)] at this
    exact this)
  have D3 := Lib.hid fun W : World => (show Calls Tryz.prog 82 #[.string ⟨(dateL t).toArray⟩, .int .i64 9, .int .i64 11] W fun e w' => e = .returned (.tuple #[.int .i64 (t % 86400 / 3600), .bool true]) ∧ W = w' from by
    have := sdigits_any ⟨(dateL t).toArray⟩ 9 11 W (by omega) (by rw [hz]; omega) (by omega) (by rw [hz]; omega) (fun k hk a b => hdig k hk (by omega) (by omega))
    rw [show dv (((⟨(dateL t).toArray⟩ : ByteArray).data.toList.take 11).drop 9) = t % 86400 / 3600 from dv_2 _ (by omega) (by omega)] at this
    exact this)
  have D4 := Lib.hid fun W : World => (show Calls Tryz.prog 82 #[.string ⟨(dateL t).toArray⟩, .int .i64 11, .int .i64 13] W fun e w' => e = .returned (.tuple #[.int .i64 (t % 86400 / 60 % 60), .bool true]) ∧ W = w' from by
    have := sdigits_any ⟨(dateL t).toArray⟩ 11 13 W (by omega) (by rw [hz]; omega) (by omega) (by rw [hz]; omega) (fun k hk a b => hdig k hk (by omega) (by omega))
    rw [show dv (((⟨(dateL t).toArray⟩ : ByteArray).data.toList.take 13).drop 11) = t % 86400 / 60 % 60 from dv_2 _ (by omega) (by omega)] at this
    exact this)
  have D5 := Lib.hid fun W : World => (show Calls Tryz.prog 82 #[.string ⟨(dateL t).toArray⟩, .int .i64 13, .int .i64 15] W fun e w' => e = .returned (.tuple #[.int .i64 (t % 86400 % 60), .bool true]) ∧ W = w' from by
    have := sdigits_any ⟨(dateL t).toArray⟩ 13 15 W (by omega) (by rw [hz]; omega) (by omega) (by rw [hz]; omega) (fun k hk a b => hdig k hk (by omega) (by omega))
    rw [show dv (((⟨(dateL t).toArray⟩ : ByteArray).data.toList.take 15).drop 13) = t % 86400 % 60 from dv_2 _ (by omega) (by omega)] at this
    exact this)
  obtain ⟨mn, hmn⟩ : ∃ mn : Nat, Cal.month (t / 86400) = (mn : Int) := ⟨(Cal.month (t / 86400)).toNat, by omega⟩
  have FM := Lib.hid fun W : World => sMonthDays_any (Cal.month (t / 86400)) (Cal.year (t / 86400)) W y1 (by omega)
  have FN := Lib.hid fun W : World => num84_any (Cal.year (t / 86400)) (Cal.month (t / 86400)) (Cal.date (t / 86400)) mn W hmn y1 y2 (by omega) (by omega) g1 (by omega)
  rw [hnum] at FN
  have FS := Lib.hid fun W : World => secs83_any (t / 86400) (t % 86400 / 3600) (t % 86400 / 60 % 60) (t % 86400 % 60) W (by omega) (by omega) (by omega) (by omega)
  rw [show t / 86400 * 86400 + t % 86400 / 3600 * 3600 + t % 86400 / 60 % 60 * 60 + t % 86400 % 60 = t by omega] at FS
  have n0 : decide (Cal.year (t / 86400) < 1) = false := by simp; omega
  have n1 : decide (Cal.month (t / 86400) < 1) = false := by simp; omega
  have n2 : decide (12 < Cal.month (t / 86400)) = false := by simp; omega
  have n3 : decide (Cal.date (t / 86400) < 1) = false := by simp; omega
  have n4 : decide (Cal.mdays (Cal.year (t / 86400)) (Cal.month (t / 86400)) < Cal.date (t / 86400)) = false := by simp; omega
  have n5 : decide (23 < t % 86400 / 3600) = false := by simp; omega
  have n6 : decide (59 < t % 86400 / 60 % 60) = false := by simp; omega
  have n7 : decide (59 < t % 86400 % 60) = false := by simp; omega
  clear hnum hmn hdig y1 y2 m1 m2 g1 g2 md hd0 hd1 h1 h2
  generalize Cal.mdays (Cal.year (t / 86400)) (Cal.month (t / 86400)) = mdv at *
  generalize Cal.year (t / 86400) = y at *
  generalize Cal.month (t / 86400) = m at *
  generalize Cal.date (t / 86400) = d at *
  generalize t % 86400 / 3600 = h at *
  generalize t % 86400 / 60 % 60 = mi at *
  generalize t % 86400 % 60 = x at *
  generalize t / 86400 = dn at *
  generalize (⟨(dateL t).toArray⟩ : ByteArray) = s at *
  have hrow := World.rowIs_alloc w #[.int .i64 0, .int .i64 0, .int .i64 0, .int .i64 0, .int .i64 0, .int .i64 0] 144 (fun _ => .int .i64 0) (fun i hi => by
    have : i = 0 ∨ i = 1 ∨ i = 2 ∨ i = 3 ∨ i = 4 ∨ i = 5 := by have : i < 6 := hi; omega
    rcases this with rfl | rfl | rfl | rfl | rfl | rfl <;> rfl)
  have hb1 := below_a1 (w := w) (o := .cells #[.int .i64 0, .int .i64 0, .int .i64 0, .int .i64 0, .int .i64 0, .int .i64 0] 144)
  go_enter Tryz.func46, Tryz.ntmps46
  go_upto_region 4 with fail
  have hrow2 := hrow.alloc (.cells #[.int .i64 4, .int .i64 6, .int .i64 8, .int .i64 11, .int .i64 13, .int .i64 15] 3)
  have hb2 := hb1.alloc (by simp) (.cells #[.int .i64 4, .int .i64 6, .int .i64 8, .int .i64 11, .int .i64 13, .int .i64 15] 3)
  have hl : ∀ i, i < 6 → ((w.alloc (.cells #[.int .i64 0, .int .i64 0, .int .i64 0, .int .i64 0, .int .i64 0, .int .i64 0] 144)).alloc (.cells #[.int .i64 4, .int .i64 6, .int .i64 8, .int .i64 11, .int .i64 13, .int .i64 15] 3)).cell? ⟨w.heap.size + 1, i, none⟩ = some (.int .i64 (dcEnd i)) := fun i hi => by
    have e : (w.alloc (.cells #[.int .i64 0, .int .i64 0, .int .i64 0, .int .i64 0, .int .i64 0, .int .i64 0] 144)).heap.size = w.heap.size + 1 := by simp
    rw [← e, cell_new rfl]
    have : i = 0 ∨ i = 1 ∨ i = 2 ∨ i = 3 ∨ i = 4 ∨ i = 5 := by omega
    rcases this with rfl | rfl | rfl | rfl | rfl | rfl <;> rfl
  have hz2 : ((w.alloc (.cells #[.int .i64 0, .int .i64 0, .int .i64 0, .int .i64 0, .int .i64 0, .int .i64 0] 144)).alloc (.cells #[.int .i64 4, .int .i64 6, .int .i64 8, .int .i64 11, .int .i64 13, .int .i64 15] 3)).heap.size = w.heap.size + 2 := by simp
  clear hrow hb1
  go_wp2_with fail
  generalize ((w.alloc (.cells #[.int .i64 0, .int .i64 0, .int .i64 0, .int .i64 0, .int .i64 0, .int .i64 0] 144)).alloc (.cells #[.int .i64 4, .int .i64 6, .int .i64 8, .int .i64 11, .int .i64 13, .int .i64 15] 3)) = w2 at *
  obtain ⟨N, hN⟩ : ∃ N, N = w.heap.size := ⟨_, rfl⟩
  have hbN : Below N w w2 := by rw [hN]; exact hb2
  have HNE := Lib.hid hN
  rw [← hN] at hrow2 hl hz2 ⊢
  have HB2 := Lib.hid hbN
  have HR2 := Lib.hid hrow2
  have HL2 := Lib.hid hl
  have hNw : N ≤ w2.heap.size := by omega
  have hN1 : N + 1 < w2.heap.size := by omega
  clear hb2 hbN hrow2 hl hz2 hN
  go_loopw [5, 6, 7, 8, 9, 25] (fun _ _ _ _ _ v wr => ∃ k : Nat, k ≤ 6 ∧ v = .int .i64 k ∧ Hid (wr.rowIs N 144 6 (fun i => .int .i64 (if i < k then dc y m d h mi x i else 0))) ∧ Hid (Ch (fun i => i = N) w2 wr)) (fun _ _ _ _ _ v _ => 6 - (intOf v).toNat)
  case atStart => exact ⟨0, Nat.zero_le _, rfl, Lib.hid (by simpa using HR2.out), Lib.hid (.refl _ _)⟩
  case round =>
    obtain ⟨k, hk, rfl, HR, HC⟩ := hrel
    have hcl : ∀ i, i < 6 → wr.cell? ⟨N + 1, i, none⟩ = some (.int .i64 (dcEnd i)) := fun i hi => (HC.out.cell hN1 (by show ¬ N + 1 = N; omega)).trans (HL2.out i hi)
    by_cases hk6 : k < 6
    · have hfz := HR.out.frozen k
      have hc := hcl k hk6
      have hold := HR.out.cell hk6
      have HR' := Lib.hid fun v => HR.out.set k v
      clear hcl
      have hk' : k = 0 ∨ k = 1 ∨ k = 2 ∨ k = 3 ∨ k = 4 ∨ k = 5 := by omega
      rcases hk' with rfl | rfl | rfl | rfl | rfl | rfl
      · replace hc : wr.cell? ⟨N + 1, 0, none⟩ = some (.int .i64 4) := hc
        go_wp2_with fail
        refine (D0.out _).mono ?_; rintro e w3 ⟨rfl, rfl⟩
        go_wp2_with fail
        go_roundw
        case rel =>
          refine ⟨1, by omega, by go_num, Lib.hid ((HR'.out (.int .i64 y)).congr fun i hi => ?_), Lib.hid (HC.out.trans (.set rfl))⟩
          have : i = 0 ∨ i = 1 ∨ i = 2 ∨ i = 3 ∨ i = 4 ∨ i = 5 := by omega
          rcases this with rfl | rfl | rfl | rfl | rfl | rfl <;> simp [dc]
        case measure => simp [intOf]
      · replace hc : wr.cell? ⟨N + 1, 1, none⟩ = some (.int .i64 6) := hc
        go_wp2_with fail
        refine (D1.out _).mono ?_; rintro e w3 ⟨rfl, rfl⟩
        go_wp2_with fail
        go_roundw
        case rel =>
          refine ⟨2, by omega, by go_num, Lib.hid ((HR'.out (.int .i64 m)).congr fun i hi => ?_), Lib.hid (HC.out.trans (.set rfl))⟩
          have : i = 0 ∨ i = 1 ∨ i = 2 ∨ i = 3 ∨ i = 4 ∨ i = 5 := by omega
          rcases this with rfl | rfl | rfl | rfl | rfl | rfl <;> simp [dc]
        case measure => simp [intOf]
      · replace hc : wr.cell? ⟨N + 1, 2, none⟩ = some (.int .i64 8) := hc
        go_wp2_with fail
        refine (D2.out _).mono ?_; rintro e w3 ⟨rfl, rfl⟩
        go_wp2_with fail
        go_roundw
        case rel =>
          refine ⟨3, by omega, by go_num, Lib.hid ((HR'.out (.int .i64 d)).congr fun i hi => ?_), Lib.hid (HC.out.trans (.set rfl))⟩
          have : i = 0 ∨ i = 1 ∨ i = 2 ∨ i = 3 ∨ i = 4 ∨ i = 5 := by omega
          rcases this with rfl | rfl | rfl | rfl | rfl | rfl <;> simp [dc]
        case measure => simp [intOf]
      · replace hc : wr.cell? ⟨N + 1, 3, none⟩ = some (.int .i64 11) := hc
        go_wp2_with fail
        refine (D3.out _).mono ?_; rintro e w3 ⟨rfl, rfl⟩
        go_wp2_with fail
        go_roundw
        case rel =>
          refine ⟨4, by omega, by go_num, Lib.hid ((HR'.out (.int .i64 h)).congr fun i hi => ?_), Lib.hid (HC.out.trans (.set rfl))⟩
          have : i = 0 ∨ i = 1 ∨ i = 2 ∨ i = 3 ∨ i = 4 ∨ i = 5 := by omega
          rcases this with rfl | rfl | rfl | rfl | rfl | rfl <;> simp [dc]
        case measure => simp [intOf]
      · replace hc : wr.cell? ⟨N + 1, 4, none⟩ = some (.int .i64 13) := hc
        go_wp2_with fail
        refine (D4.out _).mono ?_; rintro e w3 ⟨rfl, rfl⟩
        go_wp2_with fail
        go_roundw
        case rel =>
          refine ⟨5, by omega, by go_num, Lib.hid ((HR'.out (.int .i64 mi)).congr fun i hi => ?_), Lib.hid (HC.out.trans (.set rfl))⟩
          have : i = 0 ∨ i = 1 ∨ i = 2 ∨ i = 3 ∨ i = 4 ∨ i = 5 := by omega
          rcases this with rfl | rfl | rfl | rfl | rfl | rfl <;> simp [dc]
        case measure => simp [intOf]
      · replace hc : wr.cell? ⟨N + 1, 5, none⟩ = some (.int .i64 15) := hc
        go_wp2_with fail
        refine (D5.out _).mono ?_; rintro e w3 ⟨rfl, rfl⟩
        go_wp2_with fail
        go_roundw
        case rel =>
          refine ⟨6, by omega, by go_num, Lib.hid ((HR'.out (.int .i64 x)).congr fun i hi => ?_), Lib.hid (HC.out.trans (.set rfl))⟩
          have : i = 0 ∨ i = 1 ∨ i = 2 ∨ i = 3 ∨ i = 4 ∨ i = 5 := by omega
          rcases this with rfl | rfl | rfl | rfl | rfl | rfl <;> simp [dc]
        case measure => simp [intOf]
    · obtain rfl : k = 6 := by omega
      have q0 : wr.cell? ⟨N, 0, none⟩ = some (.int .i64 y) := HR.out.cell (i := 0) (by omega)
      have q1 : wr.cell? ⟨N, 1, none⟩ = some (.int .i64 m) := HR.out.cell (i := 1) (by omega)
      have q2 : wr.cell? ⟨N, 2, none⟩ = some (.int .i64 d) := HR.out.cell (i := 2) (by omega)
      have q3 : wr.cell? ⟨N, 3, none⟩ = some (.int .i64 h) := HR.out.cell (i := 3) (by omega)
      have q4 : wr.cell? ⟨N, 4, none⟩ = some (.int .i64 mi) := HR.out.cell (i := 4) (by omega)
      have q5 : wr.cell? ⟨N, 5, none⟩ = some (.int .i64 x) := HR.out.cell (i := 5) (by omega)
      have HBr := Lib.hid (show Below N w wr from HC.out.below HB2.out (fun i hi => Nat.le_of_eq hi.symm) hNw)
      have hNr : N ≤ wr.heap.size := Nat.le_trans hNw HC.out.size
      clear hcl HR D0 D1 D2 D3 D4 D5
      clear HB2 HR2 HL2 HC hN1 hNw
      go_upto_region 15 with fail
      go_quiet ((go_at_call 64; exact Calls.quiet_of_same ((FM.out _).mono fun e w' h => ⟨h.1, h.2.symm⟩)))
      go_upto_region 17 with fail
      have HBq := Lib.hid (pw_drewN HBr.out nq)
      have hNq : N ≤ (wr.drewN nq).heap.size := by rw [World.heap_drewN]; exact hNr
      have p0 : (wr.drewN nq).cell? ⟨N, 0, none⟩ = some (.int .i64 y) := by simpa using q0
      have p1 : (wr.drewN nq).cell? ⟨N, 1, none⟩ = some (.int .i64 m) := by simpa using q1
      have p2 : (wr.drewN nq).cell? ⟨N, 2, none⟩ = some (.int .i64 d) := by simpa using q2
      have p3 : (wr.drewN nq).cell? ⟨N, 3, none⟩ = some (.int .i64 h) := by simpa using q3
      have p4 : (wr.drewN nq).cell? ⟨N, 4, none⟩ = some (.int .i64 mi) := by simpa using q4
      have p5 : (wr.drewN nq).cell? ⟨N, 5, none⟩ = some (.int .i64 x) := by simpa using q5
      clear q0 q1 q2 q3 q4 q5 hNr HBr
      generalize wr.drewN nq = w3 at *
      have k0 := cell_regrown p0
      have k1 := cell_regrown p1
      have k2 := cell_regrown p2
      have k3 := cell_regrown p3
      have k4 := cell_regrown p4
      have k5 := cell_regrown p5
      have C1 := Lib.hid fun (d : Nat) (os : Array Obj) => Calls.regrown_of (w := w3) (d := d) (os := os) (FN.out _)
      have C2 := Lib.hid fun (d : Nat) (os : Array Obj) => Calls.regrown_of (w := w3) (d := d) (os := os) (FS.out _)
      clear p0 p1 p2 p3 p4 p5 FN FS FM
      refine wp_region_quiet_below (by kernel_rfl) (by kernel_rfl) ?_
      iterate 8 (quiet_step (exact C1.out _ _))
      iterate 10 (quiet_step (exact C2.out _ _))
      refine wpQuiet_nil ?_
      intro _ hw'
      obtain ⟨⟨dq, osq⟩, hw''⟩ := hw'
      subst hw''
      go_wp2
      go_ret2
      exact ⟨rfl, by rw [← HNE.out]; exact HBq.out.trans ((below_regrown w3 dq osq).mono hNq)⟩
end Go.Proofs.YtnlpjncljbaapaaGreatDoor
