/- The specification's dates, written. -/
import Derived.Test.YtnlpjncljbaapaaGreatDoorSc
import Derived.Lib.ItoaLen
import Derived.Lib.QuietBelow
import Derived.Lib.AppendIntMem
namespace Go.Proofs.YtnlpjncljbaapaaGreatDoor
open Go.RowKit Go.Sort

def zp (k : Nat) (l : List UInt8) : List UInt8 := List.replicate (k - l.length) 48 ++ l
theorem cell_new {W : World} {c : Array Value} {t : TypeId} {b i : Nat} (hb : b = W.heap.size) : (W.alloc (.cells c t)).cell? ⟨b, i, none⟩ = c[i]? := by subst hb; simp
theorem cell_old {W : World} {o : Obj} {b i : Nat} (hb : b < W.heap.size) : (W.alloc o).cell? ⟨b, i, none⟩ = W.cell? ⟨b, i, none⟩ := World.cell?_alloc_lt _ _ _ hb
theorem dg_nat (u : Nat) : dg (u : Int) = UInt8.ofNat (48 + u % 10) := by
  unfold dg
  congr 1
theorem dec1 {u : Nat} (h : u < 10) : Lib.decDigits u = [UInt8.ofNat (48 + u)] := by rw [Lib.decDigits, dif_pos h]
theorem decS {u : Nat} (h : ¬ u < 10) : Lib.decDigits u = Lib.decDigits (u / 10) ++ [UInt8.ofNat (48 + u % 10)] := by rw [Lib.decDigits, dif_neg h]
theorem zp2 (n : Int) (h0 : 0 ≤ n) (h1 : n < 100) : zp 2 (Lib.itoa n) = [dg (n / 10), dg n] := by
  obtain ⟨u, rfl⟩ := Int.eq_ofNat_of_zero_le h0
  rw [Lib.itoa_nonneg, show ((u : Int) / 10) = ((u / 10 : Nat) : Int) by omega, dg_nat, dg_nat]
  by_cases h : u < 10
  · have e1 : u / 10 = 0 := by omega
    have e2 : u % 10 = u := by omega
    rw [dec1 h, e1, e2]
    rfl
  · have e2 : u / 10 % 10 = u / 10 := by omega
    rw [decS h, dec1 (by omega), e2]
    rfl
theorem zp4 (n : Int) (h0 : 0 ≤ n) (h1 : n < 10000) : zp 4 (Lib.itoa n) = [dg (n / 1000), dg (n / 100), dg (n / 10), dg n] := by
  obtain ⟨u, rfl⟩ := Int.eq_ofNat_of_zero_le h0
  rw [Lib.itoa_nonneg, show ((u : Int) / 10) = ((u / 10 : Nat) : Int) by omega, show ((u : Int) / 100) = ((u / 100 : Nat) : Int) by omega, show ((u : Int) / 1000) = ((u / 1000 : Nat) : Int) by omega, dg_nat, dg_nat, dg_nat, dg_nat]
  have d2 : u / 10 / 10 = u / 100 := by omega
  have d3 : u / 100 / 10 = u / 1000 := by omega
  by_cases h : u < 10
  · rw [dec1 h, show u / 1000 = 0 by omega, show u / 100 = 0 by omega, show u / 10 = 0 by omega, show u % 10 = u by omega]
    rfl
  by_cases h2 : u < 100
  · rw [decS h, dec1 (by omega), show u / 1000 = 0 by omega, show u / 100 = 0 by omega, show u / 10 % 10 = u / 10 by omega]
    rfl
  by_cases h3 : u < 1000
  · rw [decS h, decS (by omega), dec1 (by omega), d2, show u / 1000 = 0 by omega, show u / 100 % 10 = u / 100 by omega]
    rfl
  · rw [decS h, decS (by omega), decS (by omega), dec1 (by omega), d2, d3, show u / 1000 % 10 = u / 1000 by omega]
    rfl
set_option maxHeartbeats 1000000 in
theorem itoa_any (n : Int) (h0 : -9223372036854775808 ≤ n) (h1 : n ≤ 9223372036854775807) (w : World) (hG : Glob w) : Calls Tryz.prog 65 #[.int .i64 n] w fun e w' => e = .returned (.string ⟨(Lib.itoa n).toArray⟩) ∧ Below w.heap.size w w' :=
  (Tryz.strconv_Itoa n h0 h1 w hG.pow).mono fun e w' ⟨he, k, os, hw⟩ => ⟨he, by rw [hw]; exact Lib.below_grow _ _ (Nat.le_refl _) _ _⟩
set_option maxHeartbeats 1000000 in
theorem padded_any (n : Int) (k : Nat) (h0 : 0 ≤ n) (h1 : n ≤ 100000) (hk : k ≤ 10) (w : World) (hG : Glob w) :
    Calls Tryz.prog 38 #[.int .i64 n, .int .i64 (k : Int)] w fun e w' => e = .returned (.string ⟨(zp k (Lib.itoa n)).toArray⟩) ∧ Below w.heap.size w w' := by
  have HI := Lib.hid (itoa_any n (by omega) (by omega) w hG)
  have hl : (Lib.itoa n).length ≤ 21 := Lib.itoa_length_le n (by omega) (by omega)
  have HZ : Hid (zp k (Lib.itoa n) = List.replicate (k - (Lib.itoa n).length) 48 ++ Lib.itoa n) := rfl
  generalize zp k (Lib.itoa n) = z at *
  generalize Lib.itoa n = l at *
  go_enter Tryz.func38, Tryz.ntmps38
  go_wp2_with fail
  refine HI.out.mono ?_; rintro e w1 ⟨rfl, hb⟩
  have HB := Lib.hid hb
  clear hb
  go_wp2_with fail
  go_loop [5] (fun v => ∃ j : Nat, v = .string ⟨(List.replicate j 48 ++ l).toArray⟩ ∧ (j = 0 ∨ j + l.length ≤ k)) (fun v => match v with | .string s => k - s.size | _ => 0)
  case atStart => exact ⟨0, rfl, .inl rfl⟩
  case round =>
    obtain ⟨j, rfl, hj⟩ := hrel
    have hsz : (⟨(List.replicate j 48 ++ l).toArray⟩ : ByteArray).size = j + l.length := by rw [Lib.size_eq]; simp
    by_cases hlt : j + l.length < k
    · go_wp2_with fail
      have hc : ((⟨#[48]⟩ : ByteArray) ++ ⟨(List.replicate j 48 ++ l).toArray⟩) = ⟨(List.replicate (j + 1) 48 ++ l).toArray⟩ := by
        apply ByteArray.ext
        simp [List.replicate_succ]
      rw [hc]
      go_round
      case rel => exact ⟨j + 1, rfl, .inr (by omega)⟩
      case measure =>
        show k - (⟨(List.replicate (j + 1) 48 ++ l).toArray⟩ : ByteArray).size < k - (⟨(List.replicate j 48 ++ l).toArray⟩ : ByteArray).size
        rw [hsz, Lib.size_eq]
        simp
        omega
    · go_wp2_with fail
      go_ret
      refine ⟨?_, HB.out⟩
      have : j = k - l.length := by omega
      rw [HZ.out, this]
      rfl
theorem padded2 (n : Int) (h0 : 0 ≤ n) (h1 : n ≤ 100000) (w : World) (hG : Glob w) :
    Calls Tryz.prog 38 #[.int .i64 n, .int .i64 2] w fun e w' => e = .returned (.string ⟨(zp 2 (Lib.itoa n)).toArray⟩) ∧ Below w.heap.size w w' := padded_any n 2 h0 h1 (by omega) w hG
theorem padded4 (n : Int) (h0 : 0 ≤ n) (h1 : n ≤ 100000) (w : World) (hG : Glob w) :
    Calls Tryz.prog 38 #[.int .i64 n, .int .i64 4] w fun e w' => e = .returned (.string ⟨(zp 4 (Lib.itoa n)).toArray⟩) ∧ Below w.heap.size w w' := padded_any n 4 h0 h1 (by omega) w hG
set_option maxRecDepth 100000 in
set_option maxHeartbeats 2000000 in
theorem dateText_any (t : Int) (h0 : 0 ≤ t) (h1 : t < 315537897600) (w : World) (hG : Glob w) :
    Calls Tryz.prog 14 #[.int .i64 t] w fun e w' => e = .returned (.string ⟨(dateL t).toArray⟩) ∧ Below w.heap.size w w' := by
  have HM := Lib.hid (momentOf_any t w h0 h1)
  have d0 : 0 ≤ t / 86400 := by omega
  have d1 : t / 86400 < 3652059 := by omega
  have HD := Lib.hid fun W : World => sDayOf_any (t / 86400) W d0 d1
  obtain ⟨y1, y2⟩ := Cal.year_bd d0 d1
  obtain ⟨m1, m2, e1, e2, _⟩ := Cal.date_ok (t / 86400)
  obtain ⟨_, e3⟩ := Cal.mdays_bd (Cal.year (t / 86400)) (Cal.month (t / 86400))
  have z1 := zp4 (Cal.year (t / 86400)) (by omega) (by omega)
  have z2 := zp2 (Cal.month (t / 86400)) (by omega) (by omega)
  have z3 := zp2 (Cal.date (t / 86400)) (by omega) (by omega)
  have z4 := zp2 (t % 86400 / 3600) (by omega) (by omega)
  have z5 := zp2 (t % 86400 / 60 % 60) (by omega) (by omega)
  have z6 := zp2 (t % 86400 % 60) (by omega) (by omega)
  have HL : Hid ((⟨(dateL t).toArray⟩ : ByteArray) = (⟨(zp 4 (Lib.itoa (Cal.year (t / 86400)))).toArray⟩ : ByteArray) ++ (⟨(zp 2 (Lib.itoa (Cal.month (t / 86400)))).toArray⟩ : ByteArray) ++ (⟨(zp 2 (Lib.itoa (Cal.date (t / 86400)))).toArray⟩ : ByteArray) ++ ⟨#[84]⟩ ++ (⟨(zp 2 (Lib.itoa (t % 86400 / 3600))).toArray⟩ : ByteArray) ++ (⟨(zp 2 (Lib.itoa (t % 86400 / 60 % 60))).toArray⟩ : ByteArray) ++ (⟨(zp 2 (Lib.itoa (t % 86400 % 60))).toArray⟩ : ByteArray) ++ ⟨#[90]⟩) := by
    rw [z1, z2, z3, z4, z5, z6]
    rfl
  have s1 : (⟨(zp 4 (Lib.itoa (Cal.year (t / 86400)))).toArray⟩ : ByteArray).size = 4 := by rw [z1]; rfl
  have s2 : (⟨(zp 2 (Lib.itoa (Cal.month (t / 86400)))).toArray⟩ : ByteArray).size = 2 := by rw [z2]; rfl
  have s3 : (⟨(zp 2 (Lib.itoa (Cal.date (t / 86400)))).toArray⟩ : ByteArray).size = 2 := by rw [z3]; rfl
  have s4 : (⟨(zp 2 (Lib.itoa (t % 86400 / 3600))).toArray⟩ : ByteArray).size = 2 := by rw [z4]; rfl
  have s5 : (⟨(zp 2 (Lib.itoa (t % 86400 / 60 % 60))).toArray⟩ : ByteArray).size = 2 := by rw [z5]; rfl
  have s6 : (⟨(zp 2 (Lib.itoa (t % 86400 % 60))).toArray⟩ : ByteArray).size = 2 := by rw [z6]; rfl
  clear z1 z2 z3 z4 z5 z6
  have P1 := Lib.hid fun W (hG : Glob W) => padded4 (Cal.year (t / 86400)) (by omega) (by omega) W hG
  have P2 := Lib.hid fun W (hG : Glob W) => padded2 (Cal.month (t / 86400)) (by omega) (by omega) W hG
  have P3 := Lib.hid fun W (hG : Glob W) => padded2 (Cal.date (t / 86400)) (by omega) (by omega) W hG
  have P4 := Lib.hid fun W (hG : Glob W) => padded2 (t % 86400 / 3600) (by omega) (by omega) W hG
  have P5 := Lib.hid fun W (hG : Glob W) => padded2 (t % 86400 / 60 % 60) (by omega) (by omega) W hG
  have P6 := Lib.hid fun W (hG : Glob W) => padded2 (t % 86400 % 60) (by omega) (by omega) W hG
  generalize (⟨(zp 4 (Lib.itoa (Cal.year (t / 86400)))).toArray⟩ : ByteArray) = b1 at *
  generalize (⟨(zp 2 (Lib.itoa (Cal.month (t / 86400)))).toArray⟩ : ByteArray) = b2 at *
  generalize (⟨(zp 2 (Lib.itoa (Cal.date (t / 86400)))).toArray⟩ : ByteArray) = b3 at *
  generalize (⟨(zp 2 (Lib.itoa (t % 86400 / 3600))).toArray⟩ : ByteArray) = b4 at *
  generalize (⟨(zp 2 (Lib.itoa (t % 86400 / 60 % 60))).toArray⟩ : ByteArray) = b5 at *
  generalize (⟨(zp 2 (Lib.itoa (t % 86400 % 60))).toArray⟩ : ByteArray) = b6 at *
  unfold momV at HM
  unfold dayV at HD
  generalize t / 86400 = dn at *
  generalize t % 86400 / 3600 = hh at *
  generalize t % 86400 / 60 % 60 = mm at *
  generalize t % 86400 % 60 = ss at *
  generalize Cal.year dn = yy at *
  generalize Cal.month dn = mo at *
  generalize Cal.date dn = dd at *
  generalize (⟨(dateL t).toArray⟩ : ByteArray) = dl at *
  have HGl := Lib.hid hG
  clear d0 d1 y1 y2 m1 m2 e1 e2 e3 hG
  go_enter Tryz.func14, Tryz.ntmps14
  go_wp2_with fail
  refine HM.out.mono ?_; rintro e w1 ⟨rfl, hb1⟩
  go_wp2_with fail
  refine (HD.out _).mono ?_; rintro e w2 ⟨rfl, hb2⟩
  have hb3 : Below w.heap.size w w2 := (hb1.alloc hb1.size _).trans (hb2.mono (by simp; exact Nat.le_trans hb1.size (Nat.le_succ _)))
  have a1 := (hb2.cell (p := ⟨w1.heap.size, 1, none⟩) (by simp)).trans (cell_new rfl)
  have a2 := (hb2.cell (p := ⟨w1.heap.size, 2, none⟩) (by simp)).trans (cell_new rfl)
  have a3 := (hb2.cell (p := ⟨w1.heap.size, 3, none⟩) (by simp)).trans (cell_new rfl)
  have hz := hb2.size
  rw [World.size_alloc] at hz
  have HB3 := Lib.hid hb3
  clear hb1 hb2 hb3
  go_wp2_with fail
  have k1 := cell_regrown ((cell_old (o := .cells #[.int .i64 yy, .int .i64 mo, .int .i64 dd] 81) (by omega)).trans a1)
  have k2 := cell_regrown ((cell_old (o := .cells #[.int .i64 yy, .int .i64 mo, .int .i64 dd] 81) (by omega)).trans a2)
  have k3 := cell_regrown ((cell_old (o := .cells #[.int .i64 yy, .int .i64 mo, .int .i64 dd] 81) (by omega)).trans a3)
  have k4 := cell_regrown (cell_new (W := w2) (c := #[.int .i64 yy, .int .i64 mo, .int .i64 dd]) (t := 81) (i := 0) rfl)
  have k5 := cell_regrown (cell_new (W := w2) (c := #[.int .i64 yy, .int .i64 mo, .int .i64 dd]) (t := 81) (i := 1) rfl)
  have k6 := cell_regrown (cell_new (W := w2) (c := #[.int .i64 yy, .int .i64 mo, .int .i64 dd]) (t := 81) (i := 2) rfl)
  have HB4 := Lib.hid (HB3.out.alloc HB3.out.size (.cells #[.int .i64 yy, .int .i64 mo, .int .i64 dd] 81))
  clear a1 a2 a3
  generalize w2.alloc (.cells #[.int .i64 yy, .int .i64 mo, .int .i64 dd] 81) = w3 at *
  have HG3 := Lib.hid (HGl.out.on HB4.out)
  have C1 := Lib.hid fun (d : Nat) (os : Array Obj) => Calls.regrown_of (P1.out _ (HG3.out.on (below_regrown w3 d os)))
  have C2 := Lib.hid fun (d : Nat) (os : Array Obj) => Calls.regrown_of (P2.out _ (HG3.out.on (below_regrown w3 d os)))
  have C3 := Lib.hid fun (d : Nat) (os : Array Obj) => Calls.regrown_of (P3.out _ (HG3.out.on (below_regrown w3 d os)))
  have C4 := Lib.hid fun (d : Nat) (os : Array Obj) => Calls.regrown_of (P4.out _ (HG3.out.on (below_regrown w3 d os)))
  have C5 := Lib.hid fun (d : Nat) (os : Array Obj) => Calls.regrown_of (P5.out _ (HG3.out.on (below_regrown w3 d os)))
  have C6 := Lib.hid fun (d : Nat) (os : Array Obj) => Calls.regrown_of (P6.out _ (HG3.out.on (below_regrown w3 d os)))
  clear P1 P2 P3 P4 P5 P6 HM HD
  refine wp_region_quiet_below (by kernel_rfl) (by kernel_rfl) ?_
  iterate 3 (quiet_step (exact C1.out _ _))
  iterate 3 (quiet_step (exact C2.out _ _))
  iterate 4 (quiet_step (exact C3.out _ _))
  iterate 5 (quiet_step (exact C4.out _ _))
  iterate 4 (quiet_step (exact C5.out _ _))
  iterate 4 (quiet_step (exact C6.out _ _))
  iterate 3 (quiet_step (exact C6.out _ _))
  refine wpQuiet_nil ?_
  intro _ hw'
  obtain ⟨⟨dq, osq⟩, hw''⟩ := hw'
  subst hw''
  go_wp2
  go_ret
  exact ⟨by rw [HL.out]; rfl, HB4.out.trans ((below_regrown w3 dq osq).mono HB4.out.size)⟩
end Go.Proofs.YtnlpjncljbaapaaGreatDoor
