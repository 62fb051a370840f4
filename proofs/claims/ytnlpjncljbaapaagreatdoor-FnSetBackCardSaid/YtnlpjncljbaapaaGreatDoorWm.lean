/- The package's own writing of dates, frequencies and weekdays; moments made of numbers. -/
import Derived.Test.YtnlpjncljbaapaaGreatDoorLb
import Derived.Test.YtnlpjncljbaapaaGreatDoorTsx
namespace Go.Proofs.YtnlpjncljbaapaaGreatDoor
open Go.RowKit

set_option maxRecDepth 100000 in
set_option maxHeartbeats 2000000 in
theorem pad_any (n : Int) (k : Nat) (h0 : 0 ≤ n) (h1 : n ≤ 100000) (hk : k ≤ 10) (w : World) (hG : Glob w) :
    Calls Tryz.prog 172 #[.int .i64 n, .int .i64 (k : Int)] w fun e w' => e = .returned (.string ⟨(zp k (Lib.itoa n)).toArray⟩) ∧ Below w.heap.size w w' := by
  have HI := Lib.hid (itoa_any n (by omega) (by omega) w hG)
  have hl : (Lib.itoa n).length ≤ 21 := Lib.itoa_length_le n (by omega) (by omega)
  have HZ : Hid (zp k (Lib.itoa n) = List.replicate (k - (Lib.itoa n).length) 48 ++ Lib.itoa n) := rfl
  have hn0 : ¬ n < 0 := by omega
  generalize zp k (Lib.itoa n) = z at *
  generalize Lib.itoa n = l at *
  go_enter Tryz.func172, Tryz.ntmps172
  go_wp2_with fail
  refine HI.out.mono ?_; rintro e w1 ⟨rfl, hb⟩
  have HB := Lib.hid hb
  clear hb
  go_wp2_with fail
  go_loop [6] (fun v => ∃ j : Nat, v = .string ⟨(List.replicate j 48 ++ l).toArray⟩ ∧ (j = 0 ∨ j + l.length ≤ k)) (fun v => match v with | .string s => k - s.size | _ => 0)
  case atStart => exact ⟨0, rfl, .inl rfl⟩
  case round =>
    obtain ⟨j, rfl, hj⟩ := hrel
    have hsz : (⟨(List.replicate j 48 ++ l).toArray⟩ : ByteArray).size = j + l.length := by rw [Lib.size_eq]; simp
    by_cases hlt : j + l.length < k
    · go_wp2_with fail
      have hc : ((⟨#[48]⟩ : ByteArray) ++ ⟨(List.replicate j 48 ++ l).toArray⟩) = ⟨(List.replicate (j + 1) 48 ++ l).toArray⟩ := by
        apply ByteArray.ext
        simp [List.replicate_succ]
      rw [hc]
      go_round
      case rel => exact ⟨j + 1, rfl, .inr (by omega)⟩
      case measure =>
        show k - (⟨(List.replicate (j + 1) 48 ++ l).toArray⟩ : ByteArray).size < k - (⟨(List.replicate j 48 ++ l).toArray⟩ : ByteArray).size
        rw [hsz, Lib.size_eq]
        simp
        omega
    · go_wp2_with fail
      go_ret
      refine ⟨?_, HB.out⟩
      have : j = k - l.length := by omega
      rw [HZ.out, this]
      apply congrArg Ending.returned
      apply congrArg Value.string
      apply ByteArray.ext
      simp
set_option maxRecDepth 100000 in
set_option maxHeartbeats 2000000 in
theorem format_any (t : Int) (h0 : 0 ≤ t) (h1 : t < 315537897600) (w : World) (hG : Glob w) :
    Calls Tryz.prog 118 #[.agg #[.int .i64 t, .int .i64 0], .string ⟨#[50, 48, 48, 54, 48, 49, 48, 50, 84, 49, 53, 48, 52, 48, 53, 90]⟩] w fun e w' => e = .returned (.string ⟨(dateL t).toArray⟩) ∧ Below w.heap.size w w' := by
  have HDT := Lib.hid fun W : World => date_any t 0 W h0 h1
  have HCL := Lib.hid fun W : World => clock_any t 0 W h0 h1
  have d0 : 0 ≤ t / 86400 := by omega
  have d1 : t / 86400 < 3652059 := by omega
  obtain ⟨y1, y2⟩ := Cal.year_bd d0 d1
  obtain ⟨m1, m2, e1, e2, _⟩ := Cal.date_ok (t / 86400)
  obtain ⟨_, e3⟩ := Cal.mdays_bd (Cal.year (t / 86400)) (Cal.month (t / 86400))
  have z1 := zp4 (Cal.year (t / 86400)) (by omega) (by omega)
  have z2 := zp2 (Cal.month (t / 86400)) (by omega) (by omega)
  have z3 := zp2 (Cal.date (t / 86400)) (by omega) (by omega)
  have z4 := zp2 (t % 86400 / 3600) (by omega) (by omega)
  have z5 := zp2 (t % 86400 / 60 % 60) (by omega) (by omega)
  have z6 := zp2 (t % 86400 % 60) (by omega) (by omega)
  have HL : Hid ((⟨(dateL t).toArray⟩ : ByteArray) = (⟨(zp 4 (Lib.itoa (Cal.year (t / 86400)))).toArray⟩ : ByteArray) ++ (⟨(zp 2 (Lib.itoa (Cal.month (t / 86400)))).toArray⟩ : ByteArray) ++ (⟨(zp 2 (Lib.itoa (Cal.date (t / 86400)))).toArray⟩ : ByteArray) ++ ⟨#[84]⟩ ++ (⟨(zp 2 (Lib.itoa (t % 86400 / 3600))).toArray⟩ : ByteArray) ++ (⟨(zp 2 (Lib.itoa (t % 86400 / 60 % 60))).toArray⟩ : ByteArray) ++ (⟨(zp 2 (Lib.itoa (t % 86400 % 60))).toArray⟩ : ByteArray) ++ ⟨#[90]⟩) := by
    rw [z1, z2, z3, z4, z5, z6]
    rfl
  have s1 : (⟨(zp 4 (Lib.itoa (Cal.year (t / 86400)))).toArray⟩ : ByteArray).size = 4 := by rw [z1]; rfl
  have s2 : (⟨(zp 2 (Lib.itoa (Cal.month (t / 86400)))).toArray⟩ : ByteArray).size = 2 := by rw [z2]; rfl
  have s3 : (⟨(zp 2 (Lib.itoa (Cal.date (t / 86400)))).toArray⟩ : ByteArray).size = 2 := by rw [z3]; rfl
  have s4 : (⟨(zp 2 (Lib.itoa (t % 86400 / 3600))).toArray⟩ : ByteArray).size = 2 := by rw [z4]; rfl
  have s5 : (⟨(zp 2 (Lib.itoa (t % 86400 / 60 % 60))).toArray⟩ : ByteArray).size = 2 := by rw [z5]; rfl
  have s6 : (⟨(zp 2 (Lib.itoa (t % 86400 % 60))).toArray⟩ : ByteArray).size = 2 := by rw [z6]; rfl
  clear z1 z2 z3 z4 z5 z6
  have P1 := Lib.hid fun W (hG : Glob W) => pad_any (Cal.year (t / 86400)) 4 (by omega) (by omega) (by omega) W hG
  have P2 := Lib.hid fun W (hG : Glob W) => pad_any (Cal.month (t / 86400)) 2 (by omega) (by omega) (by omega) W hG
  have P3 := Lib.hid fun W (hG : Glob W) => pad_any (Cal.date (t / 86400)) 2 (by omega) (by omega) (by omega) W hG
  have P4 := Lib.hid fun W (hG : Glob W) => pad_any (t % 86400 / 3600) 2 (by omega) (by omega) (by omega) W hG
  have P5 := Lib.hid fun W (hG : Glob W) => pad_any (t % 86400 / 60 % 60) 2 (by omega) (by omega) (by omega) W hG
  have P6 := Lib.hid fun W (hG : Glob W) => pad_any (t % 86400 % 60) 2 (by omega) (by omega) (by omega) W hG
  generalize (⟨(zp 4 (Lib.itoa (Cal.year (t / 86400)))).toArray⟩ : ByteArray) = b1 at *
  generalize (⟨(zp 2 (Lib.itoa (Cal.month (t / 86400)))).toArray⟩ : ByteArray) = b2 at *
  generalize (⟨(zp 2 (Lib.itoa (Cal.date (t / 86400)))).toArray⟩ : ByteArray) = b3 at *
  generalize (⟨(zp 2 (Lib.itoa (t % 86400 / 3600))).toArray⟩ : ByteArray) = b4 at *
  generalize (⟨(zp 2 (Lib.itoa (t % 86400 / 60 % 60))).toArray⟩ : ByteArray) = b5 at *
  generalize (⟨(zp 2 (Lib.itoa (t % 86400 % 60))).toArray⟩ : ByteArray) = b6 at *
  generalize t / 86400 = dn at *
  generalize t % 86400 / 3600 = hh at *
  generalize t % 86400 / 60 % 60 = mm at *
  generalize t % 86400 % 60 = ss at *
  generalize Cal.year dn = yy at *
  generalize Cal.month dn = mo at *
  generalize Cal.date dn = dd at *
  generalize (⟨(dateL t).toArray⟩ : ByteArray) = dl at *
  have HGl := Lib.hid hG
  have q0 : (w.alloc (.cells #[.int .i64 t, .int .i64 0] 109)).cell? ⟨w.heap.size, 0, none⟩ = some (.int .i64 t) := cell_new rfl
  have q1 : (w.alloc (.cells #[.int .i64 t, .int .i64 0] 109)).cell? ⟨w.heap.size, 1, none⟩ = some (.int .i64 0) := cell_new rfl
  have hB := below_a1 (w := w) (o := .cells #[.int .i64 t, .int .i64 0] 109)
  have hz : w.heap.size < (w.alloc (.cells #[.int .i64 t, .int .i64 0] 109)).heap.size := by simp
  clear d0 d1 y1 y2 m1 m2 e1 e2 e3 hG
  go_enter Tryz.func118, Tryz.ntmps118
  go_upto_region 1 with fail
  generalize w.alloc (.cells #[.int .i64 t, .int .i64 0] 109) = w0 at *
  have HB := Lib.hid hB
  clear hB
  go_wp2_with fail
  refine (HDT.out _).mono ?_; rintro e w1 ⟨rfl, hb1⟩
  have r0 := (hb1.cell (p := ⟨w.heap.size, 0, none⟩) hz).trans q0
  have r1 := (hb1.cell (p := ⟨w.heap.size, 1, none⟩) hz).trans q1
  have HB1 := Lib.hid (HB.out.trans (hb1.mono HB.out.size))
  clear hb1 q0 q1
  go_wp2_with fail
  refine (HCL.out _).mono ?_; rintro e w3 ⟨rfl, hb2⟩
  have HB4 := Lib.hid (HB1.out.trans (hb2.mono HB1.out.size))
  clear hb2 r0 r1
  go_upto_region 3 with fail
  have HG3 := Lib.hid (HGl.out.on HB4.out)
  have C1 := Lib.hid fun (d : Nat) (os : Array Obj) => Calls.regrown_of (P1.out _ (HG3.out.on (below_regrown w3 d os)))
  have C2 := Lib.hid fun (d : Nat) (os : Array Obj) => Calls.regrown_of (P2.out _ (HG3.out.on (below_regrown w3 d os)))
  have C3 := Lib.hid fun (d : Nat) (os : Array Obj) => Calls.regrown_of (P3.out _ (HG3.out.on (below_regrown w3 d os)))
  have C4 := Lib.hid fun (d : Nat) (os : Array Obj) => Calls.regrown_of (P4.out _ (HG3.out.on (below_regrown w3 d os)))
  have C5 := Lib.hid fun (d : Nat) (os : Array Obj) => Calls.regrown_of (P5.out _ (HG3.out.on (below_regrown w3 d os)))
  have C6 := Lib.hid fun (d : Nat) (os : Array Obj) => Calls.regrown_of (P6.out _ (HG3.out.on (below_regrown w3 d os)))
  clear P1 P2 P3 P4 P5 P6 HDT HCL
  refine wp_region_quiet_below (by kernel_rfl) (by kernel_rfl) ?_
  iterate 2 (quiet_step (exact C1.out _ _))
  iterate 3 (quiet_step (exact C2.out _ _))
  iterate 4 (quiet_step (exact C3.out _ _))
  iterate 3 (quiet_step (exact C4.out _ _))
  iterate 3 (quiet_step (exact C5.out _ _))
  iterate 3 (quiet_step (exact C6.out _ _))
  iterate 4 (quiet_step (exact C6.out _ _))
  refine wpQuiet_nil ?_
  intro _ hw'
  obtain ⟨⟨dq, osq⟩, hw''⟩ := hw'
  subst hw''
  go_wp2
  go_ret
  exact ⟨by rw [HL.out]; rfl, HB4.out.trans ((below_regrown w3 dq osq).mono HB4.out.size)⟩
end Go.Proofs.YtnlpjncljbaapaaGreatDoor
