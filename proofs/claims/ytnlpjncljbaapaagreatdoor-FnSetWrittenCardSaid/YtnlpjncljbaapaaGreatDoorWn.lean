/- The package's own writing of moments, frequencies, weekdays and numbers; moments made of numbers. -/
import Derived.Test.YtnlpjncljbaapaaGreatDoorLb
import Derived.Test.YtnlpjncljbaapaaGreatDoorTsx
namespace Go.Proofs.YtnlpjncljbaapaaGreatDoor
open Go.RowKit

set_option maxRecDepth 100000 in
set_option maxHeartbeats 2000000 in
theorem pad_any (n : Int) (k : Nat) (h0 : 0 ≤ n) (h1 : n ≤ 100000) (hk : k ≤ 10) (w : World) (hG : Glob w) :
    Calls Tryz.prog 172 #[.int .i64 n, .int .i64 (k : Int)] w fun e w' => e = .returned (.string ⟨(zp k (Lib.itoa n)).toArray⟩) ∧ Below w.heap.size w w' := by
  have HI := Lib.hid (itoa_any n (by omega) (by omega) w hG)
  have hl : (Lib.itoa n).length ≤ 21 := Lib.itoa_length_le n (by omega) (by omega)
  have HZ : Hid (zp k (Lib.itoa n) = List.replicate (k - (Lib.itoa n).length) 48 ++ Lib.itoa n) := rfl
  have hn0 : ¬ n < 0 := by omega
  generalize zp k (Lib.itoa n) = z at *
  generalize Lib.itoa n = l at *
  go_enter Tryz.func172, Tryz.ntmps172
  go_wp2_with fail
  refine HI.out.mono ?_; rintro e w1 ⟨rfl, hb⟩
  have HB := Lib.hid hb
  clear hb
  go_wp2_with fail
  go_loop [6] (fun v => ∃ j : Nat, v = .string ⟨(List.replicate j 48 ++ l).toArray⟩ ∧ (j = 0 ∨ j + l.length ≤ k)) (fun v => match v with | .string s => k - s.size | _ => 0)
  case atStart => exact ⟨0, rfl, .inl rfl⟩
  case round =>
    obtain ⟨j, rfl, hj⟩ := hrel
    have hsz : (⟨(List.replicate j 48 ++ l).toArray⟩ : ByteArray).size = j + l.length := by rw [Lib.size_eq]; simp
    by_cases hlt : j + l.length < k
    · go_wp2_with fail
      have hc : ((⟨#[48]⟩ : ByteArray) ++ ⟨(List.replicate j 48 ++ l).toArray⟩) = ⟨(List.replicate (j + 1) 48 ++ l).toArray⟩ := by
        apply ByteArray.ext
        simp [List.replicate_succ]
      rw [hc]
      go_round
      case rel => exact ⟨j + 1, rfl, .inr (by omega)⟩
      case measure =>
        show k - (⟨(List.replicate (j + 1) 48 ++ l).toArray⟩ : ByteArray).size < k - (⟨(List.replicate j 48 ++ l).toArray⟩ : ByteArray).size
        rw [hsz, Lib.size_eq]
        simp
        omega
    · go_wp2_with fail
      go_ret
      refine ⟨?_, HB.out⟩
      have : j = k - l.length := by omega
      rw [HZ.out, this]
      apply congrArg Ending.returned
      apply congrArg Value.string
      apply ByteArray.ext
      simp
set_option maxRecDepth 100000 in
set_option maxHeartbeats 2000000 in
theorem format_any (t : Int) (h0 : 0 ≤ t) (h1 : t < 315537897600) (w : World) (hG : Glob w) :
    Calls Tryz.prog 118 #[.agg #[.int .i64 t, .int .i64 0], .string ⟨#[50, 48, 48, 54, 48, 49, 48, 50, 84, 49, 53, 48, 52, 48, 53, 90]⟩] w fun e w' => e = .returned (.string ⟨(dateL t).toArray⟩) ∧ Below w.heap.size w w' := by
  have HDT := Lib.hid fun W : World => date_any t 0 W h0 h1
  have HCL := Lib.hid fun W : World => clock_any t 0 W h0 h1
  have d0 : 0 ≤ t / 86400 := by omega
  have d1 : t / 86400 < 3652059 := by omega
  obtain ⟨y1, y2⟩ := Cal.year_bd d0 d1
  obtain ⟨m1, m2, e1, e2, _⟩ := Cal.date_ok (t / 86400)
  obtain ⟨_, e3⟩ := Cal.mdays_bd (Cal.year (t / 86400)) (Cal.month (t / 86400))
  have z1 := zp4 (Cal.year (t / 86400)) (by omega) (by omega)
  have z2 := zp2 (Cal.month (t / 86400)) (by omega) (by omega)
  have z3 := zp2 (Cal.date (t / 86400)) (by omega) (by omega)
  have z4 := zp2 (t % 86400 / 3600) (by omega) (by omega)
  have z5 := zp2 (t % 86400 / 60 % 60) (by omega) (by omega)
  have z6 := zp2 (t % 86400 % 60) (by omega) (by omega)
  have HL : Hid ((⟨(dateL t).toArray⟩ : ByteArray) = (⟨(zp 4 (Lib.itoa (Cal.year (t / 86400)))).toArray⟩ : ByteArray) ++ (⟨(zp 2 (Lib.itoa (Cal.month (t / 86400)))).toArray⟩ : ByteArray) ++ (⟨(zp 2 (Lib.itoa (Cal.date (t / 86400)))).toArray⟩ : ByteArray) ++ ⟨#[84]⟩ ++ (⟨(zp 2 (Lib.itoa (t % 86400 / 3600))).toArray⟩ : ByteArray) ++ (⟨(zp 2 (Lib.itoa (t % 86400 / 60 % 60))).toArray⟩ : ByteArray) ++ (⟨(zp 2 (Lib.itoa (t % 86400 % 60))).toArray⟩ : ByteArray) ++ ⟨#[90]⟩) := by
    rw [z1, z2, z3, z4, z5, z6]
    rfl
  have s1 : (⟨(zp 4 (Lib.itoa (Cal.year (t / 86400)))).toArray⟩ : ByteArray).size = 4 := by rw [z1]; rfl
  have s2 : (⟨(zp 2 (Lib.itoa (Cal.month (t / 86400)))).toArray⟩ : ByteArray).size = 2 := by rw [z2]; rfl
  have s3 : (⟨(zp 2 (Lib.itoa (Cal.date (t / 86400)))).toArray⟩ : ByteArray).size = 2 := by rw [z3]; rfl
  have s4 : (⟨(zp 2 (Lib.itoa (t % 86400 / 3600))).toArray⟩ : ByteArray).size = 2 := by rw [z4]; rfl
  have s5 : (⟨(zp 2 (Lib.itoa (t % 86400 / 60 % 60))).toArray⟩ : ByteArray).size = 2 := by rw [z5]; rfl
  have s6 : (⟨(zp 2 (Lib.itoa (t % 86400 % 60))).toArray⟩ : ByteArray).size = 2 := by rw [z6]; rfl
  clear z1 z2 z3 z4 z5 z6
  have P1 := Lib.hid fun W (hG : Glob W) => pad_any (Cal.year (t / 86400)) 4 (by omega) (by omega) (by omega) W hG
  have P2 := Lib.hid fun W (hG : Glob W) => pad_any (Cal.month (t / 86400)) 2 (by omega) (by omega) (by omega) W hG
  have P3 := Lib.hid fun W (hG : Glob W) => pad_any (Cal.date (t / 86400)) 2 (by omega) (by omega) (by omega) W hG
  have P4 := Lib.hid fun W (hG : Glob W) => pad_any (t % 86400 / 3600) 2 (by omega) (by omega) (by omega) W hG
  have P5 := Lib.hid fun W (hG : Glob W) => pad_any (t % 86400 / 60 % 60) 2 (by omega) (by omega) (by omega) W hG
  have P6 := Lib.hid fun W (hG : Glob W) => pad_any (t % 86400 % 60) 2 (by omega) (by omega) (by omega) W hG
  generalize (⟨(zp 4 (Lib.itoa (Cal.year (t / 86400)))).toArray⟩ : ByteArray) = b1 at *
  generalize (⟨(zp 2 (Lib.itoa (Cal.month (t / 86400)))).toArray⟩ : ByteArray) = b2 at *
  generalize (⟨(zp 2 (Lib.itoa (Cal.date (t / 86400)))).toArray⟩ : ByteArray) = b3 at *
  generalize (⟨(zp 2 (Lib.itoa (t % 86400 / 3600))).toArray⟩ : ByteArray) = b4 at *
  generalize (⟨(zp 2 (Lib.itoa (t % 86400 / 60 % 60))).toArray⟩ : ByteArray) = b5 at *
  generalize (⟨(zp 2 (Lib.itoa (t % 86400 % 60))).toArray⟩ : ByteArray) = b6 at *
  generalize t / 86400 = dn at *
  generalize t % 86400 / 3600 = hh at *
  generalize t % 86400 / 60 % 60 = mm at *
  generalize t % 86400 % 60 = ss at *
  generalize Cal.year dn = yy at *
  generalize Cal.month dn = mo at *
  generalize Cal.date dn = dd at *
  generalize (⟨(dateL t).toArray⟩ : ByteArray) = dl at *
  have HGl := Lib.hid hG
  have q0 : (w.alloc (.cells #[.int .i64 t, .int .i64 0] 109)).cell? ⟨w.heap.size, 0, none⟩ = some (.int .i64 t) := cell_new rfl
  have q1 : (w.alloc (.cells #[.int .i64 t, .int .i64 0] 109)).cell? ⟨w.heap.size, 1, none⟩ = some (.int .i64 0) := cell_new rfl
  have hB := below_a1 (w := w) (o := .cells #[.int .i64 t, .int .i64 0] 109)
  have hz : w.heap.size < (w.alloc (.cells #[.int .i64 t, .int .i64 0] 109)).heap.size := by simp
  clear d0 d1 y1 y2 m1 m2 e1 e2 e3 hG
  go_enter Tryz.func118, Tryz.ntmps118
  go_upto_region 1 with fail
  generalize w.alloc (.cells #[.int .i64 t, .int .i64 0] 109) = w0 at *
  have HB := Lib.hid hB
  clear hB
  go_wp2_with fail
  refine (HDT.out _).mono ?_; rintro e w1 ⟨rfl, hb1⟩
  have r0 := (hb1.cell (p := ⟨w.heap.size, 0, none⟩) hz).trans q0
  have r1 := (hb1.cell (p := ⟨w.heap.size, 1, none⟩) hz).trans q1
  have HB1 := Lib.hid (HB.out.trans (hb1.mono HB.out.size))
  clear hb1 q0 q1
  go_wp2_with fail
  refine (HCL.out _).mono ?_; rintro e w3 ⟨rfl, hb2⟩
  have HB4 := Lib.hid (HB1.out.trans (hb2.mono HB1.out.size))
  clear hb2 r0 r1
  go_upto_region 3 with fail
  have HG3 := Lib.hid (HGl.out.on HB4.out)
  have C1 := Lib.hid fun (d : Nat) (os : Array Obj) => Calls.regrown_of (P1.out _ (HG3.out.on (below_regrown w3 d os)))
  have C2 := Lib.hid fun (d : Nat) (os : Array Obj) => Calls.regrown_of (P2.out _ (HG3.out.on (below_regrown w3 d os)))
  have C3 := Lib.hid fun (d : Nat) (os : Array Obj) => Calls.regrown_of (P3.out _ (HG3.out.on (below_regrown w3 d os)))
  have C4 := Lib.hid fun (d : Nat) (os : Array Obj) => Calls.regrown_of (P4.out _ (HG3.out.on (below_regrown w3 d os)))
  have C5 := Lib.hid fun (d : Nat) (os : Array Obj) => Calls.regrown_of (P5.out _ (HG3.out.on (below_regrown w3 d os)))
  have C6 := Lib.hid fun (d : Nat) (os : Array Obj) => Calls.regrown_of (P6.out _ (HG3.out.on (below_regrown w3 d os)))
  clear P1 P2 P3 P4 P5 P6 HDT HCL
  refine wp_region_quiet_below (by kernel_rfl) (by kernel_rfl) ?_
  iterate 2 (quiet_step (exact C1.out _ _))
  iterate 3 (quiet_step (exact C2.out _ _))
  iterate 4 (quiet_step (exact C3.out _ _))
  iterate 3 (quiet_step (exact C4.out _ _))
  iterate 3 (quiet_step (exact C5.out _ _))
  iterate 3 (quiet_step (exact C6.out _ _))
  iterate 4 (quiet_step (exact C6.out _ _))
  refine wpQuiet_nil ?_
  intro _ hw'
  obtain ⟨⟨dq, osq⟩, hw''⟩ := hw'
  subst hw''
  go_wp2
  go_ret
  exact ⟨by rw [HL.out]; rfl, HB4.out.trans ((below_regrown w3 dq osq).mono HB4.out.size)⟩
end Go.Proofs.YtnlpjncljbaapaaGreatDoor

namespace Go.Proofs.YtnlpjncljbaapaaGreatDoor
open Go.RowKit

theorem frIdx0 (W : World) : Sem.run Tryz.prog (Instr.index 33 (.agg #[.string ⟨#[89, 69, 65, 82, 76, 89]⟩, .string ⟨#[77, 79, 78, 84, 72, 76, 89]⟩, .string ⟨#[87, 69, 69, 75, 76, 89]⟩, .string ⟨#[68, 65, 73, 76, 89]⟩, .string ⟨#[72, 79, 85, 82, 76, 89]⟩, .string ⟨#[77, 73, 78, 85, 84, 69, 76, 89]⟩, .string ⟨#[83, 69, 67, 79, 78, 68, 76, 89]⟩]) (.int .i64 0)) W = .ok (.string ⟨#[89, 69, 65, 82, 76, 89]⟩) W := by kernel_rfl
theorem frIdx1 (W : World) : Sem.run Tryz.prog (Instr.index 33 (.agg #[.string ⟨#[89, 69, 65, 82, 76, 89]⟩, .string ⟨#[77, 79, 78, 84, 72, 76, 89]⟩, .string ⟨#[87, 69, 69, 75, 76, 89]⟩, .string ⟨#[68, 65, 73, 76, 89]⟩, .string ⟨#[72, 79, 85, 82, 76, 89]⟩, .string ⟨#[77, 73, 78, 85, 84, 69, 76, 89]⟩, .string ⟨#[83, 69, 67, 79, 78, 68, 76, 89]⟩]) (.int .i64 1)) W = .ok (.string ⟨#[77, 79, 78, 84, 72, 76, 89]⟩) W := by kernel_rfl
theorem frIdx2 (W : World) : Sem.run Tryz.prog (Instr.index 33 (.agg #[.string ⟨#[89, 69, 65, 82, 76, 89]⟩, .string ⟨#[77, 79, 78, 84, 72, 76, 89]⟩, .string ⟨#[87, 69, 69, 75, 76, 89]⟩, .string ⟨#[68, 65, 73, 76, 89]⟩, .string ⟨#[72, 79, 85, 82, 76, 89]⟩, .string ⟨#[77, 73, 78, 85, 84, 69, 76, 89]⟩, .string ⟨#[83, 69, 67, 79, 78, 68, 76, 89]⟩]) (.int .i64 2)) W = .ok (.string ⟨#[87, 69, 69, 75, 76, 89]⟩) W := by kernel_rfl
theorem frIdx3 (W : World) : Sem.run Tryz.prog (Instr.index 33 (.agg #[.string ⟨#[89, 69, 65, 82, 76, 89]⟩, .string ⟨#[77, 79, 78, 84, 72, 76, 89]⟩, .string ⟨#[87, 69, 69, 75, 76, 89]⟩, .string ⟨#[68, 65, 73, 76, 89]⟩, .string ⟨#[72, 79, 85, 82, 76, 89]⟩, .string ⟨#[77, 73, 78, 85, 84, 69, 76, 89]⟩, .string ⟨#[83, 69, 67, 79, 78, 68, 76, 89]⟩]) (.int .i64 3)) W = .ok (.string ⟨#[68, 65, 73, 76, 89]⟩) W := by kernel_rfl
theorem frIdx4 (W : World) : Sem.run Tryz.prog (Instr.index 33 (.agg #[.string ⟨#[89, 69, 65, 82, 76, 89]⟩, .string ⟨#[77, 79, 78, 84, 72, 76, 89]⟩, .string ⟨#[87, 69, 69, 75, 76, 89]⟩, .string ⟨#[68, 65, 73, 76, 89]⟩, .string ⟨#[72, 79, 85, 82, 76, 89]⟩, .string ⟨#[77, 73, 78, 85, 84, 69, 76, 89]⟩, .string ⟨#[83, 69, 67, 79, 78, 68, 76, 89]⟩]) (.int .i64 4)) W = .ok (.string ⟨#[72, 79, 85, 82, 76, 89]⟩) W := by kernel_rfl
theorem frIdx5 (W : World) : Sem.run Tryz.prog (Instr.index 33 (.agg #[.string ⟨#[89, 69, 65, 82, 76, 89]⟩, .string ⟨#[77, 79, 78, 84, 72, 76, 89]⟩, .string ⟨#[87, 69, 69, 75, 76, 89]⟩, .string ⟨#[68, 65, 73, 76, 89]⟩, .string ⟨#[72, 79, 85, 82, 76, 89]⟩, .string ⟨#[77, 73, 78, 85, 84, 69, 76, 89]⟩, .string ⟨#[83, 69, 67, 79, 78, 68, 76, 89]⟩]) (.int .i64 5)) W = .ok (.string ⟨#[77, 73, 78, 85, 84, 69, 76, 89]⟩) W := by kernel_rfl
theorem frIdx6 (W : World) : Sem.run Tryz.prog (Instr.index 33 (.agg #[.string ⟨#[89, 69, 65, 82, 76, 89]⟩, .string ⟨#[77, 79, 78, 84, 72, 76, 89]⟩, .string ⟨#[87, 69, 69, 75, 76, 89]⟩, .string ⟨#[68, 65, 73, 76, 89]⟩, .string ⟨#[72, 79, 85, 82, 76, 89]⟩, .string ⟨#[77, 73, 78, 85, 84, 69, 76, 89]⟩, .string ⟨#[83, 69, 67, 79, 78, 68, 76, 89]⟩]) (.int .i64 6)) W = .ok (.string ⟨#[83, 69, 67, 79, 78, 68, 76, 89]⟩) W := by kernel_rfl
theorem wdIdx0 (W : World) : Sem.run Tryz.prog (Instr.index 33 (.agg #[.string ⟨#[77, 79]⟩, .string ⟨#[84, 85]⟩, .string ⟨#[87, 69]⟩, .string ⟨#[84, 72]⟩, .string ⟨#[70, 82]⟩, .string ⟨#[83, 65]⟩, .string ⟨#[83, 85]⟩]) (.int .i64 0)) W = .ok (.string ⟨#[77, 79]⟩) W := by kernel_rfl
theorem wdIdx1 (W : World) : Sem.run Tryz.prog (Instr.index 33 (.agg #[.string ⟨#[77, 79]⟩, .string ⟨#[84, 85]⟩, .string ⟨#[87, 69]⟩, .string ⟨#[84, 72]⟩, .string ⟨#[70, 82]⟩, .string ⟨#[83, 65]⟩, .string ⟨#[83, 85]⟩]) (.int .i64 1)) W = .ok (.string ⟨#[84, 85]⟩) W := by kernel_rfl
theorem wdIdx2 (W : World) : Sem.run Tryz.prog (Instr.index 33 (.agg #[.string ⟨#[77, 79]⟩, .string ⟨#[84, 85]⟩, .string ⟨#[87, 69]⟩, .string ⟨#[84, 72]⟩, .string ⟨#[70, 82]⟩, .string ⟨#[83, 65]⟩, .string ⟨#[83, 85]⟩]) (.int .i64 2)) W = .ok (.string ⟨#[87, 69]⟩) W := by kernel_rfl
theorem wdIdx3 (W : World) : Sem.run Tryz.prog (Instr.index 33 (.agg #[.string ⟨#[77, 79]⟩, .string ⟨#[84, 85]⟩, .string ⟨#[87, 69]⟩, .string ⟨#[84, 72]⟩, .string ⟨#[70, 82]⟩, .string ⟨#[83, 65]⟩, .string ⟨#[83, 85]⟩]) (.int .i64 3)) W = .ok (.string ⟨#[84, 72]⟩) W := by kernel_rfl
theorem wdIdx4 (W : World) : Sem.run Tryz.prog (Instr.index 33 (.agg #[.string ⟨#[77, 79]⟩, .string ⟨#[84, 85]⟩, .string ⟨#[87, 69]⟩, .string ⟨#[84, 72]⟩, .string ⟨#[70, 82]⟩, .string ⟨#[83, 65]⟩, .string ⟨#[83, 85]⟩]) (.int .i64 4)) W = .ok (.string ⟨#[70, 82]⟩) W := by kernel_rfl
theorem wdIdx5 (W : World) : Sem.run Tryz.prog (Instr.index 33 (.agg #[.string ⟨#[77, 79]⟩, .string ⟨#[84, 85]⟩, .string ⟨#[87, 69]⟩, .string ⟨#[84, 72]⟩, .string ⟨#[70, 82]⟩, .string ⟨#[83, 65]⟩, .string ⟨#[83, 85]⟩]) (.int .i64 5)) W = .ok (.string ⟨#[83, 65]⟩) W := by kernel_rfl
theorem wdIdx6 (W : World) : Sem.run Tryz.prog (Instr.index 33 (.agg #[.string ⟨#[77, 79]⟩, .string ⟨#[84, 85]⟩, .string ⟨#[87, 69]⟩, .string ⟨#[84, 72]⟩, .string ⟨#[70, 82]⟩, .string ⟨#[83, 65]⟩, .string ⟨#[83, 85]⟩]) (.int .i64 6)) W = .ok (.string ⟨#[83, 85]⟩) W := by kernel_rfl
set_option maxRecDepth 100000 in
set_option maxHeartbeats 1000000 in
theorem tstr_any (t : Int) (h0 : 0 ≤ t) (h1 : t < 315537897600) (w : World) (hG : Glob w) :
    Calls Tryz.prog 121 #[.agg #[.int .i64 t, .int .i64 0]] w fun e w' => e = .returned (.string ⟨(dateL t).toArray⟩) ∧ Below w.heap.size w w' := by
  have HF := Lib.hid fun W (hG : Glob W) => format_any t h0 h1 W hG
  have HGl := Lib.hid hG
  have HB := Lib.hid (below_a1 (w := w) (o := .cells #[.int .i64 t, .int .i64 0] 109))
  clear hG
  go_enter Tryz.func121, Tryz.ntmps121
  go_wp2_with fail
  refine (timeUTC_any t 0 _).mono ?_; rintro e w1 ⟨rfl, hb1⟩
  have HB1 := Lib.hid (HB.out.trans (hb1.mono HB.out.size))
  clear hb1
  go_wp2_with fail
  refine (HF.out _ (HGl.out.on HB1.out)).mono ?_; rintro e w2 ⟨rfl, hb2⟩
  have HB2 := Lib.hid (HB1.out.trans (hb2.mono HB1.out.size))
  clear hb2
  go_wp2_with fail
  go_ret
  exact ⟨rfl, HB2.out⟩
set_option maxRecDepth 100000 in
set_option maxHeartbeats 1000000 in
theorem rfc_any (t : Int) (h0 : 0 ≤ t) (h1 : t < 315537897600) (w : World) (hG : Glob w) :
    Calls Tryz.prog 78 #[.agg #[.int .i64 t, .int .i64 0]] w fun e w' => e = .returned (.string ⟨(58 :: dateL t).toArray⟩) ∧ Below w.heap.size w w' := by
  have HF := Lib.hid fun W (hG : Glob W) => format_any t h0 h1 W hG
  have HGl := Lib.hid hG
  have hB := below_a1 (w := w) (o := .cells #[.int .i64 t, .int .i64 0] 109)
  have q0 : (w.alloc (.cells #[.int .i64 t, .int .i64 0] 109)).cell? ⟨w.heap.size, 0, none⟩ = some (.int .i64 t) := cell_new rfl
  have q1 : (w.alloc (.cells #[.int .i64 t, .int .i64 0] 109)).cell? ⟨w.heap.size, 1, none⟩ = some (.int .i64 0) := cell_new rfl
  have hz : w.heap.size < (w.alloc (.cells #[.int .i64 t, .int .i64 0] 109)).heap.size := by simp
  have hds : (⟨(dateL t).toArray⟩ : ByteArray).size = 16 := rfl
  have hc : ((⟨#[58]⟩ : ByteArray) ++ ⟨(dateL t).toArray⟩) = ⟨(58 :: dateL t).toArray⟩ := by
    apply ByteArray.ext
    simp
  have HC := Lib.hid hc
  obtain ⟨z, hz2⟩ : ∃ z : ByteArray, z = ⟨(dateL t).toArray⟩ := ⟨_, rfl⟩
  rw [← hz2] at HF hds HC
  clear hG hc hz2
  go_enter Tryz.func78, Tryz.ntmps78
  go_upto_region 1 with fail
  generalize w.alloc (.cells #[.int .i64 t, .int .i64 0] 109) = w0 at *
  have HB := Lib.hid hB
  clear hB
  go_wp2_with fail
  refine (location_any t 0 _).mono ?_; rintro e w1 ⟨rfl, hb1⟩
  have r0 := (hb1.cell (p := ⟨w.heap.size, 0, none⟩) hz).trans q0
  have r1 := (hb1.cell (p := ⟨w.heap.size, 1, none⟩) hz).trans q1
  have hz1 := Nat.lt_of_lt_of_le hz hb1.size
  have HB1 := Lib.hid (HB.out.trans (hb1.mono HB.out.size))
  clear hb1 q0 q1
  go_wp2_with fail
  refine (locString_any _).mono ?_; rintro e w2 ⟨rfl, hb2⟩
  have p0 := (hb2.cell (p := ⟨w.heap.size, 0, none⟩) hz1).trans r0
  have p1 := (hb2.cell (p := ⟨w.heap.size, 1, none⟩) hz1).trans r1
  have HB2 := Lib.hid (HB1.out.trans (hb2.mono HB1.out.size))
  clear hb2 r0 r1
  go_wp2_with fail
  refine (HF.out _ (HGl.out.on HB2.out)).mono ?_; rintro e w3 ⟨rfl, hb3⟩
  have HB3 := Lib.hid (HB2.out.trans (hb3.mono HB2.out.size))
  clear hb3 p0 p1
  go_wp2_with fail
  go_ret
  exact ⟨congrArg (fun s => Ending.returned (.string s)) HC.out, HB3.out⟩
set_option maxRecDepth 100000 in
set_option maxHeartbeats 1000000 in
theorem fstr_any (fr : Nat) (h : fr ≤ 6) (w : World) : Calls Tryz.prog 119 #[.int .i64 fr] w fun e w' => e = .returned (.string ⟨(frNames[fr]?.getD []).toArray⟩) ∧ w' = w := by
  have h : fr = 0 ∨ fr = 1 ∨ fr = 2 ∨ fr = 3 ∨ fr = 4 ∨ fr = 5 ∨ fr = 6 := by omega
  have h0 := fun W => frIdx0 W
  have h1 := fun W => frIdx1 W
  have h2 := fun W => frIdx2 W
  have h3 := fun W => frIdx3 W
  have h4 := fun W => frIdx4 W
  have h5 := fun W => frIdx5 W
  have h6 := fun W => frIdx6 W
  rcases h with h | h | h | h | h | h | h <;> subst h
  all_goals
    go_enter Tryz.func119, Tryz.ntmps119
    go_wp2_with fail
    go_ret
    exact ⟨rfl, rfl⟩
/-- A number with its sign. -/
def sgnL (n : Int) : List UInt8 := if n < 0 then Lib.itoa n else 43 :: Lib.itoa n
set_option maxRecDepth 100000 in
set_option maxHeartbeats 1000000 in
theorem sgn_any (n : Int) (h : int64 n) (w : World) (hG : Glob w) : Calls Tryz.prog 173 #[.int .i64 n] w fun e w' => e = .returned (.string ⟨(sgnL n).toArray⟩) ∧ Below w.heap.size w w' := by
  have HI := Lib.hid (itoa_any n h.1 h.2 w hG)
  have hl : (⟨(Lib.itoa n).toArray⟩ : ByteArray).size ≤ 21 := by rw [Lib.size_eq]; exact Lib.itoa_length_le n h.1 h.2
  by_cases hn : n < 0
  · have e : sgnL n = Lib.itoa n := by unfold sgnL; rw [if_pos hn]
    rw [e]
    generalize (⟨(Lib.itoa n).toArray⟩ : ByteArray) = z at *
    go_enter Tryz.func173, Tryz.ntmps173
    go_wp2_with fail
    refine HI.out.mono ?_; rintro e w1 ⟨rfl, hb⟩
    have HB := Lib.hid hb
    clear hb
    go_wp2_with fail
    go_ret
    exact ⟨rfl, HB.out⟩
  · have hc : (⟨(sgnL n).toArray⟩ : ByteArray) = (⟨#[43]⟩ : ByteArray) ++ ⟨(Lib.itoa n).toArray⟩ := by
      unfold sgnL
      rw [if_neg hn]
      apply ByteArray.ext
      simp
    rw [hc]
    generalize (⟨(Lib.itoa n).toArray⟩ : ByteArray) = z at *
    clear hc
    go_enter Tryz.func173, Tryz.ntmps173
    go_wp2_with fail
    refine HI.out.mono ?_; rintro e w1 ⟨rfl, hb⟩
    have HB := Lib.hid hb
    clear hb
    go_wp2_with fail
    go_ret
    exact ⟨rfl, HB.out⟩
/-- A weekday as the package writes it. -/
def wstrL (d : Int × Int) : List UInt8 := (if d.2 = 0 then [] else sgnL d.2) ++ (wdNames[d.1.toNat]?.getD [])
set_option maxRecDepth 100000 in
set_option maxHeartbeats 1000000 in
theorem wstr_any (kd nd : Int) (h0 : 0 ≤ kd) (h1 : kd ≤ 6) (h : int64 nd) (w : World) (hG : Glob w) : Calls Tryz.prog 120 #[.agg #[.int .i64 kd, .int .i64 nd]] w fun e w' => e = .returned (.string ⟨(wstrL (kd, nd)).toArray⟩) ∧ Below w.heap.size w w' := by
  have HS := Lib.hid fun W (hG : Glob W) => sgn_any nd h W hG
  have HGl := Lib.hid hG
  have hB := below_a1 (w := w) (o := .cells #[.int .i64 kd, .int .i64 nd] 119)
  have q0 : (w.alloc (.cells #[.int .i64 kd, .int .i64 nd] 119)).cell? ⟨w.heap.size, 0, none⟩ = some (.int .i64 kd) := cell_new rfl
  have q1 : (w.alloc (.cells #[.int .i64 kd, .int .i64 nd] 119)).cell? ⟨w.heap.size, 1, none⟩ = some (.int .i64 nd) := cell_new rfl
  have hls : (⟨(sgnL nd).toArray⟩ : ByteArray).size ≤ 22 := by
    rw [Lib.size_eq]
    have := Lib.itoa_length_le nd h.1 h.2
    unfold sgnL
    split <;> simp <;> omega
  have HE := Lib.hid (fun (nm : List UInt8) (h : wdNames[kd.toNat]?.getD [] = nm) (hn : ¬ nd = 0) => show ((⟨(sgnL nd).toArray⟩ : ByteArray) ++ ⟨nm.toArray⟩) = ⟨(wstrL (kd, nd)).toArray⟩ from by
    apply ByteArray.ext
    simp [wstrL, hn, h])
  have HE0 := Lib.hid (fun (nm : List UInt8) (h : wdNames[kd.toNat]?.getD [] = nm) (hn : nd = 0) => show (⟨nm.toArray⟩ : ByteArray) = ⟨(wstrL (kd, nd)).toArray⟩ from by
    apply ByteArray.ext
    simp [wstrL, hn, h])
  generalize (⟨(sgnL nd).toArray⟩ : ByteArray) = z at *
  generalize (⟨(wstrL (kd, nd)).toArray⟩ : ByteArray) = r at *
  clear hG
  have i0 := fun W => wdIdx0 W
  have i1 := fun W => wdIdx1 W
  have i2 := fun W => wdIdx2 W
  have i3 := fun W => wdIdx3 W
  have i4 := fun W => wdIdx4 W
  have i5 := fun W => wdIdx5 W
  have i6 := fun W => wdIdx6 W
  have hk : kd = 0 ∨ kd = 1 ∨ kd = 2 ∨ kd = 3 ∨ kd = 4 ∨ kd = 5 ∨ kd = 6 := by omega
  rcases hk with h | h | h | h | h | h | h <;> subst h
  all_goals
    go_enter Tryz.func120, Tryz.ntmps120
    go_upto_region 1 with fail
    generalize w.alloc (.cells #[.int .i64 _, .int .i64 nd] 119) = w0 at *
    have HB := Lib.hid hB
    by_cases hn : nd = 0
    · have HE2 := Lib.hid (HE0.out _ rfl hn)
      subst hn
      clear HE HE0
      go_wp2_with fail
      go_ret
      exact ⟨by rw [← HE2.out]; rfl, HB.out⟩
    · have HE2 := Lib.hid (HE.out _ rfl hn)
      clear HE HE0
      go_wp2_with fail
      refine (HS.out _ (HGl.out.on HB.out)).mono ?_; rintro e w1 ⟨rfl, hb⟩
      have HB1 := Lib.hid (HB.out.trans (hb.mono HB.out.size))
      clear hb
      go_wp2_with fail
      go_ret
      exact ⟨by rw [← HE2.out]; rfl, HB1.out⟩
set_option maxRecDepth 100000 in
set_option maxHeartbeats 2000000 in
theorem moments_any (p : Option Addr) (n c : Nat) (l : List Int) (w : World) (hr : RowO w p n l) (hn : n ≤ 1000) :
    Calls Tryz.prog 75 #[.slice p n c] w fun e w' => ∃ u, e = .returned u ∧ w'.ownsRow w.heap.size 109 2 u n (timeVs l) ∧ Below w.heap.size w w' := by
  obtain ⟨hnl, hcells⟩ := hr
  have HN := Lib.hid hnl
  have HC := Lib.hid hcells
  clear hnl hcells
  go_enter Tryz.func75, Tryz.ntmps75
  go_wp2_with fail
  go_loopw [3, 5, 8] (fun u _ v wr => ∃ k : Nat, k ≤ n ∧ v = .int .i64 k ∧ Hid (wr.ownsRow w.heap.size 109 2 u k (timeVs (l.take k))) ∧ Hid (Below w.heap.size w wr)) (fun _ _ v _ => n - (intOf v).toNat)
  case atStart => exact ⟨0, Nat.zero_le _, rfl, Lib.hid (own_nil _ _ _ _), Lib.hid (Below.refl _ _)⟩
  case round =>
    obtain ⟨k, hk, rfl, HO, HB⟩ := hrel
    by_cases hkn : k < n
    · have hkl : k < l.length := by have := HN.out; omega
      obtain ⟨g, o, rfl, hg, hc⟩ := HC.out k _ (List.getElem?_eq_getElem hkl)
      have hc := (HB.out.cell (p := ⟨g, o + k, none⟩) hg).trans hc
      have HTK := Lib.hid (show l.take (k + 1) = l.take k ++ [l[k]] by rw [List.take_add_one, List.getElem?_eq_getElem hkl]; rfl)
      generalize l[k] = x at *
      have hwr := HB.out.size
      have hki : (0 : Int) ≤ ((k : Nat) : Int) := by omega
      have hkni : ((k : Nat) : Int) < ((n : Nat) : Int) := by omega
      go_wp2_with fail
      refine (of_any x _).mono ?_; rintro e w2 ⟨rfl, hb2⟩
      have HO2 := Lib.hid (own_below HO.out hb2)
      have HB2 := Lib.hid (HB.out.trans (hb2.mono HB.out.size))
      have hw2 : w.heap.size ≤ w2.heap.size := HB2.out.size
      clear hb2 hc
      go_wp2_with (at_builtin; refine app_own w.heap.size rfl _ _ 113 109 (.agg #[.int .i64 0, .int .i64 0]) 2 16 rfl Tryz.underlying113 info109 rfl (by decide) (by decide) _ k (timeVs (l.take k)) [.int .i64 x, .int .i64 0] (by rfl) (by rfl) rfl (by simp [Value.oneCell']) HO2.out hw2 (by omega) ?_)
      intro g5 cap5 w5 hown5 hg5 hg6 hcap5 hgrow hat5
      have HB5 := Lib.hid (HB2.out.grown hgrow HB2.out.size (own_base HO2.out))
      have HO5 := Lib.hid hown5
      clear hown5 hgrow hat5 HO2 HB2
      go_wp2_with fail
      go_roundw
      case rel => exact ⟨k + 1, by omega, by go_num, Lib.hid (by rw [HTK.out, timeVs_snoc]; exact HO5.out), HB5⟩
      case measure => simp [intOf]; omega
    · obtain rfl : k = n := by omega
      go_wp2_with fail
      go_ret
      have hN := HN.out
      exact ⟨_, rfl, by have := HO.out; rw [List.take_of_length_le (by omega)] at this; exact this, HB.out⟩
end Go.Proofs.YtnlpjncljbaapaaGreatDoor
