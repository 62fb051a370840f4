/- sort.Sort over moments, walked weakly: patterns broken. -/
import Derived.Test.YtnlpjncljbaapaaGreatDoorSw1
import Derived.Test.YtnlpjncljbaapaaGreatDoorShelf
import Derived.Deep.AppendLies
import Derived.Sort.Walk7a
import Derived.Sort.LotD1
namespace Go.Proofs.YtnlpjncljbaapaaGreatDoor
open Go.RowKit

section
open Go.Shelf Go.Lib Go.Sort
set_option maxHeartbeats 2000000 in
set_option maxRecDepth 1000000 in
theorem next_w (rb X : Nat) (hX : X < 18446744073709551616) (w : World) (hc : w.cell? ⟨rb, 0, none⟩ = some (.int .u64 X)) (hf : w.frozen? ⟨rb, 0, none⟩ = false) :
    Calls Tryz.prog 242 #[.pointer (some ⟨rb, 0, none⟩)] w fun e w' => e = .returned (.int .u64 (xorNextN X : Nat)) ∧ w' = (w.setCell ⟨rb, 0, none⟩ (.int .u64 (xorNextN X : Nat))).drewN 3 := by
  obtain ⟨A, hA⟩ : ∃ A : Nat, A = X ^^^ (X * 8192 % 18446744073709551616) := ⟨_, rfl⟩
  obtain ⟨B, hB⟩ : ∃ B : Nat, B = A ^^^ (A / 128) := ⟨_, rfl⟩
  obtain ⟨C, hC⟩ : ∃ C : Nat, C = B ^^^ (B * 131072 % 18446744073709551616) := ⟨_, rfl⟩
  have lA : A < 18446744073709551616 := by rw [hA]; exact Nat.xor_lt_two_pow (n := 64) (by omega) (by omega)
  have lB : B < 18446744073709551616 := by rw [hB]; exact Nat.xor_lt_two_pow (n := 64) (by omega) (by omega)
  have e1 : bits .xor .u64 (X : Int) (IntKind.u64.wrap ((X : Int) * 8192)) = (A : Int) := by
    rw [IntKind.wrap_u64, show ((X : Int) * 8192 % 18446744073709551616) = ((X * 8192 % 18446744073709551616 : Nat) : Int) by omega, bits_xor_u64_nat _ _ hX (by omega), hA]
  have e2 : bits .xor .u64 (A : Int) ((A : Int) / 128) = (B : Int) := by
    rw [show ((A : Int) / 128) = ((A / 128 : Nat) : Int) by omega, bits_xor_u64_nat _ _ lA (by omega), hB]
  have e3 : bits .xor .u64 (B : Int) (IntKind.u64.wrap ((B : Int) * 131072)) = (C : Int) := by
    rw [IntKind.wrap_u64, show ((B : Int) * 131072 % 18446744073709551616) = ((B * 131072 % 18446744073709551616 : Nat) : Int) by omega, bits_xor_u64_nat _ _ lB (by omega), hC]
  have hv : xorNextN X = C := by unfold xorNextN; simp only []; rw [← hA, ← hB, ← hC]
  rw [hv]
  clear hA hB hC hv
  have hss : ∀ v v', (w.setCell ⟨rb, 0, none⟩ v).setCell ⟨rb, 0, none⟩ v' = w.setCell ⟨rb, 0, none⟩ v' := setCell_setCell w rb 0
  go_enter Tryz.func242, Tryz.ntmps242
  go_wp2
  go_region
  all_goals go_wp2
  all_goals go_region
  all_goals go_wp2
  all_goals go_region
  all_goals go_wp2
  go_ret
  exact ⟨rfl, rfl⟩
set_option maxHeartbeats 1000000 in
theorem npow_w (n : Nat) (hn : n < 4611686018427387904) (w : World) :
    Calls Tryz.prog 241 #[.int .i64 n] w fun e w' => e = .returned (.int .u64 ((1 <<< bitsLen n : Nat) : Int)) ∧ w' = w := by
  have hLen : ∀ w, Calls Tryz.prog 89 #[.int .u64 (n : Int)] w fun e w' => e = .returned (.int .i64 (bitsLen n : Nat)) ∧ w' = w := fun w => by
    have h := Tryz.bits_Len (n : Int) w (by omega) (by omega)
    rwa [Int.toNat_natCast, bitLen_eq _ (by omega)] at h
  have hk : bitsLen n ≤ 62 := (bitsLen_le_iff n 62).2 (by omega)
  have hp := wrap_two_pow (bitsLen n) hk
  have wr : IntKind.u64.wrap (n : Int) = n := by simp [IntKind.wrap, IntKind.bits, IntKind.signed]; omega
  go_enter Tryz.func241, Tryz.ntmps241
  go_wp2_with (first | (go_at_call 89; refine (hLen _).mono ?_; rintro e w' ⟨rfl, rfl⟩))
  go_ret
  exact ⟨rfl, rfl⟩
theorem xor_lt (X : Nat) (h : X < 18446744073709551616) : xorNextN X < 18446744073709551616 := xorNextN_lt X h
end
theorem grown_new {a w : World} {row : Option Nat} (h : a.grownBy w row) {p : Addr} (hp : a.heap.size ≤ p.block) (u : Value) : a.grownBy (w.setCell p u) row :=
  ⟨h.os, h.tape, h.output, by simpa [World.setCell] using h.size, fun i hi hne => (Below.heap_setCell w p u i (by rintro rfl; omega)).trans (h.block i hi hne)⟩
/-- A random number's cell. -/
def Rnd (w : World) (S : Nat) : Prop := S < w.heap.size ∧ w.frozen? ⟨S, 0, none⟩ = false ∧ ∃ X : Nat, X < 18446744073709551616 ∧ w.cell? ⟨S, 0, none⟩ = some (.int .u64 X)
theorem Rnd.keep {R n S : Nat} {w w' : World} (h : Rnd w S) (hs : Sd R n w w') (hne : S ≠ R) : Rnd w' S := by
  obtain ⟨h1, h2, X, h3, h4⟩ := h
  exact ⟨Nat.lt_of_lt_of_le h1 hs.1.size, (hs.1.frozen_far ⟨S, 0, none⟩ h1 (by simpa using hne)).trans h2, X, h3, (hs.1.cell_far ⟨S, 0, none⟩ h1 (by simpa using hne)).trans h4⟩
theorem Rnd.set {S X : Nat} {w : World} (h : Rnd w S) (hX : X < 18446744073709551616) (k : Nat) : Rnd ((w.setCell ⟨S, 0, none⟩ (.int .u64 X)).drewN k) S := by
  obtain ⟨h1, h2, Y, h3, h4⟩ := h
  refine ⟨by simpa using h1, by rw [World.frozen?_drewN]; simpa using h2, X, hX, by rw [World.cell?_drewN]; exact World.cell?_setCell_same _ _ _ h4⟩
set_option maxHeartbeats 4000000 in
set_option maxRecDepth 1000000 in
theorem brk_w (R n c a b : Nat) (w : World) (h : TRow w R n) (hab : a + 12 < b) (hb : b ≤ n) (hn : n ≤ 4000000000) :
    Calls Tryz.prog 228 #[.iface 239 (.slice (some ⟨R, 0, none⟩) n c), .int .i64 a, .int .i64 b] w fun e w' => SdU R n w e w' := by
  have hRl := h.lt
  obtain ⟨m, hm⟩ : ∃ m : Nat, (b : Int) - a = m := ⟨b - a, by omega⟩
  have hm1 : a + m ≤ b := by omega
  have hm2 : b ≤ a + m := by omega
  have hm3 : 12 < m := by omega
  have wr : IntKind.u64.wrap (m : Int) = m := by simp [IntKind.wrap, IntKind.bits, IntKind.signed]; omega
  have HB := Lib.hid (below_a1 (w := w) (o := .cells #[.int .u64 m] 327))
  have HH := Lib.hid (h.below HB.out h.lt)
  have HN := Lib.hid (show w.heap.size ≠ R by omega)
  have HN2 := Lib.hid (show R ≠ w.heap.size by omega)
  have HR0 := Lib.hid (show Rnd (w.alloc (.cells #[.int .u64 m] 327)) w.heap.size from ⟨by simp, by simp, m, by omega, by simp⟩)
  have HM := Lib.hid hm
  obtain ⟨M, hM⟩ : ∃ M : Nat, M = 1 <<< Sort.bitsLen m := ⟨_, rfl⟩
  have hM1 : 1 ≤ M := by rw [hM, Nat.one_shiftLeft]; exact Nat.two_pow_pos _
  have hM2 : M ≤ 2 * m := by rw [hM, Nat.one_shiftLeft]; exact Sort.two_pow_bitsLen_le (by omega)
  have HP := Lib.hid fun W : World => npow_w m (by omega) W
  rw [← hM] at HP
  have mS := mSwap R n c
  clear h hm hM hRl
  go_enter Tryz.func228, Tryz.ntmps228
  go_upto_if 15 with fail
  rw [HM.out]
  go_wp2_with fail
  refine (HP.out _).mono ?_; rintro e w1 ⟨rfl, rfl⟩
  have HS0 := Lib.hid (show Sd R n w (w.alloc (.cells #[.int .u64 m] 327)) from ⟨⟨HB.out.os, HB.out.tape, HB.out.output, HB.out.size, fun i hi _ => HB.out.block i hi⟩, HH.out⟩)
  generalize w.alloc (.cells #[.int .u64 m] 327) = w1 at *
  obtain ⟨S, hS⟩ : ∃ S, S = w.heap.size := ⟨_, rfl⟩
  have HSS := Lib.hid (show w.heap.size ≤ S by omega)
  rw [← hS] at HN HN2 HR0 ⊢
  clear hS HB HH
  go_wp2_with fail
  go_loopw [9] (fun v wr => ∃ t : Nat, v = .int .i64 ((a : Int) + (m : Int) / 4 * 2 - 1 + (t : Int)) ∧ t ≤ 3 ∧ Sd R n w wr ∧ Rnd wr S) (fun v _ => ((a : Int) + (m : Int) / 4 * 2 + 2 - intOf v).toNat)
  case atStart => exact ⟨0, by simp, by omega, HS0.out, HR0.out⟩
  case round =>
    clear HS0 HR0
    obtain ⟨t, rfl, ht, hs, hr⟩ := hrel
    have HS := Lib.hid hs
    have HR := Lib.hid hr
    clear hs hr
    by_cases ht3 : t < 3
    · have hle : (a : Int) + (m : Int) / 4 * 2 - 1 + (t : Int) ≤ (a : Int) + (m : Int) / 4 * 2 + 1 := by omega
      obtain ⟨q1, q2, X, hX, q3⟩ := HR.out
      obtain ⟨Y, hY⟩ : ∃ Y : Nat, Y = Sort.xorNextN X := ⟨_, rfl⟩
      have hY2 : Y < 18446744073709551616 := by rw [hY]; exact xor_lt X hX
      have HX := Lib.hid (next_w S X hX _ q3 q2)
      rw [← hY] at HX
      obtain ⟨O, hO⟩ : ∃ O : Nat, O = Y &&& (M - 1) := ⟨_, rfl⟩
      have lO : O ≤ M - 1 := by rw [hO]; exact Nat.and_le_right
      have eAnd : bits .and .u64 (Y : Int) ((M : Int) - 1) = (O : Int) := by
        rw [show ((M : Int) - 1) = ((M - 1 : Nat) : Int) by omega, bits_and_u64_nat _ _ hY2 (by omega), hO]
      have HS2 := Lib.hid (show Sd R n w ((wr.setCell ⟨S, 0, none⟩ (.int .u64 Y)).drewN 3) from Sd.drewN ⟨grown_new HS.out.1 HSS.out _, HS.out.2.other HN2.out _⟩ 3)
      have HR2 := Lib.hid (HR.out.set hY2 3)
      clear hY hO q1 q2 q3 hX
      go_wp2_with fail
      refine HX.out.mono ?_; rintro e w2 ⟨rfl, rfl⟩
      generalize (wr.setCell ⟨S, 0, none⟩ (.int .u64 Y)).drewN 3 = w2 at *
      go_upto_if 43 with fail
      by_cases hLO : m ≤ O
      · have hLOz : (m : Int) ≤ (O : Int) := by omega
        go_wp2_with fail
        refine (swap_i R n c _ _ _ HS2.out.2 (by omega) (by omega) (by omega) (by omega) hn).mono ?_; rintro e wa ⟨rfl, ha⟩
        have HA := Lib.hid (HS2.out.trans ha)
        have HRA := Lib.hid (HR2.out.keep ha HN.out)
        clear ha
        go_wp2_with fail
        go_roundw
        case rel => exact ⟨t + 1, by go_num, by omega, HA.out, HRA.out⟩
        case measure => simp [intOf]; omega
      · have hLOz : ¬ (m : Int) ≤ (O : Int) := by omega
        go_wp2_with fail
        refine (swap_i R n c _ _ _ HS2.out.2 (by omega) (by omega) (by omega) (by omega) hn).mono ?_; rintro e wa ⟨rfl, ha⟩
        have HA := Lib.hid (HS2.out.trans ha)
        have HRA := Lib.hid (HR2.out.keep ha HN.out)
        clear ha
        go_wp2_with fail
        go_roundw
        case rel => exact ⟨t + 1, by go_num, by omega, HA.out, HRA.out⟩
        case measure => simp [intOf]; omega
    · obtain rfl : t = 3 := by omega
      have hle : ¬ ((a : Int) + (m : Int) / 4 * 2 - 1 + ((3 : Nat) : Int) ≤ (a : Int) + (m : Int) / 4 * 2 + 1) := by omega
      go_wp2_with fail
      go_end0
      exact ⟨rfl, HS.out⟩
end Go.Proofs.YtnlpjncljbaapaaGreatDoor
