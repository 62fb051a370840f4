/- sort.Sort over moments, walked weakly: siftDown, heapSort, reverseRange. -/
import Derived.Test.YtnlpjncljbaapaaGreatDoorSw
namespace Go.Proofs.YtnlpjncljbaapaaGreatDoor
open Go.RowKit

theorem less_i (R n c : Nat) (x y : Int) (w : World) (h : TRow w R n) (x0 : 0 ≤ x) (x1 : x < n) (y0 : 0 ≤ y) (y1 : y < n) (hn : n ≤ 4000000000) :
    Calls Tryz.prog 273 #[.slice (some ⟨R, 0, none⟩) n c, .int .i64 x, .int .i64 y] w fun e w' => SdB R n w e w' := by
  obtain ⟨i, rfl⟩ : ∃ i : Nat, x = i := ⟨x.toNat, by omega⟩
  obtain ⟨j, rfl⟩ : ∃ j : Nat, y = j := ⟨y.toNat, by omega⟩
  exact less_w R n c i j w h (by omega) (by omega) hn
theorem swap_i (R n c : Nat) (x y : Int) (w : World) (h : TRow w R n) (x0 : 0 ≤ x) (x1 : x < n) (y0 : 0 ≤ y) (y1 : y < n) (hn : n ≤ 4000000000) :
    Calls Tryz.prog 274 #[.slice (some ⟨R, 0, none⟩) n c, .int .i64 x, .int .i64 y] w fun e w' => SdU R n w e w' := by
  obtain ⟨i, rfl⟩ : ∃ i : Nat, x = i := ⟨x.toNat, by omega⟩
  obtain ⟨j, rfl⟩ : ∃ j : Nat, y = j := ⟨y.toNat, by omega⟩
  exact swap_w R n c i j w h (by omega) (by omega) hn

set_option maxRecDepth 100000 in
set_option maxHeartbeats 4000000 in
theorem sift_w (R n c lo hi first : Nat) (w : World) (h : TRow w R n) (hlo : lo ≤ hi) (hb : first + hi ≤ n) (hn : n ≤ 4000000000) :
    Calls Tryz.prog 240 #[.iface 239 (.slice (some ⟨R, 0, none⟩) n c), .int .i64 lo, .int .i64 hi, .int .i64 first] w fun e w' => SdU R n w e w' := by
  have HH := Lib.hid h
  have mL := mLess R n c
  have mS := mSwap R n c
  clear h
  go_enter Tryz.func240, Tryz.ntmps240
  go_wp2
  go_loopw [8] (fun v wr => ∃ r : Nat, v = .int .i64 r ∧ r ≤ hi ∧ Sd R n w wr) (fun v _ => hi - (intOf v).toNat)
  case atStart => exact ⟨lo, rfl, hlo, Sd.refl HH.out⟩
  case round =>
    obtain ⟨r, rfl, hr, hs⟩ := hrel
    have HS := Lib.hid hs
    clear hs
    by_cases h0 : 2 * r + 1 < hi
    · by_cases h1 : 2 * r + 2 < hi
      · have h1i : (2 * (r : Int) + 1 + 1 : Int) < hi := by omega
        go_wp2_with fail
        refine (less_i R n c _ _ _ HS.out.2 (by omega) (by omega) (by omega) (by omega) hn).mono ?_; rintro e wa ⟨b1, rfl, hwa⟩
        have Hwa := Lib.hid (HS.out.trans hwa)
        clear hwa
        cases b1 with
        | true =>
          go_wp2_with fail
          refine (less_i R n c _ _ _ Hwa.out.2 (by omega) (by omega) (by omega) (by omega) hn).mono ?_; rintro e wb ⟨b2, rfl, hwb⟩
          have Hwb := Lib.hid (Hwa.out.trans hwb)
          clear hwb
          cases b2 with
          | true =>
            go_wp2_with fail
            refine (swap_i R n c _ _ _ Hwb.out.2 (by omega) (by omega) (by omega) (by omega) hn).mono ?_; rintro e wc ⟨rfl, hwc⟩
            have Hwc := Lib.hid (Hwb.out.trans hwc)
            clear hwc
            go_wp2_with fail
            go_roundw
            case rel => exact ⟨2 * r + 2, by go_num, by omega, Hwc.out⟩
            case measure => simp [intOf]; omega
          | false =>
            go_wp2_with fail
            (try simp only [Exit.inBlock, Exit.then])
            refine bodyPost_ret (results_none rfl _ _ _) rfl ?_
            exact ⟨rfl, Hwb.out⟩
        | false =>
          go_wp2_with fail
          refine (less_i R n c _ _ _ Hwa.out.2 (by omega) (by omega) (by omega) (by omega) hn).mono ?_; rintro e wb ⟨b2, rfl, hwb⟩
          have Hwb := Lib.hid (Hwa.out.trans hwb)
          clear hwb
          cases b2 with
          | true =>
            go_wp2_with fail
            refine (swap_i R n c _ _ _ Hwb.out.2 (by omega) (by omega) (by omega) (by omega) hn).mono ?_; rintro e wc ⟨rfl, hwc⟩
            have Hwc := Lib.hid (Hwb.out.trans hwc)
            clear hwc
            go_wp2_with fail
            go_roundw
            case rel => exact ⟨2 * r + 1, by go_num, by omega, Hwc.out⟩
            case measure => simp [intOf]; omega
          | false =>
            go_wp2_with fail
            (try simp only [Exit.inBlock, Exit.then])
            refine bodyPost_ret (results_none rfl _ _ _) rfl ?_
            exact ⟨rfl, Hwb.out⟩
      · have h1i : ¬ (2 * (r : Int) + 1 + 1 : Int) < hi := by omega
        go_wp2_with fail
        refine (less_i R n c _ _ _ HS.out.2 (by omega) (by omega) (by omega) (by omega) hn).mono ?_; rintro e wb ⟨b2, rfl, hwb⟩
        have Hwb := Lib.hid (HS.out.trans hwb)
        clear hwb
        cases b2 with
        | true =>
          go_wp2_with fail
          refine (swap_i R n c _ _ _ Hwb.out.2 (by omega) (by omega) (by omega) (by omega) hn).mono ?_; rintro e wc ⟨rfl, hwc⟩
          have Hwc := Lib.hid (Hwb.out.trans hwc)
          clear hwc
          go_wp2_with fail
          go_roundw
          case rel => exact ⟨2 * r + 1, by go_num, by omega, Hwc.out⟩
          case measure => simp [intOf]; omega
        | false =>
          go_wp2_with fail
          (try simp only [Exit.inBlock, Exit.then])
          refine bodyPost_ret (results_none rfl _ _ _) rfl ?_
          exact ⟨rfl, Hwb.out⟩
    · go_wp2
      go_end0
      exact ⟨rfl, HS.out⟩
set_option maxRecDepth 100000 in
set_option maxHeartbeats 4000000 in
theorem heap_w (R n c a b : Nat) (w : World) (h : TRow w R n) (hab : a ≤ b) (hb : b ≤ n) (hn : n ≤ 4000000000) :
    Calls Tryz.prog 227 #[.iface 239 (.slice (some ⟨R, 0, none⟩) n c), .int .i64 a, .int .i64 b] w fun e w' => SdU R n w e w' := by
  have HH := Lib.hid h
  have mL := mLess R n c
  have mS := mSwap R n c
  clear h
  obtain ⟨m, hm⟩ : ∃ m : Nat, (b : Int) - a = m := ⟨b - a, by omega⟩
  have hm1 : a + m ≤ b := by omega
  have hm2 : b ≤ a + m := by omega
  have HM := Lib.hid hm
  clear hm
  go_enter Tryz.func227, Tryz.ntmps227
  go_wp2
  rw [HM.out]
  go_loopw [9] (fun v wr => ∃ k : Int, v = .int .i64 k ∧ -1 ≤ k ∧ k ≤ m ∧ Sd R n w wr) (fun v _ => (intOf v + 1).toNat)
  case atStart =>
    have e3 : -1 ≤ ((m : Int) - 1).tdiv 2 ∧ ((m : Int) - 1).tdiv 2 ≤ m := by
      rcases Nat.eq_zero_or_pos m with h0 | h0
      · subst h0; decide
      · rw [Int.tdiv_eq_ediv_of_nonneg (by omega)]; omega
    exact ⟨_, rfl, e3.1, e3.2, Sd.refl HH.out⟩
  case round =>
    obtain ⟨k, rfl, h1, h2, hs⟩ := hrel
    have HS := Lib.hid hs
    clear hs
    by_cases h0 : 0 ≤ k
    · have HC := Lib.hid fun W (hW : TRow W R n) => sift_w R n c k.toNat m a W hW (by omega) (by omega) hn
      rw [show ((k.toNat : Nat) : Int) = k from by omega] at HC
      go_wp2_with fail
      refine (HC.out _ HS.out.2).mono ?_; rintro e wa ⟨rfl, ha⟩
      have HA := Lib.hid (HS.out.trans ha)
      clear ha HC
      go_wp2_with fail
      go_roundw
      case rel => exact ⟨k - 1, rfl, by omega, by omega, HA.out⟩
      case measure => simp [intOf]; omega
    · go_wp2_with fail
      go_loopw [10] (fun v wr => ∃ k : Int, v = .int .i64 k ∧ -1 ≤ k ∧ k < m ∧ Sd R n w wr) (fun v _ => (intOf v + 1).toNat)
      case atStart => exact ⟨_, rfl, by omega, by omega, HS.out⟩
      case round =>
        clear HS h0
        obtain ⟨j, rfl, j1, j2, hs⟩ := hrel
        have HS := Lib.hid hs
        clear hs
        by_cases h0 : 0 ≤ j
        · have HC := Lib.hid fun W (hW : TRow W R n) => sift_w R n c 0 j.toNat a W hW (by omega) (by omega) hn
          rw [show ((j.toNat : Nat) : Int) = j from by omega] at HC
          go_wp2_with fail
          refine (swap_i R n c _ _ _ HS.out.2 (by omega) (by omega) (by omega) (by omega) hn).mono ?_; rintro e wa ⟨rfl, hwa⟩
          have Hwa := Lib.hid (HS.out.trans hwa)
          clear hwa
          go_wp2_with fail
          refine (HC.out _ Hwa.out.2).mono ?_; rintro e wb ⟨rfl, ha⟩
          have HA := Lib.hid (Hwa.out.trans ha)
          clear ha HC
          go_wp2_with fail
          go_roundw
          case rel => exact ⟨j - 1, rfl, by omega, by omega, HA.out⟩
          case measure => simp [intOf]; omega
        · go_wp2_with fail
          go_end0
          exact ⟨rfl, HS.out⟩
set_option maxRecDepth 100000 in
set_option maxHeartbeats 4000000 in
theorem rev_w (R n c a b : Nat) (w : World) (h : TRow w R n) (hab : a ≤ b) (hb : b ≤ n) (hn : n ≤ 4000000000) :
    Calls Tryz.prog 230 #[.iface 239 (.slice (some ⟨R, 0, none⟩) n c), .int .i64 a, .int .i64 b] w fun e w' => SdU R n w e w' := by
  have HH := Lib.hid h
  have mS := mSwap R n c
  clear h
  go_enter Tryz.func230, Tryz.ntmps230
  go_wp2
  go_loopw [6, 7] (fun u v wr => ∃ (i : Nat) (j : Int), u = .int .i64 i ∧ v = .int .i64 j ∧ a ≤ i ∧ i ≤ b ∧ -1 ≤ j ∧ j < b ∧ Sd R n w wr) (fun u v _ => (intOf v - intOf u).toNat)
  case atStart => exact ⟨a, b - 1, rfl, rfl, by omega, by omega, by omega, by omega, Sd.refl HH.out⟩
  case round =>
    obtain ⟨i, j, rfl, rfl, h1, h2, h3, h4, hs⟩ := hrel
    have HS := Lib.hid hs
    clear hs
    by_cases h0 : (i : Int) < j
    · go_wp2_with fail
      refine (swap_i R n c _ _ _ HS.out.2 (by omega) (by omega) (by omega) (by omega) hn).mono ?_; rintro e wa ⟨rfl, hwa⟩
      have Hwa := Lib.hid (HS.out.trans hwa)
      clear hwa
      go_wp2_with fail
      go_roundw
      case rel => exact ⟨i + 1, j - 1, by go_num, rfl, by omega, by omega, by omega, by omega, Hwa.out⟩
      case measure => simp [intOf]; omega
    · go_wp2
      go_end0
      exact ⟨rfl, HS.out⟩
end Go.Proofs.YtnlpjncljbaapaaGreatDoor
