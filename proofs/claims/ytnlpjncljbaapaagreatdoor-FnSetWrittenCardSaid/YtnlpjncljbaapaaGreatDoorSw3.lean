/- sort.Sort over moments, walked weakly: partitions. -/
import Derived.Test.YtnlpjncljbaapaaGreatDoorSw1
namespace Go.Proofs.YtnlpjncljbaapaaGreatDoor
open Go.RowKit

def SdI (R n : Nat) (lo hi : Int) (w : World) (e : Ending) (w' : World) : Prop := ∃ x : Int, e = .returned (.int .i64 x) ∧ lo ≤ x ∧ x ≤ hi ∧ Sd R n w w'
def SdIB (R n : Nat) (lo hi : Int) (w : World) (e : Ending) (w' : World) : Prop := ∃ (x : Int) (b : Bool), e = .returned (.tuple #[.int .i64 x, .bool b]) ∧ lo ≤ x ∧ x < hi ∧ Sd R n w w'
set_option maxRecDepth 100000 in
set_option maxHeartbeats 4000000 in
theorem partEq_w (R n c a b : Nat) (p : Int) (w : World) (h : TRow w R n) (hb : b ≤ n) (p0 : (a : Int) ≤ p) (p1 : p < b) (hn : n ≤ 4000000000) :
    Calls Tryz.prog 232 #[.iface 239 (.slice (some ⟨R, 0, none⟩) n c), .int .i64 a, .int .i64 b, .int .i64 p] w fun e w' => SdI R n ((a : Int) + 1) b w e w' := by
  have HH := Lib.hid (Sd.refl h)
  have mL := mLess R n c
  have mS := mSwap R n c
  clear h
  go_enter Tryz.func232, Tryz.ntmps232
  go_wp2_with fail
  refine (swap_i R n c _ _ _ HH.out.2 (by omega) (by omega) (by omega) (by omega) hn).mono ?_; rintro e wa ⟨rfl, hwa⟩
  have Hwa := Lib.hid (HH.out.trans hwa)
  clear hwa
  go_wp2_with fail
  go_loopw [9, 10] (fun u v wr => ∃ i0 j0 : Int, u = .int .i64 i0 ∧ v = .int .i64 j0 ∧ (a : Int) + 1 ≤ i0 ∧ i0 ≤ b ∧ (a : Int) ≤ j0 ∧ j0 < b ∧ i0 ≤ j0 + 2 ∧ Sd R n w wr) (fun u v _ => (intOf v + 2 - intOf u).toNat)
  case atStart => exact ⟨_, _, rfl, rfl, by omega, by omega, by omega, by omega, by omega, Hwa.out⟩
  case round =>
    clear Hwa
    obtain ⟨i0, j0, rfl, rfl, q1, q2, q3, q4, q5, hs⟩ := hrel
    have HS := Lib.hid hs
    clear hs
    go_upto_block 2 with fail
    go_cut [9] (fun x wc => ∃ v : Int, x = .int .i64 v ∧ i0 ≤ v ∧ v ≤ j0 + 2 ∧ v ≤ b ∧ Sd R n w wc)
    case first =>
      go_wp2_with fail
      go_loopw [9] (fun x wc => ∃ v : Int, x = .int .i64 v ∧ i0 ≤ v ∧ v ≤ j0 + 2 ∧ v ≤ b ∧ Sd R n w wc) (fun x _ => (j0 + 2 - intOf x).toNat)
      case atStart => exact ⟨i0, rfl, by omega, by omega, by omega, HS.out⟩
      case round =>
        obtain ⟨v, rfl, v1, v2, v3, hs⟩ := hrel
        have HX := Lib.hid hs
        clear hs
        by_cases hc : v ≤ j0
        · go_wp2_with fail
          refine (less_i R n c _ _ _ HX.out.2 (by omega) (by omega) (by omega) (by omega) hn).mono ?_; rintro e wy ⟨bb, rfl, hwy⟩
          have Hwy := Lib.hid (HX.out.trans hwy)
          clear hwy
          cases bb with
          | false =>
            go_wp2_with fail
            go_roundw
            case rel => exact ⟨v + 1, rfl, by omega, by omega, by omega, Hwy.out⟩
            case measure => simp [intOf]; omega
          | true =>
            go_wp2_with fail
            go_meet
            exact ⟨v, rfl, by omega, by omega, by omega, Hwy.out⟩
        · go_wp2_with fail
          go_meet
          exact ⟨v, rfl, by omega, by omega, by omega, HX.out⟩
    case rest =>
      obtain ⟨i1, rfl, v1, v2, v3, hs⟩ := hcut
      have HS1 := Lib.hid hs
      clear hs
      go_upto_block 4 with fail
      go_cut [10] (fun x wc => ∃ v : Int, x = .int .i64 v ∧ (a : Int) ≤ v ∧ v ≤ j0 ∧ i1 ≤ v + 2 ∧ Sd R n w wc)
      case first =>
        go_wp2_with fail
        go_loopw [10] (fun x wc => ∃ v : Int, x = .int .i64 v ∧ (a : Int) ≤ v ∧ v ≤ j0 ∧ i1 ≤ v + 2 ∧ Sd R n w wc) (fun x _ => (intOf x + 1).toNat)
        case atStart => exact ⟨j0, rfl, by omega, by omega, by omega, HS1.out⟩
        case round =>
          obtain ⟨v, rfl, v1, v2, v3, hs⟩ := hrel
          have HX := Lib.hid hs
          clear hs
          by_cases hc : i1 ≤ v
          · go_wp2_with fail
            refine (less_i R n c _ _ _ HX.out.2 (by omega) (by omega) (by omega) (by omega) hn).mono ?_; rintro e wy ⟨bb, rfl, hwy⟩
            have Hwy := Lib.hid (HX.out.trans hwy)
            clear hwy
            cases bb with
            | true =>
              go_wp2_with fail
              go_roundw
              case rel => exact ⟨v - 1, rfl, by omega, by omega, by omega, Hwy.out⟩
              case measure => simp [intOf]; omega
            | false =>
              go_wp2_with fail
              go_meet
              exact ⟨v, rfl, by omega, by omega, by omega, Hwy.out⟩
          · go_wp2_with fail
            go_meet
            exact ⟨v, rfl, by omega, by omega, by omega, HX.out⟩
      case rest =>
        obtain ⟨j1, rfl, v1, v2, v3, hs⟩ := hcut
        have HS2 := Lib.hid hs
        clear hs
        by_cases hgt : j1 < i1
        · go_wp2_with fail
          go_ret
          exact ⟨_, rfl, by omega, by omega, HS2.out⟩
        · go_wp2_with fail
          refine (swap_i R n c _ _ _ HS2.out.2 (by omega) (by omega) (by omega) (by omega) hn).mono ?_; rintro e wz ⟨rfl, hwz⟩
          have Hwz := Lib.hid (HS2.out.trans hwz)
          clear hwz
          go_wp2_with fail
          go_roundw
          case rel => exact ⟨i1 + 1, j1 - 1, rfl, rfl, by omega, by omega, by omega, by omega, by omega, Hwz.out⟩
          case measure => simp [intOf]; omega
set_option maxRecDepth 100000 in
set_option maxHeartbeats 4000000 in
theorem part_w (R n c a b : Nat) (p : Int) (w : World) (h : TRow w R n) (hb : b ≤ n) (p0 : (a : Int) ≤ p) (p1 : p < b) (hn : n ≤ 4000000000) :
    Calls Tryz.prog 233 #[.iface 239 (.slice (some ⟨R, 0, none⟩) n c), .int .i64 a, .int .i64 b, .int .i64 p] w fun e w' => SdIB R n a b w e w' := by
  have HH := Lib.hid (Sd.refl h)
  have mL := mLess R n c
  have mS := mSwap R n c
  clear h
  obtain ⟨i0, hi0⟩ : ∃ i0 : Int, i0 = (a : Int) + 1 := ⟨_, rfl⟩
  obtain ⟨j0, hj0⟩ : ∃ j0 : Int, j0 = (b : Int) - 1 := ⟨_, rfl⟩
  have q1 : (a : Int) + 1 ≤ i0 := by omega
  have q2 : i0 ≤ b := by omega
  have q3 : (a : Int) ≤ j0 := by omega
  have q4 : j0 < b := by omega
  have q5 : i0 ≤ j0 + 2 := by omega
  have HI := Lib.hid hi0
  have HJ := Lib.hid hj0
  clear hi0 hj0
  go_enter Tryz.func233, Tryz.ntmps233
  go_wp2_with fail
  refine (swap_i R n c _ _ _ HH.out.2 (by omega) (by omega) (by omega) (by omega) hn).mono ?_; rintro e wa ⟨rfl, hwa⟩
  have Hwa := Lib.hid (HH.out.trans hwa)
  clear hwa
  go_upto_block 0 with fail
  rw [← HI.out, ← HJ.out]
  go_upto_block 0 with fail
  go_cut [10] (fun x wc => ∃ v : Int, x = .int .i64 v ∧ i0 ≤ v ∧ v ≤ j0 + 2 ∧ v ≤ b ∧ Sd R n w wc)
  case first =>
    go_wp2_with fail
    go_loopw [10] (fun x wc => ∃ v : Int, x = .int .i64 v ∧ i0 ≤ v ∧ v ≤ j0 + 2 ∧ v ≤ b ∧ Sd R n w wc) (fun x _ => (j0 + 2 - intOf x).toNat)
    case atStart => exact ⟨i0, rfl, by omega, by omega, by omega, Hwa.out⟩
    case round =>
      obtain ⟨v, rfl, v1, v2, v3, hs⟩ := hrel
      have HX := Lib.hid hs
      clear hs
      by_cases hc : v ≤ j0
      · go_wp2_with fail
        refine (less_i R n c _ _ _ HX.out.2 (by omega) (by omega) (by omega) (by omega) hn).mono ?_; rintro e wy ⟨bb, rfl, hwy⟩
        have Hwy := Lib.hid (HX.out.trans hwy)
        clear hwy
        cases bb with
        | true =>
          go_wp2_with fail
          go_roundw
          case rel => exact ⟨v + 1, rfl, by omega, by omega, by omega, Hwy.out⟩
          case measure => simp [intOf]; omega
        | false =>
          go_wp2_with fail
          go_meet
          exact ⟨v, rfl, by omega, by omega, by omega, Hwy.out⟩
      · go_wp2_with fail
        go_meet
        exact ⟨v, rfl, by omega, by omega, by omega, HX.out⟩
  case rest =>
    obtain ⟨i1, rfl, v1, v2, v3, hs⟩ := hcut
    have HS1 := Lib.hid hs
    clear hs
    go_upto_block 2 with fail
    go_cut [11] (fun x wc => ∃ v : Int, x = .int .i64 v ∧ (a : Int) ≤ v ∧ v ≤ j0 ∧ i1 ≤ v + 2 ∧ Sd R n w wc)
    case first =>
      go_wp2_with fail
      go_loopw [11] (fun x wc => ∃ v : Int, x = .int .i64 v ∧ (a : Int) ≤ v ∧ v ≤ j0 ∧ i1 ≤ v + 2 ∧ Sd R n w wc) (fun x _ => (intOf x + 1).toNat)
      case atStart => exact ⟨j0, rfl, by omega, by omega, by omega, HS1.out⟩
      case round =>
        obtain ⟨v, rfl, v1, v2, v3, hs⟩ := hrel
        have HX := Lib.hid hs
        clear hs
        by_cases hc : i1 ≤ v
        · go_wp2_with fail
          refine (less_i R n c _ _ _ HX.out.2 (by omega) (by omega) (by omega) (by omega) hn).mono ?_; rintro e wy ⟨bb, rfl, hwy⟩
          have Hwy := Lib.hid (HX.out.trans hwy)
          clear hwy
          cases bb with
          | false =>
            go_wp2_with fail
            go_roundw
            case rel => exact ⟨v - 1, rfl, by omega, by omega, by omega, Hwy.out⟩
            case measure => simp [intOf]; omega
          | true =>
            go_wp2_with fail
            go_meet
            exact ⟨v, rfl, by omega, by omega, by omega, Hwy.out⟩
        · go_wp2_with fail
          go_meet
          exact ⟨v, rfl, by omega, by omega, by omega, HX.out⟩
    case rest =>
      obtain ⟨j1, rfl, v1, v2, v3, hs⟩ := hcut
      have HS2 := Lib.hid hs
      clear hs
      by_cases hgt : j1 < i1
      · go_wp2_with fail
        refine (swap_i R n c _ _ _ HS2.out.2 (by omega) (by omega) (by omega) (by omega) hn).mono ?_; rintro e wz ⟨rfl, hwz⟩
        have Hwz := Lib.hid (HS2.out.trans hwz)
        clear hwz
        go_wp2_with fail
        go_ret2
        exact ⟨_, _, rfl, by omega, by omega, Hwz.out⟩
      · go_wp2_with fail
        refine (swap_i R n c _ _ _ HS2.out.2 (by omega) (by omega) (by omega) (by omega) hn).mono ?_; rintro e wz ⟨rfl, hwz⟩
        have Hwz := Lib.hid (HS2.out.trans hwz)
        clear hwz
        go_wp2_with fail
        go_loopw [10, 11] (fun u v wr => ∃ i0 j0 : Int, u = .int .i64 i0 ∧ v = .int .i64 j0 ∧ (a : Int) + 1 ≤ i0 ∧ i0 ≤ b ∧ (a : Int) ≤ j0 ∧ j0 < b ∧ i0 ≤ j0 + 2 ∧ Sd R n w wr) (fun u v _ => (intOf v + 2 - intOf u).toNat)
        case atStart => exact ⟨i1 + 1, j1 - 1, rfl, rfl, by omega, by omega, by omega, by omega, by omega, Hwz.out⟩
        case round =>
          clear Hwz HS2 HS1 Hwa HI HJ
          obtain ⟨i0, j0, rfl, rfl, q1, q2, q3, q4, q5, hs⟩ := hrel
          have HS := Lib.hid hs
          clear hs
          go_upto_block 6 with fail
          go_cut [10] (fun x wc => ∃ v : Int, x = .int .i64 v ∧ i0 ≤ v ∧ v ≤ j0 + 2 ∧ v ≤ b ∧ Sd R n w wc)
          case first =>
            go_wp2_with fail
            go_loopw [10] (fun x wc => ∃ v : Int, x = .int .i64 v ∧ i0 ≤ v ∧ v ≤ j0 + 2 ∧ v ≤ b ∧ Sd R n w wc) (fun x _ => (j0 + 2 - intOf x).toNat)
            case atStart => exact ⟨i0, rfl, by omega, by omega, by omega, HS.out⟩
            case round =>
              obtain ⟨v, rfl, v1, v2, v3, hs⟩ := hrel
              have HX := Lib.hid hs
              clear hs
              by_cases hc : v ≤ j0
              · go_wp2_with fail
                refine (less_i R n c _ _ _ HX.out.2 (by omega) (by omega) (by omega) (by omega) hn).mono ?_; rintro e wy ⟨bb, rfl, hwy⟩
                have Hwy := Lib.hid (HX.out.trans hwy)
                clear hwy
                cases bb with
                | true =>
                  go_wp2_with fail
                  go_roundw
                  case rel => exact ⟨v + 1, rfl, by omega, by omega, by omega, Hwy.out⟩
                  case measure => simp [intOf]; omega
                | false =>
                  go_wp2_with fail
                  go_meet
                  exact ⟨v, rfl, by omega, by omega, by omega, Hwy.out⟩
              · go_wp2_with fail
                go_meet
                exact ⟨v, rfl, by omega, by omega, by omega, HX.out⟩
          case rest =>
            obtain ⟨i1, rfl, v1, v2, v3, hs⟩ := hcut
            have HS1 := Lib.hid hs
            clear hs
            go_upto_block 8 with fail
            go_cut [11] (fun x wc => ∃ v : Int, x = .int .i64 v ∧ (a : Int) ≤ v ∧ v ≤ j0 ∧ i1 ≤ v + 2 ∧ Sd R n w wc)
            case first =>
              go_wp2_with fail
              go_loopw [11] (fun x wc => ∃ v : Int, x = .int .i64 v ∧ (a : Int) ≤ v ∧ v ≤ j0 ∧ i1 ≤ v + 2 ∧ Sd R n w wc) (fun x _ => (intOf x + 1).toNat)
              case atStart => exact ⟨j0, rfl, by omega, by omega, by omega, HS1.out⟩
              case round =>
                obtain ⟨v, rfl, v1, v2, v3, hs⟩ := hrel
                have HX := Lib.hid hs
                clear hs
                by_cases hc : i1 ≤ v
                · go_wp2_with fail
                  refine (less_i R n c _ _ _ HX.out.2 (by omega) (by omega) (by omega) (by omega) hn).mono ?_; rintro e wy ⟨bb, rfl, hwy⟩
                  have Hwy := Lib.hid (HX.out.trans hwy)
                  clear hwy
                  cases bb with
                  | false =>
                    go_wp2_with fail
                    go_roundw
                    case rel => exact ⟨v - 1, rfl, by omega, by omega, by omega, Hwy.out⟩
                    case measure => simp [intOf]; omega
                  | true =>
                    go_wp2_with fail
                    go_meet
                    exact ⟨v, rfl, by omega, by omega, by omega, Hwy.out⟩
                · go_wp2_with fail
                  go_meet
                  exact ⟨v, rfl, by omega, by omega, by omega, HX.out⟩
            case rest =>
              obtain ⟨j1, rfl, v1, v2, v3, hs⟩ := hcut
              have HS2 := Lib.hid hs
              clear hs
              by_cases hgt : j1 < i1
              · go_wp2_with fail
                refine (swap_i R n c _ _ _ HS2.out.2 (by omega) (by omega) (by omega) (by omega) hn).mono ?_; rintro e wz ⟨rfl, hwz⟩
                have Hwz := Lib.hid (HS2.out.trans hwz)
                clear hwz
                go_wp2_with fail
                go_ret2
                exact ⟨_, _, rfl, by omega, by omega, Hwz.out⟩
              · go_wp2_with fail
                refine (swap_i R n c _ _ _ HS2.out.2 (by omega) (by omega) (by omega) (by omega) hn).mono ?_; rintro e wz ⟨rfl, hwz⟩
                have Hwz := Lib.hid (HS2.out.trans hwz)
                clear hwz
                go_wp2_with fail
                go_roundw
                case rel => exact ⟨i1 + 1, j1 - 1, rfl, rfl, by omega, by omega, by omega, by omega, by omega, Hwz.out⟩
                case measure => simp [intOf]; omega
end Go.Proofs.YtnlpjncljbaapaaGreatDoor
