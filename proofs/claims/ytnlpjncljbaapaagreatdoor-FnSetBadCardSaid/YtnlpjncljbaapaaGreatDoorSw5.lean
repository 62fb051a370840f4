/- sort.Sort over moments, walked weakly: partial insertion. -/
import Derived.Test.YtnlpjncljbaapaaGreatDoorSw1
namespace Go.Proofs.YtnlpjncljbaapaaGreatDoor
open Go.RowKit

set_option maxRecDepth 100000 in
set_option maxHeartbeats 4000000 in
theorem pins_w (R n c a b : Nat) (w : World) (h : TRow w R n) (hab : a + 12 < b) (hb : b ≤ n) (hn : n ≤ 4000000000) :
    Calls Tryz.prog 231 #[.iface 239 (.slice (some ⟨R, 0, none⟩) n c), .int .i64 a, .int .i64 b] w fun e w' => SdB R n w e w' := by
  have HH := Lib.hid (Sd.refl h)
  have mL := mLess R n c
  have mS := mSwap R n c
  clear h
  go_enter Tryz.func231, Tryz.ntmps231
  go_wp2_with fail
  go_loopw [7, 8] (fun u v wr => ∃ (i0 : Int) (k : Nat), u = .int .i64 i0 ∧ v = .int .i64 k ∧ (a : Int) + 1 ≤ i0 ∧ i0 ≤ b ∧ k ≤ 5 ∧ Sd R n w wr) (fun _ v _ => 5 - (intOf v).toNat)
  case atStart => exact ⟨_, 0, rfl, rfl, by omega, by omega, by omega, HH.out⟩
  case round =>
    clear HH
    obtain ⟨i0, k, rfl, rfl, q1, q2, hk, hs⟩ := hrel
    have HS := Lib.hid hs
    clear hs
    by_cases hk5 : k < 5
    · have hk5i : (k : Int) < 5 := by omega
      go_upto_block 2 with fail
      go_cut [7] (fun x wc => ∃ v : Int, x = .int .i64 v ∧ i0 ≤ v ∧ v ≤ b ∧ Sd R n w wc)
      case first =>
        go_wp2_with fail
        go_loopw [7] (fun x wc => ∃ v : Int, x = .int .i64 v ∧ i0 ≤ v ∧ v ≤ b ∧ Sd R n w wc) (fun x _ => (b - intOf x).toNat)
        case atStart => exact ⟨i0, rfl, by omega, by omega, HS.out⟩
        case round =>
          obtain ⟨v, rfl, v1, v2, hs⟩ := hrel
          have HX := Lib.hid hs
          clear hs
          by_cases hv : v < b
          · go_wp2_with fail
            refine (less_i R n c _ _ _ HX.out.2 (by omega) (by omega) (by omega) (by omega) hn).mono ?_; rintro e wy ⟨bb, rfl, hwy⟩
            have Hwy := Lib.hid (HX.out.trans hwy)
            clear hwy
            cases bb with
            | false =>
              go_wp2_with fail
              go_roundw
              case rel => exact ⟨v + 1, rfl, by omega, by omega, Hwy.out⟩
              case measure => simp [intOf]; omega
            | true =>
              go_wp2_with fail
              go_meet
              exact ⟨v, rfl, by omega, by omega, Hwy.out⟩
          · go_wp2_with fail
            go_meet
            exact ⟨v, rfl, by omega, by omega, HX.out⟩
      case rest =>
        obtain ⟨i1, rfl, r1, r2, hs⟩ := hcut
        have HS1 := Lib.hid hs
        clear hs
        by_cases hib : i1 = b
        · subst hib
          go_wp2_with fail
          go_ret
          exact ⟨_, rfl, HS1.out⟩
        · have hibb : (i1 == (b : Int)) = false := by simpa using hib
          have hib2 : i1 < b := by omega
          by_cases h50 : (b : Int) - a < 50
          · go_wp2_with fail
            go_ret
            exact ⟨_, rfl, HS1.out⟩
          · go_wp2_with fail
            refine (swap_i R n c _ _ _ HS1.out.2 (by omega) (by omega) (by omega) (by omega) hn).mono ?_; rintro e wa ⟨rfl, hwa⟩
            have Hwa := Lib.hid (HS1.out.trans hwa)
            clear hwa
            go_upto_if 45 with fail
            go_cut [] (fun wc => Sd R n w wc)
            case first =>
              by_cases hc : 2 ≤ i1 - a
              · rw [decide_eq_true hc]
                go_wp2_with fail
                go_loopw [9] (fun x wc => ∃ v : Int, x = .int .i64 v ∧ 0 ≤ v ∧ v < b ∧ Sd R n w wc) (fun x _ => (intOf x).toNat)
                case atStart => exact ⟨_, rfl, by omega, by omega, Hwa.out⟩
                case round =>
                  obtain ⟨v, rfl, v1, v2, hs⟩ := hrel
                  have HX := Lib.hid hs
                  clear hs
                  by_cases hv : 1 ≤ v
                  · go_wp2_with fail
                    refine (less_i R n c _ _ _ HX.out.2 (by omega) (by omega) (by omega) (by omega) hn).mono ?_; rintro e wy ⟨bb, rfl, hwy⟩
                    have Hwy := Lib.hid (HX.out.trans hwy)
                    clear hwy
                    cases bb with
                    | true =>
                      go_wp2_with fail
                      refine (swap_i R n c _ _ _ Hwy.out.2 (by omega) (by omega) (by omega) (by omega) hn).mono ?_; rintro e wz ⟨rfl, hwz⟩
                      have Hwz := Lib.hid (Hwy.out.trans hwz)
                      clear hwz
                      go_wp2_with fail
                      go_roundw
                      case rel => exact ⟨v - 1, rfl, by omega, by omega, Hwz.out⟩
                      case measure => simp [intOf]; omega
                    | false =>
                      go_wp2_with fail
                      go_meet
                      exact Hwy.out
                  · go_wp2_with fail
                    go_meet
                    exact HX.out
              · go_wp2_with fail
                go_meet
                exact Hwa.out
            case rest =>
              have HS2 := Lib.hid hcut
              clear hcut
              by_cases hc : 2 ≤ (b : Int) - i1
              · go_wp2_with fail
                go_loopw [10] (fun x wc => ∃ v : Int, x = .int .i64 v ∧ 1 ≤ v ∧ v ≤ b ∧ Sd R n w wc) (fun x _ => (b - intOf x).toNat)
                case atStart => exact ⟨_, rfl, by omega, by omega, HS2.out⟩
                case round =>
                  clear HS2
                  obtain ⟨v, rfl, v1, v2, hs⟩ := hrel
                  have HX := Lib.hid hs
                  clear hs
                  by_cases hv : v < b
                  · go_wp2_with fail
                    refine (less_i R n c _ _ _ HX.out.2 (by omega) (by omega) (by omega) (by omega) hn).mono ?_; rintro e wy ⟨bb, rfl, hwy⟩
                    have Hwy := Lib.hid (HX.out.trans hwy)
                    clear hwy
                    cases bb with
                    | true =>
                      go_wp2_with fail
                      refine (swap_i R n c _ _ _ Hwy.out.2 (by omega) (by omega) (by omega) (by omega) hn).mono ?_; rintro e wz ⟨rfl, hwz⟩
                      have Hwz := Lib.hid (Hwy.out.trans hwz)
                      clear hwz
                      go_wp2_with fail
                      go_roundw
                      case rel => exact ⟨v + 1, rfl, by omega, by omega, Hwz.out⟩
                      case measure => simp [intOf]; omega
                    | false =>
                      go_wp2_with fail
                      go_roundw
                      case rel => exact ⟨i1, k + 1, rfl, by go_num, by omega, by omega, by omega, Hwy.out⟩
                      case measure => simp [intOf]; omega
                  · go_wp2_with fail
                    go_roundw
                    case rel => exact ⟨i1, k + 1, rfl, by go_num, by omega, by omega, by omega, HX.out⟩
                    case measure => simp [intOf]; omega
              · go_wp2_with fail
                go_roundw
                case rel => exact ⟨i1, k + 1, rfl, by go_num, by omega, by omega, by omega, HS2.out⟩
                case measure => simp [intOf]; omega
    · have hk5i : ¬ (k : Int) < 5 := by omega
      go_wp2_with fail
      go_ret
      exact ⟨_, rfl, HS.out⟩
end Go.Proofs.YtnlpjncljbaapaaGreatDoor
