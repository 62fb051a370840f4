/- sort.Sort over moments, walked weakly: it ends, and nothing but the row is turned. -/
import Derived.Test.YtnlpjncljbaapaaGreatDoorSw5
import Derived.Test.YtnlpjncljbaapaaGreatDoorSw3
import Derived.Test.YtnlpjncljbaapaaGreatDoorSw4
namespace Go.Proofs.YtnlpjncljbaapaaGreatDoor
open Go.RowKit

set_option maxRecDepth 100000 in
set_option maxHeartbeats 16000000 in
theorem pdq_w (R n c : Nat) (hn : n ≤ 4000000000) (k : Nat) : ∀ (a b : Nat) (lim : Int) (w : World), TRow w R n → a ≤ b → b ≤ n → b - a ≤ k → 0 ≤ lim → lim ≤ 1000 →
    Calls Tryz.prog 205 #[.iface 239 (.slice (some ⟨R, 0, none⟩) n c), .int .i64 a, .int .i64 b, .int .i64 lim] w fun e w' => SdU R n w e w' := by
  induction k using Nat.strongRecOn with
  | ind k ih =>
    intro a b lim w h hab hb hk hl0 hl1
    have HH := Lib.hid (Sd.refl h)
    have HI := Lib.hid ih
    have mL := mLess R n c
    clear h ih
    go_enter Tryz.func205, Tryz.ntmps205
    go_wp2_with fail
    go_loopw [1, 2, 3, 8, 9] (fun s1 s2 s3 s8 s9 wr => ∃ (p q : Nat) (l : Int) (b8 b9 : Bool), s1 = .int .i64 p ∧ s2 = .int .i64 q ∧ s3 = .int .i64 l ∧ s8 = .bool b8 ∧ s9 = .bool b9 ∧ a ≤ p ∧ p ≤ q ∧ q ≤ b ∧ 0 ≤ l ∧ l ≤ 1000 ∧ Sd R n w wr) (fun s1 s2 _ _ _ _ => (intOf s2 - intOf s1).toNat)
    case atStart => exact ⟨a, b, lim, true, true, rfl, rfl, rfl, rfl, rfl, Nat.le_refl _, hab, Nat.le_refl _, hl0, hl1, HH.out⟩
    case round =>
      clear HH
      obtain ⟨p, q, l, b8, b9, rfl, rfl, rfl, rfl, rfl, q1, q2, q3, q4, q5, hs⟩ := hrel
      have HS := Lib.hid hs
      clear hs
      by_cases h12 : (q : Int) - p ≤ 12
      · go_wp2_with fail
        refine (insertion_w R n c p q _ HS.out.2 q2 (by omega) hn).mono ?_; rintro e w1 ⟨rfl, h1⟩
        have H1 := Lib.hid (HS.out.trans h1)
        clear h1
        go_wp2_with fail
        (try simp only [Exit.inBlock, Exit.then])
        refine bodyPost_ret (results_none rfl _ _ _) rfl ?_
        exact ⟨rfl, H1.out⟩
      · by_cases hl : l = 0
        · subst hl
          go_wp2_with fail
          refine (heap_w R n c p q _ HS.out.2 q2 (by omega) hn).mono ?_; rintro e w1 ⟨rfl, h1⟩
          have H1 := Lib.hid (HS.out.trans h1)
          clear h1
          go_wp2_with fail
          (try simp only [Exit.inBlock, Exit.then])
          refine bodyPost_ret (results_none rfl _ _ _) rfl ?_
          exact ⟨rfl, H1.out⟩
        · have hlb : (l == 0) = false := by simpa using hl
          go_upto_if 35 with fail
          go_cut [3] (fun s3 wc => ∃ l' : Int, s3 = .int .i64 l' ∧ 0 ≤ l' ∧ l' ≤ 1000 ∧ Sd R n w wc)
          case first =>
            cases b8 with
            | true =>
              go_wp2_with fail
              go_meet
              exact ⟨l, rfl, q4, q5, HS.out⟩
            | false =>
              go_wp2_with fail
              refine (brk_w R n c p q _ HS.out.2 (by omega) (by omega) hn).mono ?_; rintro e w1 ⟨rfl, h1⟩
              have H1 := Lib.hid (HS.out.trans h1)
              clear h1
              go_wp2_with fail
              go_meet
              exact ⟨l - 1, rfl, by omega, by omega, H1.out⟩
          case rest =>
            obtain ⟨l', rfl, l0, l1, hs⟩ := hcut
            have HS1 := Lib.hid hs
            clear hs HS
            go_wp2_with fail
            refine (choose_w R n c p q _ HS1.out.2 (by omega) (by omega) hn).mono ?_; rintro e w2 ⟨pv, hint, rfl, p0, p1, h2⟩
            have HS2 := Lib.hid (HS1.out.trans h2)
            clear h2 HS1
            go_upto_if 50 with fail
            go_cut [11, 12] (fun s11 s12 wc => ∃ x t : Int, s11 = .int .i64 x ∧ s12 = .int .i64 t ∧ (p : Int) ≤ x ∧ x < q ∧ Sd R n w wc)
            case first =>
              by_cases hh : hint = 2
              · subst hh
                go_wp2_with fail
                refine (rev_w R n c p q _ HS2.out.2 q2 (by omega) hn).mono ?_; rintro e w3 ⟨rfl, h3⟩
                have HS3 := Lib.hid (HS2.out.trans h3)
                clear h3
                go_wp2_with fail
                go_meet
                exact ⟨_, _, rfl, rfl, by omega, by omega, HS3.out⟩
              · have hhb : (hint == 2) = false := by simpa using hh
                go_wp2_with fail
                go_meet
                exact ⟨_, _, rfl, rfl, p0, p1, HS2.out⟩
            case rest =>
              clear HS2 p0 p1
              obtain ⟨pv, hint, rfl, rfl, p0, p1, hs⟩ := hcut
              have HS2 := Lib.hid hs
              clear hs
              go_upto_region 15 with fail
              go_cut [68] (fun s wc' => ∃ x : Bool, s = .bool x ∧ Sd R n w wc')
              case first =>
                by_cases hh : hint = 1
                · subst hh
                  cases b8 <;> cases b9
                  all_goals
                    go_wp2_with fail
                    go_meet
                    exact ⟨_, rfl, HS2.out⟩
                · have hhb : (hint == 1) = false := by simpa using hh
                  cases b8 <;> cases b9
                  all_goals
                    go_wp2_with fail
                    go_meet
                    exact ⟨_, rfl, HS2.out⟩
              case rest =>
                clear HS2
                obtain ⟨x, rfl, hs⟩ := hcut
                have HS3 := Lib.hid hs
                clear hs
                go_upto_if 68 with fail
                go_cut [] (fun wc' => Sd R n w wc')
                case first =>
                  cases x with
                  | false =>
                    go_wp2_with fail
                    go_meet
                    exact HS3.out
                  | true =>
                    go_wp2_with fail
                    refine (pins_w R n c p q _ HS3.out.2 (by omega) (by omega) hn).mono ?_; rintro e w4 ⟨bb, rfl, h4⟩
                    have HS4 := Lib.hid (HS3.out.trans h4)
                    clear h4
                    cases bb with
                    | true =>
                      go_wp2_with fail
                      (try simp only [Exit.inBlock, Exit.then])
                      refine bodyPost_ret (results_none rfl _ _ _) rfl ?_
                      exact ⟨rfl, HS4.out⟩
                    | false =>
                      go_wp2_with fail
                      go_meet
                      exact HS4.out
                case rest =>
                  clear HS3
                  have HS4 := Lib.hid hcut
                  clear hcut
                  go_upto_region 17 with fail
                  go_cut [82] (fun s wc' => ∃ x : Bool, s = .bool x ∧ Sd R n w wc')
                  case first =>
                    by_cases hp0 : 0 < p
                    · go_wp2_with fail
                      refine (less_i R n c _ _ _ HS4.out.2 (by omega) (by omega) (by omega) (by omega) hn).mono ?_; rintro e wy ⟨bb, rfl, hwy⟩
                      have Hwy := Lib.hid (HS4.out.trans hwy)
                      clear hwy
                      go_wp2_with fail
                      go_meet
                      exact ⟨_, rfl, Hwy.out⟩
                    · have hp00 : p = 0 := by omega
                      subst hp00
                      go_wp2_with fail
                      go_meet
                      exact ⟨_, rfl, HS4.out⟩
                  case rest =>
                    clear HS4
                    obtain ⟨x, rfl, hs⟩ := hcut
                    have HS5 := Lib.hid hs
                    clear hs
                    cases x with
                    | true =>
                      go_wp2_with fail
                      refine (partEq_w R n c p q pv _ HS5.out.2 (by omega) p0 p1 hn).mono ?_; rintro e w6 ⟨y, rfl, y0, y1, h6⟩
                      have HS6 := Lib.hid (HS5.out.trans h6)
                      clear h6
                      obtain ⟨mid, rfl⟩ : ∃ mid : Nat, y = mid := ⟨y.toNat, by omega⟩
                      go_wp2_with fail
                      go_roundw
                      case rel => exact ⟨mid, q, _, b8, b9, rfl, rfl, rfl, rfl, rfl, by omega, by omega, q3, l0, l1, HS6.out⟩
                      case measure => simp [intOf]; omega
                    | false =>
                      go_wp2_with fail
                      refine (part_w R n c p q pv _ HS5.out.2 (by omega) p0 p1 hn).mono ?_; rintro e w6 ⟨y, b15, rfl, y0, y1, h6⟩
                      have HS6 := Lib.hid (HS5.out.trans h6)
                      clear h6
                      obtain ⟨mid, rfl⟩ : ∃ mid : Nat, y = mid := ⟨y.toNat, by omega⟩
                      by_cases hlr : (mid : Int) - p < (q : Int) - mid
                      · go_wp2_with fail
                        refine (HI.out (mid - p) (by omega) p mid l' _ HS6.out.2 (by omega) (by omega) (Nat.le_refl _) l0 l1).mono ?_; rintro e w7 ⟨rfl, h7⟩
                        have HS7 := Lib.hid (HS6.out.trans h7)
                        clear h7
                        go_wp2_with fail
                        go_roundw
                        case rel => exact ⟨mid + 1, q, l', _, _, by go_num, rfl, rfl, rfl, rfl, by omega, by omega, q3, l0, l1, HS7.out⟩
                        case measure => simp [intOf]; omega
                      · have HC := Lib.hid fun W (hW : TRow W R n) => HI.out (q - (mid + 1)) (by omega) (mid + 1) q l' W hW (by omega) (by omega) (Nat.le_refl _) l0 l1
                        rw [show ((mid + 1 : Nat) : Int) = (mid : Int) + 1 from by omega] at HC
                        go_wp2_with fail
                        refine (HC.out _ HS6.out.2).mono ?_; rintro e w7 ⟨rfl, h7⟩
                        have HS7 := Lib.hid (HS6.out.trans h7)
                        clear h7 HC
                        go_wp2_with fail
                        go_roundw
                        case rel => exact ⟨p, mid, l', _, _, rfl, rfl, rfl, rfl, rfl, q1, by omega, by omega, l0, l1, HS7.out⟩
                        case measure => simp [intOf]; omega
theorem len_w (p : Option Addr) (n c : Nat) (w : World) : Calls Tryz.prog 272 #[.slice p n c] w fun e w' => e = .returned (.int .i64 n) ∧ w = w' := by
  go_enter Tryz.func272, Tryz.ntmps272
  go_wp2
  go_ret
  exact ⟨rfl, rfl⟩
theorem mLen' (p : Option Addr) (n c : Nat) (w : World) : Sem.run Tryz.prog (method 456 239 (.slice p n c) "Len") w = .ok (272, .slice p n c) w := by kernel_rfl
theorem bitLen_small (n : Nat) (h : n ≤ 4000000000) : Lib.bitLen n ≤ 64 := Lib.bitLen_le n 64 (by omega) (by omega)
set_option maxRecDepth 100000 in
set_option maxHeartbeats 2000000 in
/-- sort.Sort: of a row of moments nothing but the row is turned. -/
theorem sort_w (R n c : Nat) (w : World) (h : TRow w R n) (hn : n ≤ 4000000000) :
    Calls Tryz.prog 169 #[.iface 239 (.slice (some ⟨R, 0, none⟩) n c)] w fun e w' => SdU R n w e w' := by
  have HH := Lib.hid h
  have mN := mLen' (some ⟨R, 0, none⟩) n c
  have wr : IntKind.u64.wrap (n : Int) = n := by simp [IntKind.wrap, IntKind.bits, IntKind.signed]; omega
  have HL := Lib.hid fun W => Tryz.bits_Len (n : Int) W (by omega) (by omega)
  have hbl := bitLen_small n hn
  clear h
  by_cases h1 : n ≤ 1
  · go_enter Tryz.func169, Tryz.ntmps169
    go_wp2_with fail
    refine (len_w _ _ _ _).mono ?_; rintro e w' ⟨rfl, rfl⟩
    go_wp2_with fail
    (try simp only [Exit.inBlock, Exit.then])
    refine bodyPost_ret (results_none rfl _ _ _) rfl ?_
    exact ⟨rfl, Sd.refl HH.out⟩
  · go_enter Tryz.func169, Tryz.ntmps169
    go_wp2_with fail
    refine (len_w _ _ _ _).mono ?_; rintro e w' ⟨rfl, rfl⟩
    go_wp2_with fail
    refine (HL.out _).mono ?_; rintro e w' ⟨rfl, rfl⟩
    go_wp2_with fail
    refine (pdq_w R n c hn n 0 n _ _ HH.out (by omega) (by omega) (by omega) (by omega) (by simpa using (by omega))).mono ?_; rintro e w' ⟨rfl, hs⟩
    go_wp2_with fail
    go_end0
    exact ⟨rfl, hs⟩
end Go.Proofs.YtnlpjncljbaapaaGreatDoor
