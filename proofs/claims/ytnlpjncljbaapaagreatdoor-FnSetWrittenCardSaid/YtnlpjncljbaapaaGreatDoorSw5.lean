/- sort.Sort over moments, walked weakly: the choice of a pivot. -/
import Derived.Test.YtnlpjncljbaapaaGreatDoorSw1
namespace Go.Proofs.YtnlpjncljbaapaaGreatDoor
open Go.RowKit

/-- A counter in memory, whatever it holds. -/
def Cnt (w : World) (S : Nat) : Prop := ∃ x : Int, w.rowIs S 3 1 (fun _ => .int .i64 x)
/-- What a step may turn that counts. -/
structure Sd2 (R n S : Nat) (w w' : World) : Prop where
  os : w'.os = w.os
  tape : w'.tape = w.tape
  output : w'.output = w.output
  size : w.heap.size ≤ w'.heap.size
  block : ∀ i, i < w.heap.size → i ≠ R → i ≠ S → w'.heap[i]? = w.heap[i]?
  row : TRow w' R n
  cnt : Cnt w' S
theorem Sd2.refl {R n S : Nat} {w : World} (h : TRow w R n) (hc : Cnt w S) : Sd2 R n S w w := ⟨rfl, rfl, rfl, Nat.le_refl _, fun _ _ _ _ => rfl, h, hc⟩
theorem Sd2.trans {R n S : Nat} {a b c : World} (h : Sd2 R n S a b) (k : Sd2 R n S b c) : Sd2 R n S a c :=
  ⟨k.os.trans h.os, k.tape.trans h.tape, k.output.trans h.output, Nat.le_trans h.size k.size, fun i hi h1 h2 => (k.block i (Nat.lt_of_lt_of_le hi h.size) h1 h2).trans (h.block i hi h1 h2), k.row, k.cnt⟩
theorem Cnt.lt {w : World} {S : Nat} (h : Cnt w S) : S < w.heap.size := by obtain ⟨x, hx⟩ := h; exact hx.lt
theorem Sd.two {R n S : Nat} {w w' : World} (h : Sd R n w w') (hc : Cnt w S) (hne : S ≠ R) : Sd2 R n S w w' :=
  ⟨h.1.os, h.1.tape, h.1.output, h.1.size, fun i hi h1 _ => h.1.block i hi (by simpa using h1), h.2, by
    obtain ⟨x, hx⟩ := hc
    exact ⟨x, hx.of_block (h.1.block S hx.lt (by simpa using hne))⟩⟩
theorem Sd2.set {R n S : Nat} {a w : World} (h : Sd2 R n S a w) (hne : S ≠ R) (x : Int) : Sd2 R n S a (w.setCell ⟨S, 0, none⟩ (.int .i64 x)) :=
  ⟨h.os, h.tape, h.output, by simpa [World.setCell] using h.size, fun i hi h1 h2 => (Below.heap_setCell w ⟨S, 0, none⟩ _ i h2).trans (h.block i hi h1 h2), h.row.other (Ne.symm hne) _, by
    obtain ⟨y, hy⟩ := h.cnt
    exact ⟨x, (hy.set 0 _).congr fun i hi => by
      have : i = 0 := by omega
      simp [this]⟩⟩
/-- Two places, one place, of a range. -/
def SdP (R n S : Nat) (lo hi : Int) (w : World) (e : Ending) (w' : World) : Prop := ∃ x y : Int, e = .returned (.tuple #[.int .i64 x, .int .i64 y]) ∧ lo ≤ x ∧ x < hi ∧ lo ≤ y ∧ y < hi ∧ Sd2 R n S w w'
def SdO (R n S : Nat) (lo hi : Int) (w : World) (e : Ending) (w' : World) : Prop := ∃ x : Int, e = .returned (.int .i64 x) ∧ lo ≤ x ∧ x < hi ∧ Sd2 R n S w w'
def SdQ (R n a b : Nat) (w : World) (e : Ending) (w' : World) : Prop := ∃ p t : Int, e = .returned (.tuple #[.int .i64 p, .int .i64 t]) ∧ (a : Int) ≤ p ∧ p < b ∧ Sd R n w w'

set_option maxRecDepth 100000 in
set_option maxHeartbeats 2000000 in
theorem order2_w (R n c S : Nat) (lo hi a b : Int) (w : World) (h : TRow w R n) (hS : Cnt w S) (hne : S ≠ R) (h0 : 0 ≤ lo) (h1 : hi ≤ n) (a0 : lo ≤ a) (a1 : a < hi) (b0 : lo ≤ b) (b1 : b < hi) (hn : n ≤ 4000000000) :
    Calls Tryz.prog 250 #[.iface 239 (.slice (some ⟨R, 0, none⟩) n c), .int .i64 a, .int .i64 b, .pointer (some ⟨S, 0, none⟩)] w fun e w' => SdP R n S lo hi w e w' := by
  have HH := Lib.hid h
  have HC := Lib.hid hS
  have HN := Lib.hid hne
  have mL := mLess R n c
  clear h hS hne
  go_enter Tryz.func250, Tryz.ntmps250
  go_wp2_with fail
  refine (less_i R n c _ _ _ HH.out (by omega) (by omega) (by omega) (by omega) hn).mono ?_; rintro e w1 ⟨bb, rfl, hs⟩
  have hs2 := hs.two HC.out HN.out
  have HS := Lib.hid hs2
  obtain ⟨x, hx⟩ := hs2.cnt
  have hx0 := hx.cell (i := 0) (by omega)
  have hx1 := hx.frozen 0
  clear hs hs2 hx
  cases bb with
  | true =>
    go_wp2_with fail
    go_ret2
    exact ⟨_, _, rfl, b0, b1, a0, a1, HS.out.set HN.out _⟩
  | false =>
    go_wp2_with fail
    go_ret2
    exact ⟨_, _, rfl, a0, a1, b0, b1, HS.out⟩
set_option maxRecDepth 100000 in
set_option maxHeartbeats 2000000 in
theorem median_w (R n c S : Nat) (lo hi a b d : Int) (w : World) (h : TRow w R n) (hS : Cnt w S) (hne : S ≠ R) (h0 : 0 ≤ lo) (h1 : hi ≤ n) (a0 : lo ≤ a) (a1 : a < hi) (b0 : lo ≤ b) (b1 : b < hi) (d0 : lo ≤ d) (d1 : d < hi) (hn : n ≤ 4000000000) :
    Calls Tryz.prog 244 #[.iface 239 (.slice (some ⟨R, 0, none⟩) n c), .int .i64 a, .int .i64 b, .int .i64 d, .pointer (some ⟨S, 0, none⟩)] w fun e w' => SdO R n S lo hi w e w' := by
  have HH := Lib.hid h
  have HC := Lib.hid hS
  have HN := Lib.hid hne
  clear h hS hne
  go_enter Tryz.func244, Tryz.ntmps244
  go_wp2_with fail
  refine (order2_w R n c S lo hi _ _ _ HH.out HC.out HN.out h0 h1 a0 a1 b0 b1 hn).mono ?_; rintro e w1 ⟨x1, y1, rfl, x10, x11, y10, y11, hs⟩
  have HS1 := Lib.hid hs
  clear hs
  go_wp2_with fail
  refine (order2_w R n c S lo hi _ _ _ HS1.out.row HS1.out.cnt HN.out h0 h1 y10 y11 d0 d1 hn).mono ?_; rintro e w2 ⟨x2, y2, rfl, x20, x21, y20, y21, hs⟩
  have HS2 := Lib.hid (HS1.out.trans hs)
  clear hs
  go_wp2_with fail
  refine (order2_w R n c S lo hi _ _ _ HS2.out.row HS2.out.cnt HN.out h0 h1 x10 x11 x20 x21 hn).mono ?_; rintro e w3 ⟨x3, y3, rfl, x30, x31, y30, y31, hs⟩
  have HS3 := Lib.hid (HS2.out.trans hs)
  clear hs
  go_wp2_with fail
  go_ret
  exact ⟨_, rfl, y30, y31, HS3.out⟩
set_option maxRecDepth 100000 in
set_option maxHeartbeats 2000000 in
theorem medianAdj_w (R n c S : Nat) (lo hi a : Int) (w : World) (h : TRow w R n) (hS : Cnt w S) (hne : S ≠ R) (h0 : 0 ≤ lo) (h1 : hi ≤ n) (a0 : lo + 1 ≤ a) (a1 : a + 1 < hi) (hn : n ≤ 4000000000) :
    Calls Tryz.prog 243 #[.iface 239 (.slice (some ⟨R, 0, none⟩) n c), .int .i64 a, .pointer (some ⟨S, 0, none⟩)] w fun e w' => SdO R n S lo hi w e w' := by
  have HH := Lib.hid h
  have HC := Lib.hid hS
  have HN := Lib.hid hne
  clear h hS hne
  go_enter Tryz.func243, Tryz.ntmps243
  go_wp2_with fail
  refine (median_w R n c S lo hi _ _ _ _ HH.out HC.out HN.out h0 h1 (by omega) (by omega) (by omega) (by omega) (by omega) (by omega) hn).mono ?_; rintro e w1 ⟨x1, rfl, x10, x11, hs⟩
  have HS1 := Lib.hid hs
  clear hs
  go_wp2_with fail
  go_ret
  exact ⟨_, rfl, x10, x11, HS1.out⟩
theorem Sd2.out {R n : Nat} {w w1 w' : World} (hb : Below w.heap.size w w1) (h : Sd2 R n w.heap.size w1 w') : Sd R n w w' :=
  ⟨⟨h.os.trans hb.os, h.tape.trans hb.tape, h.output.trans hb.output, Nat.le_trans hb.size h.size, fun i hi hne => (h.block i (Nat.lt_of_lt_of_le hi hb.size) (fun e => hne (by rw [e])) (by omega)).trans (hb.block i hi)⟩, h.row⟩
theorem cnt_new (w : World) : Cnt (w.alloc (.cells #[.int .i64 0] 3)) w.heap.size := ⟨0, World.rowIs_alloc w #[.int .i64 0] 3 (fun _ => .int .i64 0) (fun i hi => by
  have : i = 0 := by simp at hi; omega
  subst this; rfl)⟩
set_option maxRecDepth 100000 in
set_option maxHeartbeats 4000000 in
theorem choose_w (R n c a b : Nat) (w : World) (h : TRow w R n) (hab : a + 12 < b) (hb : b ≤ n) (hn : n ≤ 4000000000) :
    Calls Tryz.prog 229 #[.iface 239 (.slice (some ⟨R, 0, none⟩) n c), .int .i64 a, .int .i64 b] w fun e w' => SdQ R n a b w e w' := by
  have HB := Lib.hid (below_a1 (w := w) (o := .cells #[.int .i64 0] 3))
  have HH := Lib.hid (h.below HB.out h.lt)
  have HC := Lib.hid (cnt_new w)
  have hRl := h.lt
  have HN := Lib.hid (show w.heap.size ≠ R by omega)
  obtain ⟨l, hl⟩ : ∃ l : Int, l = (b : Int) - a := ⟨_, rfl⟩
  have hl1 : 12 < l := by omega
  have hl2 : (a : Int) + l ≤ b := by omega
  have hl3 : (b : Int) ≤ a + l := by omega
  have hl4 : l ≤ 4000000000 := by omega
  have hbn : (b : Int) ≤ n := by omega
  have HL := Lib.hid hl
  clear h hl hRl
  go_enter Tryz.func229, Tryz.ntmps229
  go_upto_if 32 with fail
  rw [← HL.out]
  generalize w.alloc (.cells #[.int .i64 0] 3) = w1 at *
  generalize hS : w.heap.size = S at *
  by_cases h50 : 50 ≤ l
  · go_wp2_with fail
    refine (medianAdj_w R n c S a b _ _ HH.out HC.out HN.out (by omega) hbn (by omega) (by omega) hn).mono ?_; rintro e w2 ⟨x1, rfl, x10, x11, hs⟩
    have HS1 := Lib.hid hs
    clear hs
    go_wp2_with fail
    refine (medianAdj_w R n c S a b _ _ HS1.out.row HS1.out.cnt HN.out (by omega) hbn (by omega) (by omega) hn).mono ?_; rintro e w3 ⟨x2, rfl, x20, x21, hs⟩
    have HS2 := Lib.hid (HS1.out.trans hs)
    clear hs
    go_wp2_with fail
    refine (medianAdj_w R n c S a b _ _ HS2.out.row HS2.out.cnt HN.out (by omega) hbn (by omega) (by omega) hn).mono ?_; rintro e w4 ⟨x3, rfl, x30, x31, hs⟩
    have HS3 := Lib.hid (HS2.out.trans hs)
    clear hs
    go_wp2_with fail
    refine (median_w R n c S a b _ _ _ _ HS3.out.row HS3.out.cnt HN.out (by omega) hbn x10 x11 x20 x21 x30 x31 hn).mono ?_; rintro e w5 ⟨x4, rfl, x40, x41, hs⟩
    have HS4 := Lib.hid (HS3.out.trans hs)
    obtain ⟨y, hy⟩ := HS4.out.cnt
    have hy0 := hy.cell (i := 0) (by omega)
    clear hs hy
    go_wp2_with fail
    all_goals
      go_ret2
      subst hS
      exact ⟨_, _, rfl, x40, x41, HS4.out.out HB.out⟩
  · go_wp2_with fail
    refine (median_w R n c S a b _ _ _ _ HH.out HC.out HN.out (by omega) hbn (by omega) (by omega) (by omega) (by omega) (by omega) (by omega) hn).mono ?_; rintro e w5 ⟨x4, rfl, x40, x41, hs⟩
    have HS4 := Lib.hid hs
    obtain ⟨y, hy⟩ := HS4.out.cnt
    have hy0 := hy.cell (i := 0) (by omega)
    clear hs hy
    go_wp2_with fail
    all_goals
      go_ret2
      subst hS
      exact ⟨_, _, rfl, x40, x41, HS4.out.out HB.out⟩
end Go.Proofs.YtnlpjncljbaapaaGreatDoor

/- sort.Sort over moments, walked weakly: partial insertion. -/
namespace Go.Proofs.YtnlpjncljbaapaaGreatDoor
open Go.RowKit

set_option maxRecDepth 100000 in
set_option maxHeartbeats 4000000 in
theorem pins_w (R n c a b : Nat) (w : World) (h : TRow w R n) (hab : a + 12 < b) (hb : b ≤ n) (hn : n ≤ 4000000000) :
    Calls Tryz.prog 231 #[.iface 239 (.slice (some ⟨R, 0, none⟩) n c), .int .i64 a, .int .i64 b] w fun e w' => SdB R n w e w' := by
  have HH := Lib.hid (Sd.refl h)
  have mL := mLess R n c
  have mS := mSwap R n c
  clear h
  go_enter Tryz.func231, Tryz.ntmps231
  go_wp2_with fail
  go_loopw [7, 8] (fun u v wr => ∃ (i0 : Int) (k : Nat), u = .int .i64 i0 ∧ v = .int .i64 k ∧ (a : Int) + 1 ≤ i0 ∧ i0 ≤ b ∧ k ≤ 5 ∧ Sd R n w wr) (fun _ v _ => 5 - (intOf v).toNat)
  case atStart => exact ⟨_, 0, rfl, rfl, by omega, by omega, by omega, HH.out⟩
  case round =>
    clear HH
    obtain ⟨i0, k, rfl, rfl, q1, q2, hk, hs⟩ := hrel
    have HS := Lib.hid hs
    clear hs
    by_cases hk5 : k < 5
    · have hk5i : (k : Int) < 5 := by omega
      go_upto_block 2 with fail
      go_cut [7] (fun x wc => ∃ v : Int, x = .int .i64 v ∧ i0 ≤ v ∧ v ≤ b ∧ Sd R n w wc)
      case first =>
        go_wp2_with fail
        go_loopw [7] (fun x wc => ∃ v : Int, x = .int .i64 v ∧ i0 ≤ v ∧ v ≤ b ∧ Sd R n w wc) (fun x _ => (b - intOf x).toNat)
        case atStart => exact ⟨i0, rfl, by omega, by omega, HS.out⟩
        case round =>
          obtain ⟨v, rfl, v1, v2, hs⟩ := hrel
          have HX := Lib.hid hs
          clear hs
          by_cases hv : v < b
          · go_wp2_with fail
            refine (less_i R n c _ _ _ HX.out.2 (by omega) (by omega) (by omega) (by omega) hn).mono ?_; rintro e wy ⟨bb, rfl, hwy⟩
            have Hwy := Lib.hid (HX.out.trans hwy)
            clear hwy
            cases bb with
            | false =>
              go_wp2_with fail
              go_roundw
              case rel => exact ⟨v + 1, rfl, by omega, by omega, Hwy.out⟩
              case measure => simp [intOf]; omega
            | true =>
              go_wp2_with fail
              go_meet
              exact ⟨v, rfl, by omega, by omega, Hwy.out⟩
          · go_wp2_with fail
            go_meet
            exact ⟨v, rfl, by omega, by omega, HX.out⟩
      case rest =>
        obtain ⟨i1, rfl, r1, r2, hs⟩ := hcut
        have HS1 := Lib.hid hs
        clear hs
        by_cases hib : i1 = b
        · subst hib
          go_wp2_with fail
          go_ret
          exact ⟨_, rfl, HS1.out⟩
        · have hibb : (i1 == (b : Int)) = false := by simpa using hib
          have hib2 : i1 < b := by omega
          by_cases h50 : (b : Int) - a < 50
          · go_wp2_with fail
            go_ret
            exact ⟨_, rfl, HS1.out⟩
          · go_wp2_with fail
            refine (swap_i R n c _ _ _ HS1.out.2 (by omega) (by omega) (by omega) (by omega) hn).mono ?_; rintro e wa ⟨rfl, hwa⟩
            have Hwa := Lib.hid (HS1.out.trans hwa)
            clear hwa
            go_upto_if 45 with fail
            go_cut [] (fun wc => Sd R n w wc)
            case first =>
              by_cases hc : 2 ≤ i1 - a
              · rw [decide_eq_true hc]
                go_wp2_with fail
                go_loopw [9] (fun x wc => ∃ v : Int, x = .int .i64 v ∧ 0 ≤ v ∧ v < b ∧ Sd R n w wc) (fun x _ => (intOf x).toNat)
                case atStart => exact ⟨_, rfl, by omega, by omega, Hwa.out⟩
                case round =>
                  obtain ⟨v, rfl, v1, v2, hs⟩ := hrel
                  have HX := Lib.hid hs
                  clear hs
                  by_cases hv : 1 ≤ v
                  · go_wp2_with fail
                    refine (less_i R n c _ _ _ HX.out.2 (by omega) (by omega) (by omega) (by omega) hn).mono ?_; rintro e wy ⟨bb, rfl, hwy⟩
                    have Hwy := Lib.hid (HX.out.trans hwy)
                    clear hwy
                    cases bb with
                    | true =>
                      go_wp2_with fail
                      refine (swap_i R n c _ _ _ Hwy.out.2 (by omega) (by omega) (by omega) (by omega) hn).mono ?_; rintro e wz ⟨rfl, hwz⟩
                      have Hwz := Lib.hid (Hwy.out.trans hwz)
                      clear hwz
                      go_wp2_with fail
                      go_roundw
                      case rel => exact ⟨v - 1, rfl, by omega, by omega, Hwz.out⟩
                      case measure => simp [intOf]; omega
                    | false =>
                      go_wp2_with fail
                      go_meet
                      exact Hwy.out
                  · go_wp2_with fail
                    go_meet
                    exact HX.out
              · go_wp2_with fail
                go_meet
                exact Hwa.out
            case rest =>
              have HS2 := Lib.hid hcut
              clear hcut
              by_cases hc : 2 ≤ (b : Int) - i1
              · go_wp2_with fail
                go_loopw [10] (fun x wc => ∃ v : Int, x = .int .i64 v ∧ 1 ≤ v ∧ v ≤ b ∧ Sd R n w wc) (fun x _ => (b - intOf x).toNat)
                case atStart => exact ⟨_, rfl, by omega, by omega, HS2.out⟩
                case round =>
                  clear HS2
                  obtain ⟨v, rfl, v1, v2, hs⟩ := hrel
                  have HX := Lib.hid hs
                  clear hs
                  by_cases hv : v < b
                  · go_wp2_with fail
                    refine (less_i R n c _ _ _ HX.out.2 (by omega) (by omega) (by omega) (by omega) hn).mono ?_; rintro e wy ⟨bb, rfl, hwy⟩
                    have Hwy := Lib.hid (HX.out.trans hwy)
                    clear hwy
                    cases bb with
                    | true =>
                      go_wp2_with fail
                      refine (swap_i R n c _ _ _ Hwy.out.2 (by omega) (by omega) (by omega) (by omega) hn).mono ?_; rintro e wz ⟨rfl, hwz⟩
                      have Hwz := Lib.hid (Hwy.out.trans hwz)
                      clear hwz
                      go_wp2_with fail
                      go_roundw
                      case rel => exact ⟨v + 1, rfl, by omega, by omega, Hwz.out⟩
                      case measure => simp [intOf]; omega
                    | false =>
                      go_wp2_with fail
                      go_roundw
                      case rel => exact ⟨i1, k + 1, rfl, by go_num, by omega, by omega, by omega, Hwy.out⟩
                      case measure => simp [intOf]; omega
                  · go_wp2_with fail
                    go_roundw
                    case rel => exact ⟨i1, k + 1, rfl, by go_num, by omega, by omega, by omega, HX.out⟩
                    case measure => simp [intOf]; omega
              · go_wp2_with fail
                go_roundw
                case rel => exact ⟨i1, k + 1, rfl, by go_num, by omega, by omega, by omega, HS2.out⟩
                case measure => simp [intOf]; omega
    · have hk5i : ¬ (k : Int) < 5 := by omega
      go_wp2_with fail
      go_ret
      exact ⟨_, rfl, HS.out⟩
end Go.Proofs.YtnlpjncljbaapaaGreatDoor
