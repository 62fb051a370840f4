/- spec.Text with no order, walked. -/
import Derived.Test.YtnlpjncljbaapaaGreatDoorSv
namespace Go.Proofs.YtnlpjncljbaapaaGreatDoor
open Go.RowKit

theorem bs_app59 (A B : List UInt8) : ((⟨A.toArray⟩ : ByteArray) ++ ⟨#[59]⟩ ++ ⟨B.toArray⟩) = ⟨(A ++ 59 :: B).toArray⟩ := by
  apply ByteArray.ext
  simp
theorem joinC_take (c : UInt8) {xs : List (List UInt8)} {k : Nat} {x : List UInt8} (h : xs[k]? = some x) (hk : 0 < k) : joinC c (xs.take (k + 1)) = joinC c (xs.take k) ++ c :: x := by
  have := map_take (fun y => y) h
  simp only [List.map_id'] at this
  rw [this, joinC_snoc, if_neg (by have := take_ne (fun y => y) h hk; simpa using this)]
theorem joinC_take0 (c : UInt8) {xs : List (List UInt8)} {x : List UInt8} (h : xs[0]? = some x) : joinC c (xs.take 1) = x := by
  cases xs with
  | nil => simp at h
  | cons y r => simp at h; subst h; rfl
set_option maxRecDepth 100000 in
set_option maxHeartbeats 4000000 in
theorem text_nil (fr : Nat) (hs : Bool) (st iv wk ct : Int) (hu : Bool) (un : Int) (p : Nat → Option Addr) (n c : Nat → Nat) (xs : List (List UInt8)) (w : World)
    (hp : ∀ W, Below w.heap.size w W → Calls Tryz.prog 63 #[.agg (sRuleC fr hs st iv wk ct hu un p n c)] W fun e w' => GivesStrs xs W e w') (hx : ∀ x ∈ xs, x.length ≤ 1000) (hn : xs.length ≤ 15) :
    Calls Tryz.prog 35 #[.agg (sRuleC fr hs st iv wk ct hu un p n c), .slice none 0 0] w fun e w' => e = .returned (.string ⟨(joinC 59 xs).toArray⟩) ∧ Below w.heap.size w w' := by
  have HB := Lib.hid (below_a1 (w := w) (o := .cells (sRuleC fr hs st iv wk ct hu un p n c) 25))
  have HR := Lib.hid (sRule_at fr hs st iv wk ct hu un p n c w)
  have HRC := Lib.hid (sRuleF_row fr hs st iv wk ct hu un p n c)
  have HP := Lib.hid hp
  have HX := Lib.hid hx
  obtain ⟨d2, hud⟩ := Go.Proofs.YtnlpjncljbaapaaGreatDoor.u25
  have HU := Lib.hid hud
  clear hud hp hx
  go_enter Tryz.func35, Tryz.ntmps35
  unfold sRuleC at *
  go_upto_region 1 with fail
  generalize hw1 : w.alloc (.cells #[_, _, _, _, _, _, _, _, _, _, _, _, _, _, _, _, _, _] 25) = w1 at *
  clear hw1
  go_wp2_with (with_reducible refine gd_load 25 ?_; refine wpl_load_row0 rfl 25 _ rfl w.heap.size 25 18 18 _ rfl HR.out (by decide) d2 HU.out.1 HU.out.2 info25s ?_; rw [HRC.out])
  refine (HP.out _ HB.out).mono ?_; rintro e w2 ⟨g, cap, rfl, hcap, hst, hg1, hg2, hb2⟩
  have HB2 := Lib.hid (HB.out.trans (hb2.mono HB.out.size))
  have HST := Lib.hid hst
  obtain ⟨m, hm⟩ : ∃ m, m = xs.length := ⟨_, rfl⟩
  rw [← hm] at hn hcap ⊢
  have HM := Lib.hid hm
  clear hb2 hst hm HR HRC HB
  go_wp2_with fail
  go_loopw [5, 16] (fun u v wr => u = .slice (some ⟨g, 0, none⟩) m cap ∧ v = .int .i64 0 ∧ wr = w2) (fun _ _ _ => 0)
  case atStart => exact ⟨rfl, rfl, rfl⟩
  case round =>
    obtain ⟨rfl, rfl, rfl⟩ := hrel
    go_wp2_with fail
    go_loop [9, 60] (fun u v => ∃ (k : Nat) (s : ByteArray), k ≤ m ∧ v = .int .i64 k ∧ u = .string s ∧ s.size ≤ 1001 * k ∧ Hid (s = ⟨(joinC 59 (xs.take k)).toArray⟩)) (fun _ v => m - (intOf v).toNat)
    case atStart => exact ⟨0, ⟨#[]⟩, Nat.zero_le _, rfl, rfl, by decide, rfl⟩
    case round =>
      obtain ⟨k, s, hk, rfl, rfl, hs, HS⟩ := hrel
      by_cases hkm : k < m
      · have hkl : k < xs.length := by have := HM.out; omega
        have hc := HST.out k _ (List.getElem?_eq_getElem hkl)
        have HK := Lib.hid (List.getElem?_eq_getElem hkl)
        have hzl : (⟨xs[k].toArray⟩ : ByteArray).size ≤ 1000 := by rw [Lib.size_eq]; exact HX.out _ (List.getElem_mem hkl)
        obtain ⟨z, hz⟩ : ∃ z : ByteArray, z = ⟨xs[k].toArray⟩ := ⟨_, rfl⟩
        rw [← hz] at hc hzl
        have HZ := Lib.hid hz
        generalize xs[k] = x at *
        clear hz
        by_cases hk0 : 0 < k
        · have hk0i : (0 : Int) < (k : Int) := by omega
          go_wp2_with fail
          go_round
          case rel =>
            refine ⟨k + 1, _, by omega, by go_num, rfl, ?_, ?_⟩
            · simp only [ByteArray.size_append]
              have : (⟨#[59]⟩ : ByteArray).size = 1 := rfl
              omega
            · show _ = _
              rw [HS.out, HZ.out, bs_app59, joinC_take _ HK.out hk0]
          case measure => simp [intOf]; omega
        · have hk0' : k = 0 := by omega
          subst hk0'
          have hs0 : s = ⟨#[]⟩ := by rw [HS.out]; rfl
          subst hs0
          go_wp2_with fail
          go_round
          case rel =>
            refine ⟨1, _, by omega, by go_num, rfl, ?_, ?_⟩
            · simp only [ByteArray.size_append]
              have : (⟨#[]⟩ : ByteArray).size = 0 := rfl
              omega
            · show _ = _
              rw [HZ.out, joinC_take0 _ HK.out]
              apply ByteArray.ext
              simp
          case measure => simp [intOf]; omega
      · have hkn' : k = m := by omega
        subst hkn'
        go_wp2_with fail
        go_ret
        have hN := HM.out
        refine ⟨?_, HB2.out⟩
        rw [HS.out, List.take_of_length_le (by omega)]
        rfl
end Go.Proofs.YtnlpjncljbaapaaGreatDoor
