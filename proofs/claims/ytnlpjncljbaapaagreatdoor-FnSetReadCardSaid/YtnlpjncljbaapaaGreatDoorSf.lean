/- The specification's days, written. -/
import Derived.Test.YtnlpjncljbaapaaGreatDoorSe
namespace Go.Proofs.YtnlpjncljbaapaaGreatDoor
open Go.RowKit

/-- A day as it is written: its number, if there is one, and its name. -/
def dayText (d : Int × Int) : List UInt8 := (if d.2 = 0 then [] else Lib.itoa d.2) ++ (wdNames[d.1.toNat]?.getD [])
theorem wd_at (kd : Int) (h0 : 0 ≤ kd) (h1 : kd ≤ 6) : ∃ b : List UInt8, wdNames[kd.toNat]?.getD [] = b ∧ b.length = 2 ∧ (strVs wdNames)[kd.toNat]? = some (.string ⟨b.toArray⟩) := by
  have h : kd = 0 ∨ kd = 1 ∨ kd = 2 ∨ kd = 3 ∨ kd = 4 ∨ kd = 5 ∨ kd = 6 := by omega
  rcases h with h | h | h | h | h | h | h <;> subst h <;> exact ⟨_, rfl, rfl, rfl⟩
theorem dt0 {kd : Int} {nm : List UInt8} (h : wdNames[kd.toNat]?.getD [] = nm) : dayText (kd, 0) = nm := by simp [dayText, h]
theorem dt1 {kd nd : Int} {nm : List UInt8} (hn : ¬ nd = 0) (h : wdNames[kd.toNat]?.getD [] = nm) : dayText (kd, nd) = Lib.itoa nd ++ nm := by unfold dayText; simp only; rw [if_neg hn, h]
set_option maxRecDepth 100000 in
set_option maxHeartbeats 2000000 in
theorem days_any (p : Option Addr) (n c : Nat) (l : List (Int × Int)) (w : World) (hG : Glob w) (hr : RowDO w p n l) (hl : l.length ≤ 100000) (hb : ∀ x ∈ l, int64 x.2 ∧ 0 ≤ x.1 ∧ x.1 ≤ 6) :
    Calls Tryz.prog 104 #[.slice p n c] w fun e w' => e = .returned (.string ⟨(joinC 44 (l.map dayText)).toArray⟩) ∧ Below w.heap.size w w' := by
  obtain ⟨hn, hcells⟩ := hr
  have HN := Lib.hid hn
  have HC := Lib.hid hcells
  have HG := Lib.hid hG
  have HX := Lib.hid hb
  have hn2 : n ≤ 100000 := by omega
  clear hn hcells hG hb hl
  go_enter Tryz.func104, Tryz.ntmps104
  go_wp2_with fail
  go_loopw [3, 8] (fun u v wr => ∃ (k : Nat) (s : ByteArray), k ≤ n ∧ v = .int .i64 k ∧ u = .string s ∧ s.size ≤ 24 * k ∧ Hid (s = ⟨(joinC 44 ((l.take k).map dayText)).toArray⟩) ∧ Below w.heap.size w wr) (fun _ v _ => n - (intOf v).toNat)
  case atStart => exact ⟨0, ⟨#[]⟩, Nat.zero_le _, rfl, rfl, by decide, rfl, Below.refl _ _⟩
  case round =>
    obtain ⟨k, s, hk, rfl, rfl, hs, HS, hb⟩ := hrel
    have HB := Lib.hid hb
    have hbs := hb.size
    by_cases hkn : k < n
    · have hkl : k < l.length := by have := HN.out; omega
      obtain ⟨kd, nd, hget⟩ : ∃ kd nd, l[k]? = some (kd, nd) := ⟨_, _, List.getElem?_eq_getElem hkl⟩
      obtain ⟨g, o, rfl, hg, hc, hc2⟩ := HC.out k _ _ hget
      have hc := (hb.cell (p := ⟨g, o + k * 2, none⟩) hg).trans hc
      have hc2 := (hb.cell (p := ⟨g, o + k * 2 + 1, none⟩) hg).trans hc2
      have HK := Lib.hid hget
      obtain ⟨hi, hk0, hk6⟩ := HX.out _ (List.mem_of_getElem? hget)
      simp only at hi hk0 hk6
      obtain ⟨nm, hnm, hnm2, hat⟩ := wd_at kd hk0 hk6
      have HNM := Lib.hid hnm
      have hnms : (⟨nm.toArray⟩ : ByteArray).size = 2 := by rw [Lib.size_eq]; exact hnm2
      have HWD := Lib.hid fun W : World => weekdays_any W
      have hL := Lib.itoa_length_le nd hi.1 hi.2
      have hzs : (⟨(Lib.itoa nd).toArray⟩ : ByteArray).size ≤ 21 := by rw [Lib.size_eq]; exact hL
      obtain ⟨z, hz⟩ : ∃ z : ByteArray, z = ⟨(Lib.itoa nd).toArray⟩ := ⟨_, rfl⟩
      have HI := Lib.hid fun W (hG : Glob W) => itoa_any nd hi.1 hi.2 W hG
      rw [← hz] at HI hzs
      have HZ := Lib.hid hz
      have hk7 : kd < 7 := by omega
      have m1 : ¬ 9223372036854775807 < s.size + 1 + 2 := by omega
      have m2 : ¬ 9223372036854775807 < s.size + 2 := by omega
      have m3 : ¬ 9223372036854775807 < s.size + 1 + z.size + 2 := by omega
      have m4 : ¬ 9223372036854775807 < s.size + z.size + 2 := by omega
      have m5 : ¬ 9223372036854775807 < z.size + 2 := by omega
      have hkt : (kd.toNat : Int) = kd := by omega
      clear hb hz hi hL hnm hnm2 hget
      by_cases hn0 : nd = 0 <;> by_cases hkz : 0 < k
      · subst hn0
        go_wp2_with fail
        go_region_law (go_simp; go_at_call 105; refine (HWD.out _).mono ?_; rintro e w2 ⟨rfl, rfl⟩)
        all_goals
          go_wp2_with fail
          go_roundw
          (case rel =>
            refine ⟨k + 1, _, by omega, by go_num, rfl, ?_, ?_, ((HB.out.alloc hbs _).alloc (by simp; omega) _).drew⟩
            · simp only [ByteArray.size_append]
              have e1 : (⟨#[44]⟩ : ByteArray).size = 1 := rfl
              have e0 : (⟨#[]⟩ : ByteArray).size = 0 := rfl
              omega
            · show _ = _
              rw [HS.out, map_take _ HK.out, joinC_snoc, if_neg (take_ne _ HK.out hkz), dt0 HNM.out]
              apply ByteArray.ext
              simp)
          (case measure => simp [intOf]; omega)
      · subst hn0
        have hk0' : k = 0 := by omega
        have hs0 : s = ⟨#[]⟩ := by rw [HS.out, hk0']; rfl
        subst hk0'
        subst hs0
        simp only [Nat.zero_mul, Nat.add_zero] at hc hc2
        go_wp2_with fail
        go_region_law (go_simp; go_at_call 105; refine (HWD.out _).mono ?_; rintro e w2 ⟨rfl, rfl⟩)
        all_goals
          go_wp2_with fail
          go_roundw
          (case rel =>
            refine ⟨1, _, by omega, by go_num, rfl, ?_, ?_, ((HB.out.alloc hbs _).alloc (by simp; omega) _).drew⟩
            · simp only [ByteArray.size_append]
              have e1 : (⟨#[44]⟩ : ByteArray).size = 1 := rfl
              have e0 : (⟨#[]⟩ : ByteArray).size = 0 := rfl
              omega
            · show _ = _
              rw [map_take _ HK.out, dt0 HNM.out]
              apply ByteArray.ext
              simp [joinC])
          (case measure => simp [intOf]; omega)
      · have hn0b : (nd == 0) = false := by simpa using hn0
        go_wp2_with fail
        refine (HI.out _ (HG.out.on (HB.out.alloc hbs _))).mono ?_; rintro e w5 ⟨rfl, hb5⟩
        have hb6 : Below w.heap.size w w5 := (HB.out.alloc hbs _).trans (hb5.mono (by simp; omega))
        have d0 : w5.cell? ⟨wr.heap.size, 0, none⟩ = some (.int .i64 kd) := (hb5.cell (p := ⟨wr.heap.size, 0, none⟩) (by simp)).trans (cell_new rfl)
        have hz5 := hb5.size
        rw [World.size_alloc] at hz5
        have hz6 : wr.heap.size < w5.heap.size := by omega
        have hz7 : ¬ wr.heap.size = w5.heap.size := by omega
        have hz8 : ¬ w5.heap.size = wr.heap.size := by omega
        have HB6 := Lib.hid hb6
        have hb6s := hb6.size
        clear hb5 hb6
        go_wp2_with fail
        go_region_law (go_simp; go_at_call 105; refine (HWD.out _).mono ?_; rintro e w2 ⟨rfl, rfl⟩)
        all_goals
          go_wp2_with fail
          go_roundw
          (case rel =>
            refine ⟨k + 1, _, by omega, by go_num, rfl, ?_, ?_, ((HB6.out.alloc hb6s _)).drew⟩
            · simp only [ByteArray.size_append]
              have e1 : (⟨#[44]⟩ : ByteArray).size = 1 := rfl
              have e0 : (⟨#[]⟩ : ByteArray).size = 0 := rfl
              omega
            · show _ = _
              rw [HS.out, map_take _ HK.out, joinC_snoc, if_neg (take_ne _ HK.out hkz), dt1 hn0 HNM.out, HZ.out]
              apply ByteArray.ext
              simp)
          (case measure => simp [intOf]; omega)
      · have hn0b : (nd == 0) = false := by simpa using hn0
        have hk0' : k = 0 := by omega
        have hs0 : s = ⟨#[]⟩ := by rw [HS.out, hk0']; rfl
        subst hk0'
        subst hs0
        simp only [Nat.zero_mul, Nat.add_zero] at hc hc2
        go_wp2_with fail
        refine (HI.out _ (HG.out.on (HB.out.alloc hbs _))).mono ?_; rintro e w5 ⟨rfl, hb5⟩
        have hb6 : Below w.heap.size w w5 := (HB.out.alloc hbs _).trans (hb5.mono (by simp; omega))
        have d0 : w5.cell? ⟨wr.heap.size, 0, none⟩ = some (.int .i64 kd) := (hb5.cell (p := ⟨wr.heap.size, 0, none⟩) (by simp)).trans (cell_new rfl)
        have hz5 := hb5.size
        rw [World.size_alloc] at hz5
        have hz6 : wr.heap.size < w5.heap.size := by omega
        have hz7 : ¬ wr.heap.size = w5.heap.size := by omega
        have hz8 : ¬ w5.heap.size = wr.heap.size := by omega
        have HB6 := Lib.hid hb6
        have hb6s := hb6.size
        clear hb5 hb6
        go_wp2_with fail
        go_region_law (go_simp; go_at_call 105; refine (HWD.out _).mono ?_; rintro e w2 ⟨rfl, rfl⟩)
        all_goals
          go_wp2_with fail
          go_roundw
          (case rel =>
            refine ⟨1, _, by omega, by go_num, rfl, ?_, ?_, ((HB6.out.alloc hb6s _)).drew⟩
            · simp only [ByteArray.size_append]
              have e1 : (⟨#[44]⟩ : ByteArray).size = 1 := rfl
              have e0 : (⟨#[]⟩ : ByteArray).size = 0 := rfl
              omega
            · show _ = _
              rw [map_take _ HK.out, dt1 hn0 HNM.out, HZ.out]
              apply ByteArray.ext
              simp [joinC])
          (case measure => simp [intOf]; omega)
    · have hkn' : k = n := by omega
      subst hkn'
      go_wp2_with fail
      go_ret
      have hN := HN.out
      refine ⟨?_, HB.out⟩
      rw [HS.out, hN, List.take_length]
      rfl
end Go.Proofs.YtnlpjncljbaapaaGreatDoor
