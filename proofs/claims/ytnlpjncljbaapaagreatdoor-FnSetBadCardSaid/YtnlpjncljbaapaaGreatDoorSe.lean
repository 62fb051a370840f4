/- The specification's lists, written. -/
import Derived.Test.YtnlpjncljbaapaaGreatDoorSd
import Derived.Test.YtnlpjncljbaapaaGreatDoorVb
namespace Go.Proofs.YtnlpjncljbaapaaGreatDoor
open Go.RowKit

/-- Pieces with a sign between them. -/
def joinC (c : UInt8) : List (List UInt8) → List UInt8
  | [] => []
  | [a] => a
  | a :: b :: r => a ++ c :: joinC c (b :: r)
theorem joinC_snoc (c : UInt8) (xs : List (List UInt8)) (a : List UInt8) : joinC c (xs ++ [a]) = if xs = [] then a else joinC c xs ++ c :: a := by
  induction xs with
  | nil => rfl
  | cons x r ih =>
    cases r with
    | nil => rfl
    | cons y r => simp [joinC] at ih ⊢; rw [ih]
theorem bs_app (A B : List UInt8) : ((⟨A.toArray⟩ : ByteArray) ++ ⟨#[44]⟩ ++ ⟨B.toArray⟩) = ⟨(A ++ 44 :: B).toArray⟩ := by
  apply ByteArray.ext
  simp
theorem map_take {α β : Type} {l : List α} {k : Nat} {x : α} (f : α → β) (h : l[k]? = some x) : (l.take (k + 1)).map f = (l.take k).map f ++ [f x] := by
  rw [List.take_add_one, h, List.map_append]
  rfl
theorem take_ne {α β : Type} {l : List α} {k : Nat} {x : α} (f : α → β) (h : l[k]? = some x) (hk : 0 < k) : (l.take k).map f ≠ [] := by
  intro e
  have h2 : k < l.length := (List.getElem?_eq_some_iff.1 h).1
  have := congrArg List.length e
  rw [List.length_map, List.length_take, List.length_nil] at this
  omega
/-- Numbers, days in a row that came in. -/
def RowO (w : World) (p : Option Addr) (n : Nat) (l : List Int) : Prop := n = l.length ∧ ∀ (i : Nat) x, l[i]? = some x → ∃ g o, p = some ⟨g, o, none⟩ ∧ g < w.heap.size ∧ w.cell? ⟨g, o + i, none⟩ = some (.int .i64 x)
def RowDO (w : World) (p : Option Addr) (n : Nat) (l : List (Int × Int)) : Prop := n = l.length ∧ ∀ (i : Nat) k m, l[i]? = some (k, m) → ∃ g o, p = some ⟨g, o, none⟩ ∧ g < w.heap.size ∧ w.cell? ⟨g, o + i * 2, none⟩ = some (.int .i64 k) ∧ w.cell? ⟨g, o + i * 2 + 1, none⟩ = some (.int .i64 m)
theorem RowO.below {w w' : World} {p : Option Addr} {n : Nat} {l : List Int} (h : RowO w p n l) (hb : Below w.heap.size w w') : RowO w' p n l :=
  ⟨h.1, fun i x hx => by obtain ⟨g, o, e, hg, hc⟩ := h.2 i x hx; exact ⟨g, o, e, Nat.lt_of_lt_of_le hg hb.size, (hb.cell hg).trans hc⟩⟩
theorem RowDO.below {w w' : World} {p : Option Addr} {n : Nat} {l : List (Int × Int)} (h : RowDO w p n l) (hb : Below w.heap.size w w') : RowDO w' p n l :=
  ⟨h.1, fun i k m hx => by obtain ⟨g, o, e, hg, hc, hc2⟩ := h.2 i k m hx; exact ⟨g, o, e, Nat.lt_of_lt_of_le hg hb.size, (hb.cell hg).trans hc, (hb.cell hg).trans hc2⟩⟩
def int64 (x : Int) : Prop := -9223372036854775808 ≤ x ∧ x ≤ 9223372036854775807
set_option maxRecDepth 100000 in
set_option maxHeartbeats 1000000 in
theorem joined_any (p : Option Addr) (n c : Nat) (l : List Int) (w : World) (hG : Glob w) (hr : RowO w p n l) (hl : l.length ≤ 100000) (hb : ∀ x ∈ l, int64 x) :
    Calls Tryz.prog 103 #[.slice p n c] w fun e w' => e = .returned (.string ⟨(joinC 44 (l.map Lib.itoa)).toArray⟩) ∧ Below w.heap.size w w' := by
  obtain ⟨hn, hcells⟩ := hr
  have HN := Lib.hid hn
  have HC := Lib.hid hcells
  have HG := Lib.hid hG
  have HX := Lib.hid hb
  have hn2 : n ≤ 100000 := by omega
  clear hn hcells hG hb hl
  go_enter Tryz.func103, Tryz.ntmps103
  go_wp2_with fail
  go_loopw [3, 8] (fun u v wr => ∃ (k : Nat) (s : ByteArray), k ≤ n ∧ v = .int .i64 k ∧ u = .string s ∧ s.size ≤ 22 * k ∧ Hid (s = ⟨(joinC 44 ((l.take k).map Lib.itoa)).toArray⟩) ∧ Below w.heap.size w wr) (fun _ v _ => n - (intOf v).toNat)
  case atStart => exact ⟨0, ⟨#[]⟩, Nat.zero_le _, rfl, rfl, by decide, rfl, Below.refl _ _⟩
  case round =>
    obtain ⟨k, s, hk, rfl, rfl, hs, HS, hb⟩ := hrel
    have HB := Lib.hid hb
    have hbs := hb.size
    by_cases hkn : k < n
    · have hkl : k < l.length := by have := HN.out; omega
      obtain ⟨g, o, rfl, hg, hc⟩ := HC.out k _ (List.getElem?_eq_getElem hkl)
      have hc := (hb.cell (p := ⟨g, o + k, none⟩) hg).trans hc
      have HK := Lib.hid (List.getElem?_eq_getElem hkl)
      have HXk := Lib.hid (HX.out _ (List.getElem_mem hkl))
      have HL := Lib.hid (Lib.itoa_length_le l[k] HXk.out.1 HXk.out.2)
      have HI := Lib.hid (itoa_any l[k] HXk.out.1 HXk.out.2 wr (HG.out.on hb))
      have hzs : (⟨(Lib.itoa l[k]).toArray⟩ : ByteArray).size ≤ 21 := by rw [Lib.size_eq]; exact HL.out
      obtain ⟨z, hz⟩ : ∃ z : ByteArray, z = ⟨(Lib.itoa l[k]).toArray⟩ := ⟨_, rfl⟩
      rw [← hz] at HI hzs
      have HZ := Lib.hid hz
      generalize l[k] = x at *
      clear hb hz HXk HL
      by_cases hk0 : 0 < k
      · have hk0i : (0 : Int) < (k : Int) := by omega
        go_wp2_with fail
        refine HI.out.mono ?_; rintro e w2 ⟨rfl, hb2⟩
        have HB2 := Lib.hid (HB.out.trans (hb2.mono hbs))
        clear hb2
        go_wp2_with fail
        go_roundw
        case rel =>
          refine ⟨k + 1, _, by omega, by go_num, rfl, ?_, ?_, HB2.out⟩
          · simp only [ByteArray.size_append]
            have : (⟨#[44]⟩ : ByteArray).size = 1 := rfl
            omega
          · show _ = _
            rw [HS.out, HZ.out, bs_app, map_take _ HK.out, joinC_snoc, if_neg (take_ne _ HK.out hk0)]
        case measure => simp [intOf]; omega
      · have hk0' : k = 0 := by omega
        subst hk0'
        rw [Nat.add_zero] at hc
        go_wp2_with fail
        refine HI.out.mono ?_; rintro e w2 ⟨rfl, hb2⟩
        have HB2 := Lib.hid (HB.out.trans (hb2.mono hbs))
        have hs0 : s = ⟨#[]⟩ := by rw [HS.out]; rfl
        subst hs0
        clear hb2
        go_wp2_with fail
        go_roundw
        case rel =>
          refine ⟨1, _, by omega, by go_num, rfl, ?_, ?_, HB2.out⟩
          · simp only [ByteArray.size_append]
            have : (⟨#[]⟩ : ByteArray).size = 0 := rfl
            omega
          · show _ = _
            rw [HZ.out, map_take _ HK.out]
            apply ByteArray.ext
            simp [joinC]
        case measure => simp [intOf]; omega
    · have hkn' : k = n := by omega
      subst hkn'
      go_wp2_with fail
      go_ret
      have hN := HN.out
      refine ⟨?_, HB.out⟩
      rw [HS.out, hN, List.take_length]
      rfl
theorem below_alloc1 {w : World} {o : Obj} : Below w.heap.size w (w.alloc o) := below_a1
def wdNames : List (List UInt8) := [[77, 79], [84, 85], [87, 69], [84, 72], [70, 82], [83, 65], [83, 85]]
def frNames : List (List UInt8) := [[89, 69, 65, 82, 76, 89], [77, 79, 78, 84, 72, 76, 89], [87, 69, 69, 75, 76, 89], [68, 65, 73, 76, 89], [72, 79, 85, 82, 76, 89], [77, 73, 78, 85, 84, 69, 76, 89], [83, 69, 67, 79, 78, 68, 76, 89]]
/-- Seven names in a new row. -/
def GivesNames (xs : List (List UInt8)) (w : World) (e : Ending) (w' : World) : Prop :=
  e = .returned (.slice (some ⟨w.heap.size, 0, none⟩) 7 7) ∧ w' = w.alloc (.cells (strVs xs).toArray 9)
theorem weekdays_any (w : World) : Calls Tryz.prog 105 #[] w fun e w' => GivesNames wdNames w e w' := by
  go_enter Tryz.func105, Tryz.ntmps105
  go_wp2
  go_ret
  exact ⟨rfl, rfl⟩
theorem frequencies_any (w : World) : Calls Tryz.prog 102 #[] w fun e w' => GivesNames frNames w e w' := by
  go_enter Tryz.func102, Tryz.ntmps102
  go_wp2
  go_ret
  exact ⟨rfl, rfl⟩
end Go.Proofs.YtnlpjncljbaapaaGreatDoor
