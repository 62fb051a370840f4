/- Plain laws: what is written is read: numbers, days, pieces of a text. -/
import Derived.Test.YtnlpjncljbaapaaGreatDoorRo
import Derived.Deep.RegionLaw
import Derived.Lib.ItoaLen
import Derived.Lib.QuietBelow
import Derived.Lib.AppendIntMem
import Derived.Test.YtnlpjncljbaapaaGreatDoorVb
import Derived.Test.YtnlpjncljbaapaaGreatDoorLs
namespace Go.Proofs.YtnlpjncljbaapaaGreatDoor
open Go.RowKit

set_option maxHeartbeats 400000 in
theorem sBefore_any (y : Int) (w : World) (h1 : 1 ≤ y) (h2 : y ≤ 1000000) :
    Calls Tryz.prog 29 #[.int .i64 y] w fun e w' => e = .returned (.int .i64 (Cal.dby y)) ∧ w = w' := by
  have h3 : 0 ≤ y - 1 := by omega
  go_enter Tryz.func29, Tryz.ntmps29
  go_wp2
  go_ret
  exact ⟨rfl, rfl⟩

set_option maxHeartbeats 400000 in
theorem sLeap_any (y : Int) (w : World) (h1 : 1 ≤ y) (h2 : y ≤ 1000000) :
    Calls Tryz.prog 106 #[.int .i64 y] w fun e w' => e = .returned (.bool (Cal.leap y)) ∧ w = w' := by
  go_enter Tryz.func106, Tryz.ntmps106
  go_wp2
  all_goals
    go_ret
    exact ⟨by simp [Cal.leap, *] <;> (rw [Bool.eq_iff_iff]; simp), rfl⟩

set_option maxHeartbeats 400000 in
theorem sMonthDays_any (m y : Int) (w : World) (h1 : 1 ≤ y) (h2 : y ≤ 1000000) :
    Calls Tryz.prog 64 #[.int .i64 y, .int .i64 m] w fun e w' => e = .returned (.int .i64 (Cal.mdays y m)) ∧ w = w' := by
  by_cases h : Cal.leap y = true
  · have h3 := (Cal.leap_lp y).1 h
    go_enter Tryz.func64, Tryz.ntmps64
    go_wp2_with (go_at_call 106; refine (sLeap_any _ _ h1 h2).mono ?_; rintro e w' ⟨rfl, rfl⟩)
    all_goals
      go_ret
      refine ⟨?_, rfl⟩
      simp only [beq_iff_eq, beq_eq_false_iff_ne, ne_eq] at *
      simp [Cal.mdays, *]
  · have h' : Cal.leap y = false := by simpa using h
    have h3 := (Cal.leap_lp0 y).1 h'
    clear h
    go_enter Tryz.func64, Tryz.ntmps64
    go_wp2_with (go_at_call 106; refine (sLeap_any _ _ h1 h2).mono ?_; rintro e w' ⟨rfl, rfl⟩)
    all_goals
      go_ret
      refine ⟨?_, rfl⟩
      simp only [beq_iff_eq, beq_eq_false_iff_ne, ne_eq] at *
      simp [Cal.mdays, *]

end Go.Proofs.YtnlpjncljbaapaaGreatDoor

/- The specification's dates, written. -/
namespace Go.Proofs.YtnlpjncljbaapaaGreatDoor
open Go.RowKit Go.Sort

def zp (k : Nat) (l : List UInt8) : List UInt8 := List.replicate (k - l.length) 48 ++ l
theorem dg_nat (u : Nat) : dg (u : Int) = UInt8.ofNat (48 + u % 10) := by
  unfold dg
  congr 1
theorem dec1 {u : Nat} (h : u < 10) : Lib.decDigits u = [UInt8.ofNat (48 + u)] := by rw [Lib.decDigits, dif_pos h]
theorem decS {u : Nat} (h : ¬ u < 10) : Lib.decDigits u = Lib.decDigits (u / 10) ++ [UInt8.ofNat (48 + u % 10)] := by rw [Lib.decDigits, dif_neg h]
theorem zp2 (n : Int) (h0 : 0 ≤ n) (h1 : n < 100) : zp 2 (Lib.itoa n) = [dg (n / 10), dg n] := by
  obtain ⟨u, rfl⟩ := Int.eq_ofNat_of_zero_le h0
  rw [Lib.itoa_nonneg, show ((u : Int) / 10) = ((u / 10 : Nat) : Int) by omega, dg_nat, dg_nat]
  by_cases h : u < 10
  · have e1 : u / 10 = 0 := by omega
    have e2 : u % 10 = u := by omega
    rw [dec1 h, e1, e2]
    rfl
  · have e2 : u / 10 % 10 = u / 10 := by omega
    rw [decS h, dec1 (by omega), e2]
    rfl
theorem zp4 (n : Int) (h0 : 0 ≤ n) (h1 : n < 10000) : zp 4 (Lib.itoa n) = [dg (n / 1000), dg (n / 100), dg (n / 10), dg n] := by
  obtain ⟨u, rfl⟩ := Int.eq_ofNat_of_zero_le h0
  rw [Lib.itoa_nonneg, show ((u : Int) / 10) = ((u / 10 : Nat) : Int) by omega, show ((u : Int) / 100) = ((u / 100 : Nat) : Int) by omega, show ((u : Int) / 1000) = ((u / 1000 : Nat) : Int) by omega, dg_nat, dg_nat, dg_nat, dg_nat]
  have d2 : u / 10 / 10 = u / 100 := by omega
  have d3 : u / 100 / 10 = u / 1000 := by omega
  by_cases h : u < 10
  · rw [dec1 h, show u / 1000 = 0 by omega, show u / 100 = 0 by omega, show u / 10 = 0 by omega, show u % 10 = u by omega]
    rfl
  by_cases h2 : u < 100
  · rw [decS h, dec1 (by omega), show u / 1000 = 0 by omega, show u / 100 = 0 by omega, show u / 10 % 10 = u / 10 by omega]
    rfl
  by_cases h3 : u < 1000
  · rw [decS h, decS (by omega), dec1 (by omega), d2, show u / 1000 = 0 by omega, show u / 100 % 10 = u / 100 by omega]
    rfl
  · rw [decS h, decS (by omega), decS (by omega), dec1 (by omega), d2, d3, show u / 1000 % 10 = u / 1000 by omega]
    rfl
set_option maxHeartbeats 1000000 in
theorem itoa_any (n : Int) (h0 : -9223372036854775808 ≤ n) (h1 : n ≤ 9223372036854775807) (w : World) (hG : Glob w) : Calls Tryz.prog 65 #[.int .i64 n] w fun e w' => e = .returned (.string ⟨(Lib.itoa n).toArray⟩) ∧ Below w.heap.size w w' :=
  (Tryz.strconv_Itoa n h0 h1 w hG.pow).mono fun e w' ⟨he, k, os, hw⟩ => ⟨he, by rw [hw]; exact Lib.below_grow _ _ (Nat.le_refl _) _ _⟩
end Go.Proofs.YtnlpjncljbaapaaGreatDoor

/- The specification's lists, written. -/
namespace Go.Proofs.YtnlpjncljbaapaaGreatDoor
open Go.RowKit

/-- Pieces with a sign between them. -/
def joinC (c : UInt8) : List (List UInt8) → List UInt8
  | [] => []
  | [a] => a
  | a :: b :: r => a ++ c :: joinC c (b :: r)
theorem joinC_snoc (c : UInt8) (xs : List (List UInt8)) (a : List UInt8) : joinC c (xs ++ [a]) = if xs = [] then a else joinC c xs ++ c :: a := by
  induction xs with
  | nil => rfl
  | cons x r ih =>
    cases r with
    | nil => rfl
    | cons y r => simp [joinC] at ih ⊢; rw [ih]
theorem map_take {α β : Type} {l : List α} {k : Nat} {x : α} (f : α → β) (h : l[k]? = some x) : (l.take (k + 1)).map f = (l.take k).map f ++ [f x] := by
  rw [List.take_add_one, h, List.map_append]
  rfl
theorem take_ne {α β : Type} {l : List α} {k : Nat} {x : α} (f : α → β) (h : l[k]? = some x) (hk : 0 < k) : (l.take k).map f ≠ [] := by
  intro e
  have h2 : k < l.length := (List.getElem?_eq_some_iff.1 h).1
  have := congrArg List.length e
  rw [List.length_map, List.length_take, List.length_nil] at this
  omega
/-- Numbers, days in a row that came in. -/
def RowO (w : World) (p : Option Addr) (n : Nat) (l : List Int) : Prop := n = l.length ∧ ∀ (i : Nat) x, l[i]? = some x → ∃ g o, p = some ⟨g, o, none⟩ ∧ g < w.heap.size ∧ w.cell? ⟨g, o + i, none⟩ = some (.int .i64 x)
def RowDO (w : World) (p : Option Addr) (n : Nat) (l : List (Int × Int)) : Prop := n = l.length ∧ ∀ (i : Nat) k m, l[i]? = some (k, m) → ∃ g o, p = some ⟨g, o, none⟩ ∧ g < w.heap.size ∧ w.cell? ⟨g, o + i * 2, none⟩ = some (.int .i64 k) ∧ w.cell? ⟨g, o + i * 2 + 1, none⟩ = some (.int .i64 m)
theorem RowO.below {w w' : World} {p : Option Addr} {n : Nat} {l : List Int} (h : RowO w p n l) (hb : Below w.heap.size w w') : RowO w' p n l :=
  ⟨h.1, fun i x hx => by obtain ⟨g, o, e, hg, hc⟩ := h.2 i x hx; exact ⟨g, o, e, Nat.lt_of_lt_of_le hg hb.size, (hb.cell hg).trans hc⟩⟩
theorem RowDO.below {w w' : World} {p : Option Addr} {n : Nat} {l : List (Int × Int)} (h : RowDO w p n l) (hb : Below w.heap.size w w') : RowDO w' p n l :=
  ⟨h.1, fun i k m hx => by obtain ⟨g, o, e, hg, hc, hc2⟩ := h.2 i k m hx; exact ⟨g, o, e, Nat.lt_of_lt_of_le hg hb.size, (hb.cell hg).trans hc, (hb.cell hg).trans hc2⟩⟩
def int64 (x : Int) : Prop := -9223372036854775808 ≤ x ∧ x ≤ 9223372036854775807
def wdNames : List (List UInt8) := [[77, 79], [84, 85], [87, 69], [84, 72], [70, 82], [83, 65], [83, 85]]
def frNames : List (List UInt8) := [[89, 69, 65, 82, 76, 89], [77, 79, 78, 84, 72, 76, 89], [87, 69, 69, 75, 76, 89], [68, 65, 73, 76, 89], [72, 79, 85, 82, 76, 89], [77, 73, 78, 85, 84, 69, 76, 89], [83, 69, 67, 79, 78, 68, 76, 89]]
/-- Seven names in a new row. -/
def GivesNames (xs : List (List UInt8)) (w : World) (e : Ending) (w' : World) : Prop :=
  e = .returned (.slice (some ⟨w.heap.size, 0, none⟩) 7 7) ∧ w' = w.alloc (.cells (strVs xs).toArray 9)
theorem weekdays_any (w : World) : Calls Tryz.prog 105 #[] w fun e w' => GivesNames wdNames w e w' := by
  go_enter Tryz.func105, Tryz.ntmps105
  go_wp2
  go_ret
  exact ⟨rfl, rfl⟩
theorem frequencies_any (w : World) : Calls Tryz.prog 102 #[] w fun e w' => GivesNames frNames w e w' := by
  go_enter Tryz.func102, Tryz.ntmps102
  go_wp2
  go_ret
  exact ⟨rfl, rfl⟩
end Go.Proofs.YtnlpjncljbaapaaGreatDoor

namespace Go.Proofs.YtnlpjncljbaapaaGreatDoor
open Go.RowKit

/-- A day as it is written: its number, if there is one, and its name. -/
def dayText (d : Int × Int) : List UInt8 := (if d.2 = 0 then [] else Lib.itoa d.2) ++ (wdNames[d.1.toNat]?.getD [])
theorem wd_at (kd : Int) (h0 : 0 ≤ kd) (h1 : kd ≤ 6) : ∃ b : List UInt8, wdNames[kd.toNat]?.getD [] = b ∧ b.length = 2 ∧ (strVs wdNames)[kd.toNat]? = some (.string ⟨b.toArray⟩) := by
  have h : kd = 0 ∨ kd = 1 ∨ kd = 2 ∨ kd = 3 ∨ kd = 4 ∨ kd = 5 ∨ kd = 6 := by omega
  rcases h with h | h | h | h | h | h | h <;> subst h <;> exact ⟨_, rfl, rfl, rfl⟩
end Go.Proofs.YtnlpjncljbaapaaGreatDoor

namespace Go.Proofs.YtnlpjncljbaapaaGreatDoor
open Go.RowKit

/-- A rule of the specification as a value: its lists by their cells. -/
def sRuleC (fr : Nat) (hs : Bool) (st iv wk ct : Int) (hu : Bool) (un : Int) (p : Nat → Option Addr) (n c : Nat → Nat) : Array Value :=
  #[.int .u8 fr, .bool hs, .int .i64 st, .int .i64 iv, .int .i64 wk, .int .i64 ct, .bool hu, .int .i64 un, .slice (p 8) (n 8) (c 8), .slice (p 9) (n 9) (c 9), .slice (p 10) (n 10) (c 10), .slice (p 11) (n 11) (c 11), .slice (p 12) (n 12) (c 12), .slice (p 13) (n 13) (c 13), .slice (p 14) (n 14) (c 14), .slice (p 15) (n 15) (c 15), .slice (p 16) (n 16) (c 16), .slice (p 17) (n 17) (c 17)]
theorem own_one {W : World} {base : Nat} {x : ByteArray} (hb : base ≤ W.heap.size) (l : List UInt8) (hl : x = ⟨l.toArray⟩) : (W.alloc (.cells #[.string x] 9)).ownsRow base 9 1 (.slice (some ⟨W.heap.size, 0, none⟩) 1 1) 1 (strVs [l]) := by
  subst hl
  exact ⟨rfl, .inr ⟨W.heap.size, 1, _, rfl, hb, heap_alloc_new W _, Nat.le_refl _, by simp only [maxLen]; omega, rfl, rfl⟩⟩
theorem fr_at (fr : Nat) (h : fr ≤ 6) : ∃ b : List UInt8, frNames[fr]?.getD [] = b ∧ b.length ≤ 8 ∧ (strVs frNames)[fr]? = some (.string ⟨b.toArray⟩) := by
  have h : fr = 0 ∨ fr = 1 ∨ fr = 2 ∨ fr = 3 ∨ fr = 4 ∨ fr = 5 ∨ fr = 6 := by omega
  rcases h with h | h | h | h | h | h | h <;> subst h <;> exact ⟨_, rfl, by decide, rfl⟩
/-- The parts so far lie in a row of the call's own. -/
def PS (B : Nat) (w1 : World) (v : Value) (wc : World) (k : Nat) (xs : List (List UInt8)) : Prop := ∃ m, xs.length = m ∧ m ≤ k ∧ wc.ownsRow B 9 1 v m (strVs xs) ∧ Below B w1 wc
/-- A part that is there, if so. -/
def opt1 (b : Bool) (x : List UInt8) : List (List UInt8) := bif b then [x] else []
theorem opt1_pos {b : Bool} {x : List UInt8} (h : b = true) : opt1 b x = [x] := by subst h; rfl
theorem opt1_neg {b : Bool} {x : List UInt8} (h : b = false) : opt1 b x = [] := by subst h; rfl
def pFreq (fr : Nat) : List UInt8 := [70, 82, 69, 81, 61] ++ frNames[fr]?.getD []
def gCell : Nat → Nat
  | 0 => 16
  | 1 => 15
  | 2 => 14
  | 3 => 10
  | 4 => 11
  | 5 => 12
  | 6 => 9
  | 7 => 8
  | 8 => 17
  | _ => 8
def gNm : Nat → List UInt8
  | 0 => [66, 89, 83, 69, 67, 79, 78, 68]
  | 1 => [66, 89, 77, 73, 78, 85, 84, 69]
  | 2 => [66, 89, 72, 79, 85, 82]
  | 3 => [66, 89, 77, 79, 78, 84, 72, 68, 65, 89]
  | 4 => [66, 89, 89, 69, 65, 82, 68, 65, 89]
  | 5 => [66, 89, 87, 69, 69, 75, 78, 79]
  | 6 => [66, 89, 77, 79, 78, 84, 72]
  | 7 => [66, 89, 83, 69, 84, 80, 79, 83]
  | 8 => [66, 89, 69, 65, 83, 84, 69, 82]
  | _ => []
def listP (l : Nat → List Int) (j : Nat) : List UInt8 := gNm j ++ 61 :: joinC 44 ((l (gCell j)).map Lib.itoa)
def lists (l : Nat → List Int) (k : Nat) : List (List UInt8) := (List.range k).flatMap fun j => opt1 (decide (0 < (l (gCell j)).length)) (listP l j)
theorem joinC_len (c : UInt8) (b : Nat) : ∀ xs : List (List UInt8), (∀ x ∈ xs, x.length ≤ b) → (joinC c xs).length ≤ (b + 1) * xs.length
  | [], _ => by simp [joinC]
  | [a], h => by
    have := h a (by simp)
    simp [joinC]
    omega
  | a :: d :: r, h => by
    have h1 := h a (by simp)
    have h2 := joinC_len c b (d :: r) (fun x hx => h x (by simp at hx ⊢; exact .inr hx))
    simp only [joinC, List.length_append, List.length_cons] at h2 ⊢
    rw [Nat.mul_succ]
    omega
theorem lists_succ (l : Nat → List Int) (k : Nat) : lists l (k + 1) = lists l k ++ opt1 (decide (0 < (l (gCell k)).length)) (listP l k) := by
  unfold lists
  rw [List.range_succ, List.flatMap_append]
  simp
def pTill (un : Int) : List UInt8 := [85, 78, 84, 73, 76, 61] ++ dateL un
def pCount (ct : Int) : List UInt8 := [67, 79, 85, 78, 84, 61] ++ Lib.itoa ct
def pInterval (iv : Int) : List UInt8 := [73, 78, 84, 69, 82, 86, 65, 76, 61] ++ Lib.itoa iv
def pDays (dl : List (Int × Int)) : List UInt8 := [66, 89, 68, 65, 89, 61] ++ joinC 44 (dl.map dayText)
theorem wd_at2 (kd : Int) (h0 : 0 ≤ kd) (h1 : kd ≤ 6) : ∃ b : List UInt8, wdNames[kd.toNat]? = some b ∧ b.length = 2 := by
  have h : kd = 0 ∨ kd = 1 ∨ kd = 2 ∨ kd = 3 ∨ kd = 4 ∨ kd = 5 ∨ kd = 6 := by omega
  rcases h with h | h | h | h | h | h | h <;> subst h <;> exact ⟨_, rfl, rfl⟩
theorem weekdays_w (w : World) : Calls Tryz.prog 105 #[] w fun e w' => ∃ g, e = .returned (.slice (some ⟨g, 0, none⟩) 7 7) ∧ StrsAt w' g wdNames ∧ w.heap.size ≤ g ∧ g < w'.heap.size ∧ Below w.heap.size w w' :=
  (weekdays_any w).mono fun e w' ⟨he, hw⟩ => ⟨_, he, fun j x hx => by rw [hw]; refine (cell_new rfl).trans ?_; simp [strVs, hx, strV], Nat.le_refl _, by rw [hw, World.size_alloc]; exact Nat.lt_succ_self _, by rw [hw]; exact below_a1⟩
def pWkst (wk : Int) : List UInt8 := [87, 75, 83, 84, 61] ++ (wdNames[wk.toNat]?.getD [])
def partsL (fr : Nat) (hu : Bool) (un ct iv : Int) (l : Nat → List Int) (dl : List (Int × Int)) (wk : Int) : List (List UInt8) := [pFreq fr] ++ opt1 (hu) (pTill un) ++ opt1 (decide (0 < ct)) (pCount ct) ++ opt1 (decide (1 < iv)) (pInterval iv) ++ lists l 9 ++ opt1 (decide (0 < dl.length)) (pDays dl) ++ opt1 (decide (wk ≠ 0)) (pWkst wk)
end Go.Proofs.YtnlpjncljbaapaaGreatDoor

namespace Go.Proofs.YtnlpjncljbaapaaGreatDoor
open Go.RowKit

def isD (c : UInt8) : Prop := 48 ≤ c.toNat ∧ c.toNat ≤ 57
theorem dig_of {u : Nat} (h : u < 10) : (UInt8.ofNat (48 + u)).toNat = 48 + u := by
  rw [UInt8.toNat_ofNat']
  omega
theorem decDigits_dig : ∀ u : Nat, ∀ c ∈ Lib.decDigits u, isD c := by
  intro u
  induction u using Nat.strongRecOn with
  | ind u ih =>
    intro c hc
    by_cases h : u < 10
    · rw [dec1 h, List.mem_singleton] at hc
      subst hc
      unfold isD
      rw [dig_of h]
      omega
    · rw [decS h, List.mem_append] at hc
      rcases hc with hc | hc
      · exact ih (u / 10) (by omega) c hc
      · rw [List.mem_singleton] at hc
        subst hc
        unfold isD
        rw [dig_of (show u % 10 < 10 by omega)]
        omega
theorem decDigits_ne (u : Nat) : Lib.decDigits u ≠ [] := by
  by_cases h : u < 10
  · rw [dec1 h]; simp
  · rw [decS h]; simp
theorem decFrom_app : ∀ (l r : List UInt8) (acc : Nat), Lib.decFrom acc (l ++ r) = (Lib.decFrom acc l).bind fun n => Lib.decFrom n r
  | [], r, acc => rfl
  | b :: l, r, acc => by
    simp only [List.cons_append, Lib.decFrom]
    cases Lib.digitVal b with
    | none => rfl
    | some d => exact decFrom_app l r _
theorem digitVal_of {u : Nat} (h : u < 10) : Lib.digitVal (UInt8.ofNat (48 + u)) = some u := by
  unfold Lib.digitVal
  rw [dig_of h, if_pos (by omega)]
  simp
theorem decFrom_digits : ∀ u : Nat, Lib.decFrom 0 (Lib.decDigits u) = some u := by
  intro u
  induction u using Nat.strongRecOn with
  | ind u ih =>
    by_cases h : u < 10
    · rw [dec1 h]
      simp only [Lib.decFrom, digitVal_of h]
      congr 1
      omega
    · rw [decS h, decFrom_app, ih (u / 10) (by omega)]
      simp only [Option.bind_some, Lib.decFrom, digitVal_of (show u % 10 < 10 by omega)]
      congr 1
      omega
theorem decNat_digits (u : Nat) : Lib.decNat (Lib.decDigits u) = some u := by
  unfold Lib.decNat
  rw [if_neg (by simpa using decDigits_ne u), decFrom_digits]
theorem atoi_itoa (n : Int) : Lib.atoi (Lib.itoa n) = some n := by
  unfold Lib.itoa
  by_cases h : n < 0
  · rw [if_pos h]
    simp [Lib.atoi, decNat_digits]
    omega
  · rw [if_neg h]
    cases hd : Lib.decDigits n.toNat with
    | nil => exact absurd hd (decDigits_ne _)
    | cons b r =>
      have hb := decDigits_dig n.toNat b (by rw [hd]; simp)
      have hv := decNat_digits n.toNat
      rw [hd] at hv
      have h1 : (b == 45) = false := by
        rw [beq_eq_false_iff_ne]; rintro rfl; unfold isD at hb; simp at hb
      have h2 : (b == 43) = false := by
        rw [beq_eq_false_iff_ne]; rintro rfl; unfold isD at hb; simp at hb
      simp [Lib.atoi, h1, h2, hv]
      omega
theorem itoa_sign (n : Int) : ∀ c ∈ Lib.itoa n, c = 45 ∨ isD c := by
  intro c hc
  unfold Lib.itoa at hc
  split at hc
  · simp at hc
    rcases hc with h | h
    · exact .inl h
    · exact .inr (decDigits_dig _ c h)
  · exact .inr (decDigits_dig _ c hc)
theorem itoa_ne (n : Int) : Lib.itoa n ≠ [] := by
  unfold Lib.itoa
  split
  · simp
  · exact decDigits_ne _
theorem decDigits_len : ∀ (k u : Nat), u < 10 ^ (k + 1) → (Lib.decDigits u).length ≤ k + 1
  | 0, u, h => by rw [dec1 (by simpa using h)]; simp
  | k + 1, u, h => by
    by_cases h0 : u < 10
    · rw [dec1 h0]; simp
    · rw [decS h0, List.length_append]
      have := decDigits_len k (u / 10) (by rw [Nat.pow_succ] at h; omega)
      simp
      omega
theorem itoa_len (n : Int) (h : -10000 < n ∧ n < 10000) : (Lib.itoa n).length ≤ 5 := by
  unfold Lib.itoa
  split
  · have := decDigits_len 3 n.natAbs (by omega)
    simp
    omega
  · have := decDigits_len 3 n.toNat (by omega)
    omega
theorem splitL_joinC (c : UInt8) : ∀ xs : List (List UInt8), xs ≠ [] → (∀ x ∈ xs, c ∉ x) → splitL c (joinC c xs) = xs
  | [], h, _ => absurd rfl h
  | [a], _, h => splitL_one (h a (by simp))
  | a :: b :: r, _, h => by
    show splitL c (a ++ c :: joinC c (b :: r)) = _
    rw [splitL_app (h a (by simp)), splitL_joinC c (b :: r) (by simp) (fun x hx => h x (by simp at hx ⊢; exact .inr hx))]
theorem joinC_mem (c : UInt8) : ∀ (xs : List (List UInt8)) (b : UInt8), b ∈ joinC c xs → b = c ∨ ∃ x ∈ xs, b ∈ x
  | [], b, h => by simp [joinC] at h
  | [a], b, h => .inr ⟨a, by simp, h⟩
  | a :: d :: r, b, h => by
    have h : b ∈ a ++ c :: joinC c (d :: r) := h
    rw [List.mem_append, List.mem_cons] at h
    rcases h with h | h | h
    · exact .inr ⟨a, by simp, h⟩
    · exact .inl h
    · rcases joinC_mem c (d :: r) b h with h | ⟨x, hx, hb⟩
      · exact .inl h
      · exact .inr ⟨x, by simp at hx ⊢; exact .inr hx, hb⟩
theorem not_mem_of_sign {c : UInt8} (h : c ≠ 45) (h2 : ¬ isD c) (n : Int) : c ∉ Lib.itoa n := fun hc => (itoa_sign n c hc).elim h h2
theorem areInts_itoa (l : List Int) (h : ∀ x ∈ l, -10000 < x ∧ x < 10000) : areInts (l.map Lib.itoa) l :=
  ⟨by simp, fun i p n hp hn => by
    rw [List.getElem?_map, hn] at hp
    simp at hp
    subst hp
    have := itoa_len n (h n (List.mem_of_getElem? hn))
    exact ⟨by omega, atoi_itoa n⟩⟩
theorem wd_look (k : Int) (h0 : 0 ≤ k) (h1 : k ≤ 6) : ∃ nm : List UInt8, wdNames[k.toNat]?.getD [] = nm ∧ nm.length = 2 ∧ lookL ⟨nm.toArray⟩ wkKV = some (.agg #[.int .i64 k, .int .i64 0]) ∧ ∀ c ∈ nm, 65 ≤ c.toNat ∧ c.toNat ≤ 90 := by
  have h : k = 0 ∨ k = 1 ∨ k = 2 ∨ k = 3 ∨ k = 4 ∨ k = 5 ∨ k = 6 := by omega
  rcases h with h | h | h | h | h | h | h <;> subst h <;> exact ⟨_, rfl, rfl, by rfl, by decide⟩
theorem isDay_text (d : Int × Int) (h0 : 0 ≤ d.1) (h1 : d.1 ≤ 6) (h2 : -10000 < d.2 ∧ d.2 < 10000) : isDay (dayText d) d.1 d.2 := by
  obtain ⟨nm, hnm, hl, hlk, _⟩ := wd_look d.1 h0 h1
  unfold dayText
  rw [hnm]
  by_cases hz : d.2 = 0
  · rw [if_pos hz]
    exact .inl ⟨hl, hz, hlk⟩
  · rw [if_neg hz]
    have hlen := itoa_len d.2 h2
    have hpos : 1 ≤ (Lib.itoa d.2).length := by
      have := itoa_ne d.2
      cases hi : Lib.itoa d.2 with
      | nil => exact absurd hi this
      | cons a r => simp
    refine .inr ⟨(Lib.itoa d.2).length, by rw [List.length_append, hl], hpos, by omega, ?_, ?_⟩
    · rw [List.take_left]; exact atoi_itoa _
    · rw [List.drop_left]; exact hlk
theorem dayText_sign (d : Int × Int) (h0 : 0 ≤ d.1) (h1 : d.1 ≤ 6) : ∀ c ∈ dayText d, c = 45 ∨ isD c ∨ (65 ≤ c.toNat ∧ c.toNat ≤ 90) := by
  obtain ⟨nm, hnm, hl, _, hc⟩ := wd_look d.1 h0 h1
  intro c h
  unfold dayText at h
  rw [hnm, List.mem_append] at h
  rcases h with h | h
  · split at h
    · simp at h
    · rcases itoa_sign d.2 c h with h | h
      · exact .inl h
      · exact .inr (.inl h)
  · exact .inr (.inr (hc c h))
theorem areDays_text (l : List (Int × Int)) (h : ∀ d ∈ l, (0 ≤ d.1 ∧ d.1 ≤ 6) ∧ -10000 < d.2 ∧ d.2 < 10000) : areDays (l.map dayText) l :=
  ⟨by simp, fun i p k n hp hn => by
    rw [List.getElem?_map, hn] at hp
    simp at hp
    subst hp
    have := h _ (List.mem_of_getElem? hn)
    exact isDay_text (k, n) this.1.1 this.1.2 this.2⟩
end Go.Proofs.YtnlpjncljbaapaaGreatDoor

/- Plain laws: the parts of a rule's text say the rule. -/
namespace Go.Proofs.YtnlpjncljbaapaaGreatDoor
open Go.RowKit

/-- A sign of a part. -/
def pc (c : UInt8) : Prop := 43 ≤ c.toNat ∧ c.toNat ≤ 90 ∧ c.toNat ≠ 58 ∧ c.toNat ≠ 59
theorem pc_isD {c : UInt8} (h : isD c) : pc c := by unfold isD at h; unfold pc; omega
theorem pc_itoa (n : Int) : ∀ c ∈ Lib.itoa n, pc c := fun c h => by
  rcases itoa_sign n c h with h | h
  · subst h; unfold pc; decide
  · exact pc_isD h
theorem pc_join {xs : List (List UInt8)} (h : ∀ x ∈ xs, ∀ c ∈ x, pc c) : ∀ c ∈ joinC 44 xs, pc c := fun c hc => by
  rcases joinC_mem 44 xs c hc with h1 | ⟨x, hx, h1⟩
  · subst h1; unfold pc; decide
  · exact h x hx c h1
theorem pc_upper {c : UInt8} (h : 65 ≤ c.toNat ∧ c.toNat ≤ 90) : pc c := by unfold pc; omega
theorem pc_date (t : Int) : ∀ c ∈ dateL t, pc c := fun c hc => by
  have key : ∀ c : UInt8, ¬ pc c → (c.toNat < 48 ∨ 57 < c.toNat) ∧ c ≠ 84 ∧ c ≠ 90 := fun c h => by
    refine ⟨?_, ?_, ?_⟩
    · unfold pc at h; omega
    · rintro rfl; exact h (by unfold pc; decide)
    · rintro rfl; exact h (by unfold pc; decide)
  by_cases h : pc c
  · exact h
  · obtain ⟨h1, h2, h3⟩ := key c h
    exact absurd hc (dateL_no h1 h2 h3 t)
theorem date_no {c : UInt8} (h : c = 44 ∨ c = 61) (t : Int) : c ∉ dateL t := by
  rcases h with h | h <;> subst h <;> exact dateL_no (by decide) (by decide) (by decide) t
/-- A piece of a text says a part, in signs of parts. -/
structure Good (a : List UInt8) (p : Part) : Prop where
  says : p.says a
  pc : ∀ c ∈ a, pc c
  len : a.length ≤ 400
def Says2 (aa : List (List UInt8)) (ps : List Part) : Prop := aa.length = ps.length ∧ ∀ (i : Nat) a p, aa[i]? = some a → ps[i]? = some p → Good a p
theorem Says2.nil : Says2 [] [] := ⟨rfl, fun i a p h => by simp at h⟩
theorem Says2.one {a : List UInt8} {p : Part} (h : Good a p) : Says2 [a] [p] := ⟨rfl, fun i a' p' h1 h2 => by
  cases i with
  | zero => simp at h1 h2; subst h1; subst h2; exact h
  | succ i => simp at h1⟩
theorem Says2.app {aa bs : List (List UInt8)} {ps qs : List Part} (h : Says2 aa ps) (k : Says2 bs qs) : Says2 (aa ++ bs) (ps ++ qs) := ⟨by rw [List.length_append, List.length_append, h.1, k.1], fun i a p h1 h2 => by
  by_cases hi : i < aa.length
  · rw [List.getElem?_append_left hi] at h1
    rw [List.getElem?_append_left (by rw [← h.1]; exact hi)] at h2
    exact h.2 i a p h1 h2
  · rw [List.getElem?_append_right (by omega)] at h1
    rw [List.getElem?_append_right (by rw [← h.1]; omega), ← h.1] at h2
    exact k.2 _ a p h1 h2⟩
def optP (b : Bool) (p : Part) : List Part := bif b then [p] else []
theorem Says2.opt {b : Bool} {a : List UInt8} {p : Part} (h : b = true → Good a p) : Says2 (opt1 b a) (optP b p) := by
  cases b with
  | false => exact .nil
  | true => exact .one (h rfl)
def gPart (k : Nat) (l : List Int) : Part :=
  match k with
  | 0 => .i17 l
  | 1 => .i16 l
  | 2 => .i15 l
  | 3 => .i11 l
  | 4 => .i12 l
  | 5 => .i13 l
  | 6 => .i10 l
  | 7 => .i9 l
  | _ => .i18 l
def listsP (l : Nat → List Int) (k : Nat) : List Part := (List.range k).flatMap fun j => optP (decide (0 < (l (gCell j)).length)) (gPart j (l (gCell j)))
theorem listsP_succ (l : Nat → List Int) (k : Nat) : listsP l (k + 1) = listsP l k ++ optP (decide (0 < (l (gCell k)).length)) (gPart k (l (gCell k))) := by
  unfold listsP
  rw [List.range_succ, List.flatMap_append]
  simp
def partsP (fr : Nat) (hu : Bool) (un ct iv : Int) (l : Nat → List Int) (dl : List (Int × Int)) (wk : Int) : List Part :=
  [.freq fr] ++ optP hu (.till un) ++ optP (decide (0 < ct)) (.count ct) ++ optP (decide (1 < iv)) (.interval iv) ++ listsP l 9 ++ optP (decide (0 < dl.length)) (.days dl) ++ optP (decide (wk ≠ 0)) (.wkst wk)
/-- The numbers of a rule are small. -/
structure SmallR (fr : Nat) (hu : Bool) (un ct iv : Int) (l : Nat → List Int) (dl : List (Int × Int)) (wk : Int) : Prop where
  fr : fr ≤ 6
  un : hu = true → 0 ≤ un ∧ un < 315537897600
  ct : 0 ≤ ct ∧ ct ≤ 1000
  iv : 0 ≤ iv ∧ iv ≤ 1000
  l : ∀ k, k < 9 → (l (gCell k)).length ≤ 12 ∧ ∀ x ∈ l (gCell k), -10000 < x ∧ x < 10000
  dl : dl.length ≤ 12 ∧ ∀ d ∈ dl, (0 ≤ d.1 ∧ d.1 ≤ 6) ∧ -10000 < d.2 ∧ d.2 < 10000
  wk : 0 ≤ wk ∧ wk ≤ 6
theorem good_freq (fr : Nat) (h : fr ≤ 6) : Good (pFreq fr) (.freq fr) := by
  have h : fr = 0 ∨ fr = 1 ∨ fr = 2 ∨ fr = 3 ∨ fr = 4 ∨ fr = 5 ∨ fr = 6 := by omega
  rcases h with h | h | h | h | h | h | h <;> subst h <;> exact ⟨⟨_, rfl, by decide, by decide, by decide, rfl⟩, by unfold pc; decide, by decide⟩
theorem len_ne {α : Type} {l : List α} (h : l ≠ []) : 0 < l.length := by
  cases l with
  | nil => exact absurd rfl h
  | cons a r => simp
theorem good_name {nm v : List UInt8} {p : Part} (hn : p.name = nm) (hv : v ≠ []) (h61 : (61 : UInt8) ∉ v) (hpc : ∀ c ∈ nm, 65 ≤ c.toNat ∧ c.toNat ≤ 90) (hpv : ∀ c ∈ v, pc c) (hl : v.length ≤ 380) (hnl : nm.length ≤ 10) (hval : p.val v) : Good (nm ++ 61 :: v) p :=
  ⟨⟨v, by rw [hn], hv, h61, by omega, hval⟩, fun c hc => by
    rw [List.mem_append, List.mem_cons] at hc
    rcases hc with hc | hc | hc
    · exact pc_upper (hpc c hc)
    · subst hc; unfold pc; decide
    · exact hpv c hc, by rw [List.length_append, List.length_cons]; omega⟩
theorem itoa61 (n : Int) : (61 : UInt8) ∉ Lib.itoa n := not_mem_of_sign (by decide) (by unfold isD; decide) n
theorem itoa44 (n : Int) : (44 : UInt8) ∉ Lib.itoa n := not_mem_of_sign (by decide) (by unfold isD; decide) n
theorem join61 {xs : List (List UInt8)} (h : ∀ x ∈ xs, (61 : UInt8) ∉ x) : (61 : UInt8) ∉ joinC 44 xs := fun hc => by
  rcases joinC_mem 44 xs 61 hc with h1 | ⟨x, hx, h1⟩
  · exact absurd h1 (by decide)
  · exact h x hx h1
theorem join_ne {xs : List (List UInt8)} (h0 : xs ≠ []) (h : ∀ x ∈ xs, x ≠ []) : joinC 44 xs ≠ [] := by
  match xs, h0 with
  | [a], _ => exact h a (by simp)
  | a :: b :: r, _ => simp [joinC]
theorem good_list (k : Nat) (hk : k < 9) (l : List Int) (h0 : 0 < l.length) (hl : l.length ≤ 12) (hx : ∀ x ∈ l, -10000 < x ∧ x < 10000) : Good (gNm k ++ 61 :: joinC 44 (l.map Lib.itoa)) (gPart k l) := by
  have hne : l.map Lib.itoa ≠ [] := by intro e; have := congrArg List.length e; simp at this; subst this; simp at h0
  have hv : joinC 44 (l.map Lib.itoa) ≠ [] := join_ne hne (fun x hx => by obtain ⟨y, _, rfl⟩ := List.mem_map.1 hx; exact itoa_ne y)
  have h61 : (61 : UInt8) ∉ joinC 44 (l.map Lib.itoa) := join61 (fun x hx => by obtain ⟨y, _, rfl⟩ := List.mem_map.1 hx; exact itoa61 y)
  have hpv : ∀ c ∈ joinC 44 (l.map Lib.itoa), pc c := pc_join (fun x hx => by obtain ⟨y, _, rfl⟩ := List.mem_map.1 hx; exact pc_itoa y)
  have hlen : (joinC 44 (l.map Lib.itoa)).length ≤ 380 := by
    have := joinC_len 44 5 (l.map Lib.itoa) (fun x hx' => by obtain ⟨y, hy, rfl⟩ := List.mem_map.1 hx'; exact itoa_len y (hx y hy))
    rw [List.length_map] at this
    omega
  have hval : (joinC 44 (l.map Lib.itoa)).length ≤ 100000 ∧ areInts (splitL 44 (joinC 44 (l.map Lib.itoa))) l := by
    refine ⟨by omega, ?_⟩
    rw [splitL_joinC 44 _ hne (fun x hx => by obtain ⟨y, _, rfl⟩ := List.mem_map.1 hx; exact itoa44 y)]
    exact areInts_itoa l hx
  have hk : k = 0 ∨ k = 1 ∨ k = 2 ∨ k = 3 ∨ k = 4 ∨ k = 5 ∨ k = 6 ∨ k = 7 ∨ k = 8 := by omega
  rcases hk with h | h | h | h | h | h | h | h | h <;> subst h <;> exact good_name rfl hv h61 (by decide) hpv hlen (by decide) hval
theorem says_lists (l : Nat → List Int) (h : ∀ k, k < 9 → (l (gCell k)).length ≤ 12 ∧ ∀ x ∈ l (gCell k), -10000 < x ∧ x < 10000) : ∀ k, k ≤ 9 → Says2 (lists l k) (listsP l k)
  | 0, _ => .nil
  | k + 1, hk => by
    rw [lists_succ, listsP_succ]
    exact (says_lists l h k (by omega)).app (.opt fun hb => good_list k (by omega) _ (of_decide_eq_true hb) (h k (by omega)).1 (h k (by omega)).2)
theorem says_parts {fr : Nat} {hu : Bool} {un ct iv : Int} {l : Nat → List Int} {dl : List (Int × Int)} {wk : Int} (h : SmallR fr hu un ct iv l dl wk) : Says2 (partsL fr hu un ct iv l dl wk) (partsP fr hu un ct iv l dl wk) := by
  unfold partsL partsP
  refine ((((((Says2.one (good_freq fr h.fr)).app (.opt fun hb => ?_)).app (.opt fun hb => ?_)).app (.opt fun hb => ?_)).app (says_lists l h.l 9 (Nat.le_refl _))).app (.opt fun hb => ?_)).app (.opt fun hb => ?_)
  · exact good_name (nm := [85, 78, 84, 73, 76]) (v := dateL un) rfl (by intro e; have := congrArg List.length e; rw [dateL_len] at this; simp at this) (date_no (.inr rfl) un) (by decide) (pc_date un) (by rw [dateL_len]; omega) (by decide) ⟨rfl, h.un hb⟩
  · exact good_name (nm := [67, 79, 85, 78, 84]) (v := Lib.itoa ct) rfl (itoa_ne ct) (itoa61 ct) (by decide) (pc_itoa ct) (by have := itoa_len ct (by have := h.ct; omega); omega) (by decide) ⟨by have := itoa_len ct (by have := h.ct; omega); omega, atoi_itoa ct⟩
  · exact good_name (nm := [73, 78, 84, 69, 82, 86, 65, 76]) (v := Lib.itoa iv) rfl (itoa_ne iv) (itoa61 iv) (by decide) (pc_itoa iv) (by have := itoa_len iv (by have := h.iv; omega); omega) (by decide) ⟨by have := itoa_len iv (by have := h.iv; omega); omega, atoi_itoa iv⟩
  · have h0 := of_decide_eq_true hb
    have hne : dl.map dayText ≠ [] := by intro e; have := congrArg List.length e; simp at this; subst this; simp at h0
    have hsg : ∀ x ∈ dl.map dayText, ∀ c ∈ x, c = 45 ∨ isD c ∨ (65 ≤ c.toNat ∧ c.toNat ≤ 90) := fun x hx => by
      obtain ⟨d, hd, rfl⟩ := List.mem_map.1 hx
      exact dayText_sign d (h.dl.2 d hd).1.1 (h.dl.2 d hd).1.2
    have hno : ∀ e : UInt8, e ≠ 45 → ¬ isD e → ¬ (65 ≤ e.toNat ∧ e.toNat ≤ 90) → ∀ x ∈ dl.map dayText, e ∉ x := fun e h1 h2 h3 x hx hc => by
      rcases hsg x hx e hc with h | h | h
      · exact h1 h
      · exact h2 h
      · exact h3 h
    have hlen : (joinC 44 (dl.map dayText)).length ≤ 380 := by
      have := joinC_len 44 7 (dl.map dayText) (fun x hx => by
        obtain ⟨d, hd, rfl⟩ := List.mem_map.1 hx
        obtain ⟨b, hb, hl, _⟩ := wd_at d.1 (h.dl.2 d hd).1.1 (h.dl.2 d hd).1.2
        unfold dayText
        rw [hb, List.length_append, hl]
        have := itoa_len d.2 (h.dl.2 d hd).2
        split <;> simp <;> omega)
      rw [List.length_map] at this
      have := h.dl.1
      omega
    refine good_name (nm := [66, 89, 68, 65, 89]) (v := joinC 44 (dl.map dayText)) rfl (join_ne hne fun x hx => ?_) (join61 (hno 61 (by decide) (by unfold isD; decide) (by decide))) (by decide) (pc_join fun x hx c hc => ?_) hlen (by decide) ⟨by omega, ?_⟩
    · obtain ⟨d, hd, rfl⟩ := List.mem_map.1 hx
      obtain ⟨b, hb, hl, _⟩ := wd_at d.1 (h.dl.2 d hd).1.1 (h.dl.2 d hd).1.2
      unfold dayText
      rw [hb]
      intro e
      have := congrArg List.length e
      rw [List.length_append, hl] at this
      simp at this
    · rcases hsg x hx c hc with h | h | h
      · subst h; unfold pc; decide
      · exact pc_isD h
      · exact pc_upper h
    · rw [splitL_joinC 44 _ hne (hno 44 (by decide) (by unfold isD; decide) (by decide))]
      exact areDays_text dl h.dl.2
  · obtain ⟨nm, hnm, hl, hlk, hc⟩ := wd_look wk h.wk.1 h.wk.2
    have e : pWkst wk = [87, 75, 83, 84] ++ 61 :: nm := by unfold pWkst; rw [hnm]; rfl
    rw [e]
    refine good_name (nm := [87, 75, 83, 84]) rfl (by intro e; rw [e] at hl; simp at hl) (fun hc' => ?_) (by decide) (fun c h' => pc_upper (hc c h')) (by omega) (by decide) (.inl ⟨hl, rfl, hlk⟩)
    have := hc 61 hc'
    exact absurd this (by decide)
end Go.Proofs.YtnlpjncljbaapaaGreatDoor
