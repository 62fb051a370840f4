/- Dates read: the package's own time's digits and Parse, walked. -/
import Derived.Test.YtnlpjncljbaapaaGreatDoorBase
import Derived.MapKept
namespace Go.Proofs.YtnlpjncljbaapaaGreatDoor
open Go.RowKit

/-- Where a sign first stands; the length, if it doesn't. -/
def idx (c : UInt8) : List UInt8 → Nat
  | [] => 0
  | x :: l => if x = c then 0 else idx c l + 1
/-- The same as the program tells it. -/
def idxI (c : UInt8) (l : List UInt8) : Int := if idx c l < l.length then (idx c l : Int) else -1
theorem idx_le (c : UInt8) (l : List UInt8) : idx c l ≤ l.length := by
  induction l with
  | nil => simp [idx]
  | cons x l ih => unfold idx; split <;> simp <;> omega
theorem idx_hit (c : UInt8) : ∀ (l : List UInt8) (k : Nat), k ≤ idx c l → l[k]? = some c → idx c l = k
  | [], k, h, e => by simp at e
  | x :: l, k, h, e => by
    unfold idx at h ⊢
    by_cases hx : x = c
    · rw [if_pos hx] at h ⊢; omega
    · rw [if_neg hx] at h ⊢
      cases k with
      | zero => simp at e; exact absurd e hx
      | succ k => rw [idx_hit c l k (by omega) (by simpa using e)]
theorem idx_miss (c : UInt8) : ∀ (l : List UInt8) (k : Nat), k ≤ idx c l → k < l.length → l[k]? ≠ some c → k + 1 ≤ idx c l
  | [], k, h, hl, e => by simp at hl
  | x :: l, k, h, hl, e => by
    unfold idx at h ⊢
    cases k with
    | zero => rw [if_neg (by simpa using e)]; omega
    | succ k =>
      by_cases hx : x = c
      · rw [if_pos hx] at h; omega
      · rw [if_neg hx] at h ⊢
        have := idx_miss c l k (by omega) (by simpa using hl) (by simpa using e)
        omega
theorem ex_one (s : ByteArray) (k : Nat) (h : k < s.size) : (s.extract k (k + 1)).toList = [s.data.toList[k]'(by simpa using h)] := by
  rw [Lib.extract_toList, Nat.add_sub_cancel_left, List.drop_eq_getElem_cons (by simpa using h)]
  rfl

set_option maxHeartbeats 400000 in
theorem zzIndex_any (s : ByteArray) (c : UInt8) (w : World) (hs : s.size ≤ 4611686018427387904) :
    Calls Tryz.prog 111 #[.string s, .string ⟨#[c]⟩] w fun e w' => e = .returned (.int .i64 (idxI c s.data.toList)) ∧ w = w' := by
  have hL : s.data.toList.length = s.size := by simp
  have HL := Lib.hid hL
  clear hL
  have hle := idx_le c s.data.toList
  rw [HL.out] at hle
  go_enter Tryz.func111, Tryz.ntmps111
  go_wp2
  go_loop [5] (fun v => ∃ k : Nat, k ≤ s.size ∧ v = .int .i64 k ∧ Hid (k ≤ idx c s.data.toList)) (fun v => s.size - (intOf v).toNat)
  case atStart => exact ⟨0, Nat.zero_le _, rfl, Nat.zero_le _⟩
  case round =>
    obtain ⟨k, hk, rfl, HI⟩ := hrel
    by_cases hlt : k < s.size
    · by_cases hc : s.data.toList[k]? = some c
      · have hb : ((s.extract k (k + 1)).toList == [c]) = true := by
          rw [ex_one s k hlt]
          rw [List.getElem?_eq_getElem (by simpa using hlt)] at hc
          simpa using hc
        have HC := Lib.hid hc
        clear hc
        go_wp2
        go_ret
        refine ⟨ret_int ?_, rfl⟩
        have := idx_hit c _ k HI.out HC.out
        unfold idxI
        rw [if_pos (by rw [this, HL.out]; exact hlt), this]
      · have hb : ((s.extract k (k + 1)).toList == [c]) = false := by
          rw [ex_one s k hlt]
          rw [List.getElem?_eq_getElem (by simpa using hlt)] at hc
          simpa using hc
        have HC := Lib.hid hc
        clear hc
        go_wp2
        go_round
        case rel => exact ⟨k + 1, by omega, by go_num, idx_miss c _ k HI.out (by rw [HL.out]; exact hlt) HC.out⟩
        case measure => simp [intOf]; omega
    · go_wp2
      go_ret
      refine ⟨ret_int ?_, rfl⟩
      have := HI.out
      unfold idxI
      rw [if_neg (by rw [HL.out]; omega)]

/-- A text's length. -/
def strLen : Value → Nat
  | .string s => s.size
  | _ => 0
/-- The pieces of a text between signs. -/
def splitL (c : UInt8) (l : List UInt8) : List (List UInt8) :=
  if h : idx c l < l.length then l.take (idx c l) :: splitL c (l.drop (idx c l + 1)) else [l]
termination_by l.length
decreasing_by simp; omega
theorem splitL_len (c : UInt8) (l : List UInt8) : 1 ≤ (splitL c l).length ∧ (splitL c l).length ≤ l.length + 1 := by
  induction hn : l.length using Nat.strongRecOn generalizing l with
  | ind n ih =>
    rw [splitL]
    split
    · rename_i h
      have := ih (l.drop (idx c l + 1)).length (by simp; omega) _ rfl
      simp at this ⊢
      omega
    · simp

set_option maxRecDepth 100000 in
set_option maxHeartbeats 1000000 in
theorem zzSplit_any (s : ByteArray) (c : UInt8) (w : World) (hs : s.size ≤ 2147483648) :
    Calls Tryz.prog 68 #[.string s, .string ⟨#[c]⟩] w fun e w' => GivesStrs (splitL c s.data.toList) w e w' := by
  have hL0 : s.data.toList.length = s.size := by simp
  obtain ⟨l0, hl0⟩ : ∃ l0, l0 = s.data.toList := ⟨_, rfl⟩
  obtain ⟨N, hN⟩ : ∃ N, N = s.size := ⟨_, rfl⟩
  have HL0 := Lib.hid hl0
  have HN0 := Lib.hid hN
  rw [← hl0]
  rw [← hl0, ← hN] at hL0
  have HL := Lib.hid hL0
  have hs' : N ≤ 2147483648 := by omega
  clear hl0 hN hL0
  go_enter Tryz.func68, Tryz.ntmps68
  go_wp2
  go_loopw [0, 5] (fun u v wr => ∃ (t : ByteArray) (done : List (List UInt8)), u = .string t ∧ t.size ≤ N ∧ done.length + t.size ≤ N ∧ wr.ownsRow w.heap.size 9 1 v done.length (strVs done) ∧ Hid (done ++ splitL c t.data.toList = splitL c l0) ∧ Below w.heap.size w wr) (fun u _ _ => strLen u)
  case atStart => exact ⟨s, [], rfl, by have := HN0.out; omega, by have := HN0.out; exact (by omega : 0 + s.size ≤ N), own_nil _ _ _ _, by rw [HL0.out]; rfl, Below.refl _ _⟩
  case round =>
    obtain ⟨t, done, rfl, ht, hdt, hown, HS, HB⟩ := hrel
    have HZ := Lib.hid fun w : World => zzIndex_any t c w (by omega)
    have HBS := HB.size
    by_cases hi : idx c t.data.toList < t.data.toList.length
    · have hI : idxI c t.data.toList = (idx c t.data.toList : Int) := by unfold idxI; rw [if_pos hi]
      rw [hI] at HZ
      have hi2 : idx c t.data.toList < t.size := by simpa using hi
      have HS2 := Lib.hid HS.out
      rw [splitL, dif_pos hi] at HS2
      clear HS hi hI
      generalize hq : idx c t.data.toList = q at *
      clear hq
      go_wp2_with fail
      refine (HZ.out _).mono ?_; rintro e w' ⟨rfl, rfl⟩
      go_wp2_with (at_builtin; refine app_own w.heap.size rfl _ _ 41 9 (.string ⟨#[]⟩) 1 16 rfl Tryz.underlying41 info9 rfl (by decide) (by decide) _ _ _ [.string (t.extract 0 q)] (by rfl) (by rfl) rfl (by simp [Value.oneCell']) hown HBS (by omega) ?_)
      intro g cap w1 hown1 hg1 hg2 hcap hgrow _
      have HB1 := HB.grown hgrow HBS (own_base hown)
      clear hgrow hown HB
      go_wp2_with fail
      go_roundw
      case rel =>
        refine ⟨t.extract (q + 1) t.size, done ++ [t.data.toList.take q], rfl, by simp; omega, by simp; omega, ?_, ?_, HB1⟩
        · have e : (strVs done ++ [Value.string (t.extract 0 q)]) = strVs (done ++ [t.data.toList.take q]) := by rw [strVs_snoc, Lib.extract_upto]
          rw [e] at hown1
          simpa using hown1
        · show _ = _
          rw [← HS2.out, Lib.extract_from]
          simp
      case measure => simp [strLen]; omega
    · have hI : idxI c t.data.toList = -1 := by unfold idxI; rw [if_neg hi]
      rw [hI] at HZ
      have HS2 := Lib.hid HS.out
      rw [splitL, dif_neg hi] at HS2
      clear hi hI HS
      go_wp2_with fail
      refine (HZ.out _).mono ?_; rintro e w' ⟨rfl, rfl⟩
      go_wp2_with (at_builtin; refine app_own w.heap.size rfl _ _ 41 9 (.string ⟨#[]⟩) 1 16 rfl Tryz.underlying41 info9 rfl (by decide) (by decide) _ _ _ [.string t] (by rfl) (by rfl) rfl (by simp [Value.oneCell']) hown HBS (by omega) ?_)
      intro g cap w1 hown1 hg1 hg2 hcap hgrow _
      have HB1 := HB.grown hgrow HBS (own_base hown)
      clear hgrow hown HB
      go_wp2_with fail
      go_ret
      rw [← HS2.out]
      refine ⟨g, cap, by simp, by simpa using hcap, ?_, hg1, hg2, HB1⟩
      have e : (strVs done ++ [Value.string t]) = strVs (done ++ [t.data.toList]) := by rw [strVs_snoc]
      rw [e] at hown1
      exact StrsAt.of_own hown1
end Go.Proofs.YtnlpjncljbaapaaGreatDoor

namespace Go.Proofs.YtnlpjncljbaapaaGreatDoor
open Go.RowKit

/-- The number that digits tell. -/
def dv (l : List UInt8) : Int := l.foldl (fun a b => 10 * a + ((b.toNat : Int) - 48)) 0
def isDig (b : UInt8) : Prop := 48 ≤ (b.toNat : Int) ∧ (b.toNat : Int) ≤ 57
theorem dv_snoc (l : List UInt8) (b : UInt8) : dv (l ++ [b]) = 10 * dv l + ((b.toNat : Int) - 48) := by simp [dv]
theorem dv_bd : ∀ (l : List UInt8), (∀ b ∈ l, isDig b) → 0 ≤ dv l ∧ dv l < 10 ^ l.length := by
  intro l
  induction h : l.length generalizing l with
  | zero => intro _; rw [List.eq_nil_of_length_eq_zero h]; decide
  | succ n ih =>
    intro hd
    obtain ⟨t, b, rfl⟩ : ∃ t b, l = t ++ [b] := ⟨l.dropLast, l.getLast (by intro e; subst e; simp at h), (List.dropLast_concat_getLast _).symm⟩
    have := ih t (by simpa using h) (fun b hb => hd b (by simp [hb]))
    have hb := hd b (by simp)
    unfold isDig at hb
    rw [dv_snoc, Int.pow_succ]
    have e : t.length = n := by simpa using h
    omega
theorem bt_at (s : ByteArray) (k : Nat) (h : k < s.size) : s.data.toList.take (k + 1) = s.data.toList.take k ++ [s[k]] := by
  rw [List.take_succ_eq_append_getElem (by simpa using h)]; rfl

set_option maxRecDepth 100000 in
set_option maxHeartbeats 1000000 in
theorem digits_ok (s : ByteArray) (n : Nat) (w : World) (hs : s.size ≤ 2147483648) (hn : n ≤ s.size) (hn9 : n ≤ 9) (hd : ∀ k (h : k < s.size), k < n → isDig s[k]) :
    Calls Tryz.prog 210 #[.string s, .int .i64 (n : Int)] w fun e w' => e = .returned (.tuple #[.int .i64 (dv (s.data.toList.take n)), .string ⟨(s.data.toList.drop n).toArray⟩, .bool true]) ∧ ∃ q, w' = w.drewN q := by
  have HD := Lib.hid hd
  clear hd
  have hlt : ¬ s.size < n := by omega
  go_enter Tryz.func210, Tryz.ntmps210
  go_wp2
  go_loop [7, 8] (fun u v => ∃ k : Nat, k ≤ n ∧ v = .int .i64 k ∧ u = .int .i64 (dv (s.data.toList.take k))) (fun _ v => n - (intOf v).toNat)
  case atStart => exact ⟨0, Nat.zero_le _, rfl, rfl⟩
  case round =>
    obtain ⟨k, hk, rfl, rfl⟩ := hrel
    have hb : 0 ≤ dv (s.data.toList.take k) ∧ dv (s.data.toList.take k) < 10 ^ k := by
      have := dv_bd (s.data.toList.take k) (fun b hb => by
        obtain ⟨i, hi, rfl⟩ := List.getElem_of_mem hb
        rw [List.getElem_take]
        simp at hi
        exact HD.out i (by omega) (by omega))
      rwa [List.length_take, Nat.min_eq_left (by simp; omega)] at this
    have h10 : (10 : Int) ^ k ≤ 1000000000 := by
      have : k = 0 ∨ k = 1 ∨ k = 2 ∨ k = 3 ∨ k = 4 ∨ k = 5 ∨ k = 6 ∨ k = 7 ∨ k = 8 ∨ k = 9 := by omega
      rcases this with rfl | rfl | rfl | rfl | rfl | rfl | rfl | rfl | rfl | rfl <;> decide
    have hb1 : dv (s.data.toList.take k) < 1000000000 := by omega
    obtain ⟨hb0, _⟩ := hb
    by_cases hkn : k < n
    · have hks : k < s.size := by omega
      obtain ⟨d1, d2⟩ := HD.out k hks hkn
      have HT := Lib.hid (bt_at s k hks)
      have HV := Lib.hid (dv_snoc (s.data.toList.take k) s[k])
      clear h10
      go_wp2
      go_round
      case rel => exact ⟨k + 1, by omega, by go_num, by rw [HT.out, HV.out]⟩
      case measure => simp [intOf]; omega
    · have hkn' : k = n := by omega
      subst hkn'
      clear hkn h10
      go_wp2
      go_quiet (fail)
      go_wp2
      go_ret3
      exact ⟨by rw [← Lib.extract_from]; rfl, _, rfl⟩
set_option maxHeartbeats 400000 in
theorem errNew_any (s : ByteArray) (w : World) : Calls Tryz.prog 67 #[.string s] w fun e w' => e = .returned (.iface 175 (.pointer (some ⟨w.heap.size, 0, none⟩))) ∧ w' = w.alloc (.cells #[.string s] 177) := by
  go_enter Tryz.func67, Tryz.ntmps67
  go_wp2
  go_ret
  exact ⟨rfl, rfl⟩

theorem two_0 {W : World} {g : Nat} {u0 : Value} (v0 v1 : Value) (c0 : W.cell? ⟨g, 0, none⟩ = some u0) : ((W.setCell ⟨g, 0, none⟩ v0).setCell ⟨g, 1, none⟩ v1).cell? ⟨g, 0, none⟩ = some v0 := by
  rw [World.cell?_setCell_other _ _ _ _ (by simp)]
  exact World.cell?_setCell_same _ _ _ c0
theorem two_1 {W : World} {g : Nat} {u1 : Value} (v0 v1 : Value) (c1 : W.cell? ⟨g, 1, none⟩ = some u1) : ((W.setCell ⟨g, 0, none⟩ v0).setCell ⟨g, 1, none⟩ v1).cell? ⟨g, 1, none⟩ = some v1 :=
  World.cell?_setCell_same _ _ _ ((World.cell?_setCell_other _ _ _ _ (by simp)).trans c1)

/-- A date as digits, with a T, and a Z behind it. -/
def isDate (a0 a1 a2 a3 b0 b1 c0 c1 d0 d1 e0 e1 f0 f1 : UInt8) : Prop :=
  isDig a0 ∧ isDig a1 ∧ isDig a2 ∧ isDig a3 ∧ isDig b0 ∧ isDig b1 ∧ isDig c0 ∧ isDig c1 ∧ isDig d0 ∧ isDig d1 ∧ isDig e0 ∧ isDig e1 ∧ isDig f0 ∧ isDig f1

set_option maxRecDepth 100000 in
set_option maxHeartbeats 4000000 in
theorem parse_ok (a0 a1 a2 a3 b0 b1 c0 c1 d0 d1 e0 e1 f0 f1 : UInt8) (w : World) (hd : isDate a0 a1 a2 a3 b0 b1 c0 c1 d0 d1 e0 e1 f0 f1)
    (y m d h mi s : Int) (hy : dv [a0, a1, a2, a3] = y) (hm : dv [b0, b1] = m) (hdd : dv [c0, c1] = d) (hh : dv [d0, d1] = h) (hmi : dv [e0, e1] = mi) (hs : dv [f0, f1] = s)
    (y1 : 1 ≤ y) (y2 : y ≤ 9999) (m1 : 1 ≤ m) (m2 : m ≤ 12) (g1 : 1 ≤ d) (g2 : d ≤ Cal.mdays y m) (h1 : 0 ≤ h) (h2 : h ≤ 23) (i1 : 0 ≤ mi) (i2 : mi ≤ 59) (s1 : 0 ≤ s) (s2 : s ≤ 59) :
    Calls Tryz.prog 185 #[.string ⟨#[50, 48, 48, 54, 48, 49, 48, 50, 84, 49, 53, 48, 52, 48, 53, 90]⟩, .string ⟨#[a0, a1, a2, a3, b0, b1, c0, c1, 84, d0, d1, e0, e1, f0, f1, 90]⟩] w fun e w' => e = .returned (.tuple #[.agg #[.int .i64 (secs y m d h mi s), .int .i64 0], .nilIface]) ∧ Below w.heap.size w w' := by
  obtain ⟨k0, k1, k2, k3, k4, k5, k6, k7, k8, k9, k10, k11, k12, k13⟩ := hd
  have D1 := fun W : World => digits_ok ⟨#[a0, a1, a2, a3, b0, b1, c0, c1, 84, d0, d1, e0, e1, f0, f1, 90]⟩ 4 W (by simp [ByteArray.size]) (by simp [ByteArray.size]) (by decide) (fun k hk h4 => by
    have : k = 0 ∨ k = 1 ∨ k = 2 ∨ k = 3 := by omega
    rcases this with rfl | rfl | rfl | rfl <;> assumption)
  have D2 := fun W : World => digits_ok ⟨#[b0, b1, c0, c1, 84, d0, d1, e0, e1, f0, f1, 90]⟩ 2 W (by simp [ByteArray.size]) (by simp [ByteArray.size]) (by decide) (fun k hk h4 => by
    have : k = 0 ∨ k = 1 := by omega
    rcases this with rfl | rfl <;> assumption)
  have D3 := fun W : World => digits_ok ⟨#[c0, c1, 84, d0, d1, e0, e1, f0, f1, 90]⟩ 2 W (by simp [ByteArray.size]) (by simp [ByteArray.size]) (by decide) (fun k hk h4 => by
    have : k = 0 ∨ k = 1 := by omega
    rcases this with rfl | rfl <;> assumption)
  have D4 := fun W : World => digits_ok ⟨#[d0, d1, e0, e1, f0, f1, 90]⟩ 2 W (by simp [ByteArray.size]) (by simp [ByteArray.size]) (by decide) (fun k hk h4 => by
    have : k = 0 ∨ k = 1 := by omega
    rcases this with rfl | rfl <;> assumption)
  have D5 := fun W : World => digits_ok ⟨#[e0, e1, f0, f1, 90]⟩ 2 W (by simp [ByteArray.size]) (by simp [ByteArray.size]) (by decide) (fun k hk h4 => by
    have : k = 0 ∨ k = 1 := by omega
    rcases this with rfl | rfl <;> assumption)
  have D6 := fun W : World => digits_ok ⟨#[f0, f1, 90]⟩ 2 W (by simp [ByteArray.size]) (by simp [ByteArray.size]) (by decide) (fun k hk h4 => by
    have : k = 0 ∨ k = 1 := by omega
    rcases this with rfl | rfl <;> assumption)
  simp only [List.take, List.drop, hy, hm, hdd, hh, hmi, hs] at D1 D2 D3 D4 D5 D6
  have F1 := Lib.hid D1
  have F2 := Lib.hid D2
  have F3 := Lib.hid D3
  have F4 := Lib.hid D4
  have F5 := Lib.hid D5
  have F6 := Lib.hid D6
  clear D1 D2 D3 D4 D5 D6 hy hm hdd hh hmi hs k0 k1 k2 k3 k4 k5 k6 k7 k8 k9 k10 k11 k12 k13
  have FM := Lib.hid fun W : World => monthDays_any m y W y1 (by omega)
  have md := Cal.mdays_bd y m
  have FD := Lib.hid fun W : World => dateOf_any y m d h mi s W y1 y2 m1 m2 g1 (by omega) h1 h2 i1 i2 s1 s2
  have L1 : (⟨#[50, 48, 48, 54, 48, 49, 48, 50, 84, 49, 53, 48, 52, 48, 53, 90]⟩ : ByteArray).extract 8 16 = ⟨#[84, 49, 53, 48, 52, 48, 53, 90]⟩ := rfl
  have L2 : (⟨#[84, 49, 53, 48, 52, 48, 53, 90]⟩ : ByteArray).extract 7 8 = ⟨#[90]⟩ := rfl
  have L3 : (⟨#[84, d0, d1, e0, e1, f0, f1, 90]⟩ : ByteArray).extract 1 8 = ⟨#[d0, d1, e0, e1, f0, f1, 90]⟩ := rfl
  have h3 : ¬ 23 < h := by omega
  have i3 : ¬ 59 < mi := by omega
  have s3 : ¬ 59 < s := by omega
  have g3 : ¬ d < 1 := by omega
  have g4 : ¬ Cal.mdays y m < d := by omega
  go_enter Tryz.func185, Tryz.ntmps185
  go_wp2_with fail
  refine (errNew_any _ _).mono ?_; rintro e w' ⟨rfl, rfl⟩
  go_wp2_with fail
  refine (F1.out _).mono ?_; rintro e w1 ⟨rfl, q1, rfl⟩
  go_wp2_with fail
  refine (F2.out _).mono ?_; rintro e w1 ⟨rfl, q2, rfl⟩
  have hm1 : ¬ m < 1 := by omega
  have hm2 : ¬ 12 < m := by omega
  go_wp2_with fail
  refine (F3.out _).mono ?_; rintro e w1 ⟨rfl, q3, rfl⟩
  go_wp2_with fail
  refine (F4.out _).mono ?_; rintro e w1 ⟨rfl, q4, rfl⟩
  go_wp2_with fail
  refine (F5.out _).mono ?_; rintro e w1 ⟨rfl, q5, rfl⟩
  go_wp2_with fail
  refine (F6.out _).mono ?_; rintro e w1 ⟨rfl, q6, rfl⟩
  go_wp2_with fail
  refine (FM.out _).mono ?_; rintro e w1 ⟨rfl, rfl⟩
  go_wp2_with fail
  refine (FD.out _).mono ?_; rintro e w1 ⟨rfl, hb⟩
  obtain ⟨hc, hf⟩ := bcell hb
  go_wp2_with fail
  have hz := hb.size
  simp only [World.size_alloc, World.heap_drewN] at hz
  have c0 : w1.cell? ⟨w.heap.size, 0, none⟩ = some (.int .i64 0) := by rw [hc _ _ (by simp; omega)]; simp
  have c1 : w1.cell? ⟨w.heap.size, 1, none⟩ = some (.int .i64 0) := by rw [hc _ _ (by simp; omega)]; simp
  have q0 := two_0 (.int .i64 (secs y m d h mi s)) (.int .i64 0) c0
  have q1 := two_1 (.int .i64 (secs y m d h mi s)) (.int .i64 0) c1
  refine bodyPost_ret (v := .tuple #[.agg #[.int .i64 (secs y m d h mi s), .int .i64 0], .nilIface]) (by simp [results, Tryz.results185, go_sem, q0, q1]) rfl ⟨rfl, ?_⟩
  refine ((Below.trans ?_ (hb.mono (B' := w.heap.size) (by simp; omega))).setCell (by simp) _).setCell (by simp) _
  exact pw_drewN (((Below.refl _ _).alloc (by simp) _).alloc (by simp) _) _

/-- The last decimal digit of a number. -/
def dg (n : Int) : UInt8 := UInt8.ofNat (48 + n % 10).toNat
theorem dg_toNat (n : Int) : ((dg n).toNat : Int) = 48 + n % 10 := by
  unfold dg
  have h1 : 0 ≤ n % 10 := by omega
  have h2 : n % 10 < 10 := by omega
  rw [UInt8.toNat_ofNat']
  omega
theorem dg_dig (n : Int) : isDig (dg n) := by
  unfold isDig
  rw [dg_toNat]
  omega
theorem dv_4 (n : Int) (h0 : 0 ≤ n) (h1 : n ≤ 9999) : dv [dg (n / 1000), dg (n / 100), dg (n / 10), dg n] = n := by
  simp only [dv, List.foldl, dg_toNat]
  omega
theorem dv_2 (n : Int) (h0 : 0 ≤ n) (h1 : n ≤ 99) : dv [dg (n / 10), dg n] = n := by
  simp only [dv, List.foldl, dg_toNat]
  omega
/-- A date as RFC 5545 writes it. -/
def dateBytes (y m d h i s : Int) : List UInt8 := [dg (y / 1000), dg (y / 100), dg (y / 10), dg y, dg (m / 10), dg m, dg (d / 10), dg d, 84, dg (h / 10), dg h, dg (i / 10), dg i, dg (s / 10), dg s, 90]
def dateL (t : Int) : List UInt8 := dateBytes (Cal.year (t / 86400)) (Cal.month (t / 86400)) (Cal.date (t / 86400)) (t % 86400 / 3600) (t % 86400 / 60 % 60) (t % 86400 % 60)
theorem dateL_len (t : Int) : (dateL t).length = 16 := rfl
theorem secs_of (t : Int) : secs (Cal.year (t / 86400)) (Cal.month (t / 86400)) (Cal.date (t / 86400)) (t % 86400 / 3600) (t % 86400 / 60 % 60) (t % 86400 % 60) = t := by
  unfold secs
  rw [(Cal.date_ok (t / 86400)).2.2.2.2]
  omega

/-- A moment and no error. -/
def GivesTime (t : Int) (w : World) (e : Ending) (w' : World) : Prop := e = .returned (.tuple #[.agg #[.int .i64 t, .int .i64 0], .nilIface]) ∧ Below w.heap.size w w'
theorem parse_date (t : Int) (w : World) (h1 : 0 ≤ t) (h2 : t < 315537897600) :
    Calls Tryz.prog 185 #[.string ⟨#[50, 48, 48, 54, 48, 49, 48, 50, 84, 49, 53, 48, 52, 48, 53, 90]⟩, .string ⟨(dateL t).toArray⟩] w fun e w' => GivesTime t w e w' := by
  have hd0 : 0 ≤ t / 86400 := by omega
  have hd1 : t / 86400 < 3652059 := by omega
  obtain ⟨y1, y2⟩ := Cal.year_bd hd0 hd1
  obtain ⟨a, b, c, d, _⟩ := Cal.date_ok (t / 86400)
  have md := Cal.mdays_bd (Cal.year (t / 86400)) (Cal.month (t / 86400))
  have h := parse_ok _ _ _ _ _ _ _ _ _ _ _ _ _ _ w ⟨dg_dig _, dg_dig _, dg_dig _, dg_dig _, dg_dig _, dg_dig _, dg_dig _, dg_dig _, dg_dig _, dg_dig _, dg_dig _, dg_dig _, dg_dig _, dg_dig _⟩
    (Cal.year (t / 86400)) (Cal.month (t / 86400)) (Cal.date (t / 86400)) (t % 86400 / 3600) (t % 86400 / 60 % 60) (t % 86400 % 60)
    (dv_4 _ (by omega) y2) (dv_2 _ (by omega) (by omega)) (dv_2 _ (by omega) (by omega)) (dv_2 _ (by omega) (by omega)) (dv_2 _ (by omega) (by omega)) (dv_2 _ (by omega) (by omega))
    y1 y2 a b c d (by omega) (by omega) (by omega) (by omega) (by omega) (by omega)
  rw [secs_of] at h
  exact h

set_option maxHeartbeats 1000000 in
theorem strToTime_date (t : Int) (w : World) (h1 : 0 ≤ t) (h2 : t < 315537897600) :
    Calls Tryz.prog 144 #[.string ⟨(dateL t).toArray⟩, .agg #[]] w fun e w' => GivesTime t w e w' := by
  have F := Lib.hid fun W : World => parse_date t W h1 h2
  have hsz : (⟨(dateL t).toArray⟩ : ByteArray).size = 16 := rfl
  generalize (⟨(dateL t).toArray⟩ : ByteArray) = s at *
  go_enter Tryz.func144, Tryz.ntmps144
  go_wp2_with fail
  refine (F.out _).mono ?_; rintro e w1 ⟨rfl, hb⟩
  obtain ⟨hc, hf⟩ := bcell hb
  have hz := hb.size
  simp only [World.size_alloc] at hz
  go_wp2_with fail
  have c0 : w1.cell? ⟨w.heap.size + 1, 0, none⟩ = some (.int .i64 0) := by rw [hc _ _ (by simp)]; simp
  have c1 : w1.cell? ⟨w.heap.size + 1, 1, none⟩ = some (.int .i64 0) := by rw [hc _ _ (by simp)]; simp
  have q0 := two_0 (.int .i64 t) (.int .i64 0) c0
  have q1 := two_1 (.int .i64 t) (.int .i64 0) c1
  refine bodyPost_ret (v := .tuple #[.agg #[.int .i64 t, .int .i64 0], .nilIface]) (by simp [results, Tryz.results144, go_sem, q0, q1]) rfl ⟨rfl, ?_⟩
  exact ((below_a2.trans (hb.mono (B' := w.heap.size) (by simp; omega))).setCell (by simp) _).setCell (by simp) _
end Go.Proofs.YtnlpjncljbaapaaGreatDoor

/- A map from texts that the call makes and looks into: laws for the walk. -/
namespace Go.Proofs.YtnlpjncljbaapaaGreatDoor
open Go.RowKit Go.Instr Go.MapKept

/-- Block r is a map that holds these texts, in the order in which they were laid. -/
def MapAt (w : World) (r : Nat) (kv : List (ByteArray × Value)) : Prop :=
  ∃ es clock, w.heap[r]? = some (.map es clock) ∧ es.toList.map (fun e => (e.key, e.val)) = kv.map (fun p => (Value.string p.1, p.2))
theorem MapAt.new (w : World) : MapAt (w.alloc (.map #[] 0)) w.heap.size [] := ⟨#[], 0, heap_alloc_new w _, rfl⟩
theorem MapAt.lt {w : World} {r : Nat} {kv : List (ByteArray × Value)} (h : MapAt w r kv) : r < w.heap.size := by
  obtain ⟨es, c, hh, _⟩ := h
  exact (Array.getElem?_eq_some_iff.1 hh).1
theorem MapAt.below {w w' : World} {r B : Nat} {kv : List (ByteArray × Value)} (h : MapAt w r kv) (hb : Below B w w') (hr : r < B) : MapAt w' r kv := by
  obtain ⟨es, c, hh, he⟩ := h
  exact ⟨es, c, (hb.block r hr).trans hh, he⟩
def lookL (s : ByteArray) : List (ByteArray × Value) → Option Value
  | [] => none
  | p :: l => if s == p.1 then some p.2 else lookL s l

theorem findNow_str (s : ByteArray) : ∀ (es : List MapEntry) (kv : List (ByteArray × Value)) (i : Nat), es.map (fun e => (e.key, e.val)) = kv.map (fun p => (Value.string p.1, p.2)) →
    ∃ r, findNow .string (.string s) es i = some r ∧ r.map (·.2) = lookL s kv
  | [], [], i, _ => ⟨none, rfl, rfl⟩
  | [], p :: kv, i, h => by simp at h
  | e :: es, [], i, h => by simp at h
  | e :: es, p :: kv, i, h => by
    simp only [List.map_cons, List.cons.injEq, Prod.mk.injEq] at h
    obtain ⟨⟨h1, h2⟩, h3⟩ := h
    unfold findNow lookL
    rw [h1]
    simp only [sameNow]
    by_cases hs : s == p.1
    · rw [hs]; exact ⟨_, rfl, by simp [h2]⟩
    · have hs' : (s == p.1) = false := by simpa using hs
      rw [hs']
      exact findNow_str s es kv (i + 1) h3

section
variable {P : Program} {ops : Array Oper} {rest : List Oper} {o : Oper} {a : Act} {Q : Exit → Act → World → Prop}
theorem run_insert_str {w : World} {t kt et : TypeId} (ht : P.underlying t = some (.map kt et)) (hk : P.underlying kt = some .string) {r : Nat} {kv : List (ByteArray × Value)} (hm : MapAt w r kv) (s : ByteArray) (v : Value) (hn : lookL s kv = none) :
    ∃ w', (Instr.mapUpdate t (.map (some r)) (.string s) v).run P w = .ok () w' ∧ MapAt w' r (kv ++ [(s, v)]) ∧ w.grownBy w' (some r) := by
  obtain ⟨es, clock, hh, he⟩ := hm
  have hlt : r < w.heap.size := (Array.getElem?_eq_some_iff.1 hh).1
  obtain ⟨q, hq, hq2⟩ := findNow_str s es.toList kv 0 he
  rw [hn] at hq2
  have hq3 : q = none := by cases q with | none => rfl | some x => simp at hq2
  subst hq3
  refine ⟨{ w with heap := w.heap.setIfInBounds r (.map (es.push { key := .string s, val := v, born := clock }) (clock + 1)) }, ?_, ?_, ?_⟩
  · have hck : (checkKey false 10000 kt (.string s)).run P w = .ok () w := run_checkKey (k := .string s) (n := 9999) hk (by simp [IsKey]) false
    simp only [Instr.mapUpdate, Sem.run_bind, run_underlying ht, Result.andThen, MapKept.run_getObj_map hh, hck, findKey, run_underlying hk, hq, Sem.run_pure, run_setObj_map _ hh]
  · refine ⟨es.push { key := .string s, val := v, born := clock }, clock + 1, ?_, ?_⟩
    · simp [hlt]
    · simp [he]
  · refine ⟨rfl, rfl, rfl, by simp, fun i hi hne => ?_⟩
    have : r ≠ i := fun e => hne (by rw [e])
    simp [this]
theorem run_lookup_str {w : World} {t kt et : TypeId} (ht : P.underlying t = some (.map kt et)) (hk : P.underlying kt = some .string) (z : Value) (hz : ∀ w, (zeroValue et).run P w = .ok z w) {r : Nat} {kv : List (ByteArray × Value)} (hm : MapAt w r kv) (s : ByteArray) :
    (Instr.lookup t (.map (some r)) (.string s) true).run P w = .ok (.tuple #[(lookL s kv).getD z, .bool (lookL s kv).isSome]) w := by
  obtain ⟨es, clock, hh, he⟩ := hm
  obtain ⟨q, hq, hq2⟩ := findNow_str s es.toList kv 0 he
  have hck : (checkKey es.isEmpty 10000 kt (.string s)).run P w = .ok () w := run_checkKey (k := .string s) (n := 9999) hk (by simp [IsKey]) _
  rw [← hq2]
  cases q with
  | none => simp only [Instr.lookup, Sem.run_bind, run_underlying ht, Result.andThen, MapKept.run_getObj_map hh, hck, findKey, run_underlying hk, hq, Sem.run_pure, hz]; rfl
  | some x => simp only [Instr.lookup, Sem.run_bind, run_underlying ht, Result.andThen, MapKept.run_getObj_map hh, hck, findKey, run_underlying hk, hq, Sem.run_pure]; rfl

theorem wpl_insert {w : World} (hg : o.guard = none) (t kt et : TypeId) (m x v : Operand) (hop : o.op = Op.insert t m x v) (ht : P.underlying t = some (.map kt et)) (hk : P.underlying kt = some .string) (r : Nat) (kv : List (ByteArray × Value))
    (hm : a.eval m = .map (some r)) (MA : MapAt w r kv) (s : ByteArray) (val : Value) (hx : a.eval x = .string s) (hv : a.eval v = val) (hn : lookL s kv = none)
    (h : ∀ w', MapAt w' r (kv ++ [(s, val)]) → w.grownBy w' (some r) → wpList P ops Q rest (a.put o.dst undef) w') : wpList P ops Q (o :: rest) a w := by
  refine wpList_plain hg fun K' hK' => ?_
  obtain ⟨w', hrun, r1, r2⟩ := run_insert_str ht hk MA s val hn
  unfold Oper.wp
  simp [execOp, hop, hm, hx, hv, hrun, Result.andThen]
  exact hK' _ _ (h w' r1 r2)
theorem wpl_lookup {w : World} (hg : o.guard = none) (t kt et : TypeId) (m x : Operand) (hop : o.op = Op.lookup t m x true) (ht : P.underlying t = some (.map kt et)) (hk : P.underlying kt = some .string) (z : Value) (hz : ∀ w, (zeroValue et).run P w = .ok z w) (r : Nat) (kv : List (ByteArray × Value))
    (hm : a.eval m = .map (some r)) (MA : MapAt w r kv) (s : ByteArray) (hx : a.eval x = .string s)
    (h : wpList P ops Q rest (a.put o.dst (.tuple #[(lookL s kv).getD z, .bool (lookL s kv).isSome])) w) : wpList P ops Q (o :: rest) a w := by
  refine wpList_plain hg fun K' hK' => ?_
  have hrun := run_lookup_str ht hk z hz MA s
  unfold Oper.wp
  simp [execOp, hop, hm, hx, hrun, Result.andThen]
  exact hK' _ _ h
end
end Go.Proofs.YtnlpjncljbaapaaGreatDoor
