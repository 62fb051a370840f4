/- Texts cut at a sign: zzIndex and zzSplit, walked. -/
import Derived.Test.YtnlpjncljbaapaaGreatDoorBase
namespace Go.Proofs.YtnlpjncljbaapaaGreatDoor
open Go.RowKit

/-- Where a sign first stands; the length, if it doesn't. -/
def idx (c : UInt8) : List UInt8 → Nat
  | [] => 0
  | x :: l => if x = c then 0 else idx c l + 1
/-- The same as the program tells it. -/
def idxI (c : UInt8) (l : List UInt8) : Int := if idx c l < l.length then (idx c l : Int) else -1
theorem idx_le (c : UInt8) (l : List UInt8) : idx c l ≤ l.length := by
  induction l with
  | nil => simp [idx]
  | cons x l ih => unfold idx; split <;> simp <;> omega
theorem idx_hit (c : UInt8) : ∀ (l : List UInt8) (k : Nat), k ≤ idx c l → l[k]? = some c → idx c l = k
  | [], k, h, e => by simp at e
  | x :: l, k, h, e => by
    unfold idx at h ⊢
    by_cases hx : x = c
    · rw [if_pos hx] at h ⊢; omega
    · rw [if_neg hx] at h ⊢
      cases k with
      | zero => simp at e; exact absurd e hx
      | succ k => rw [idx_hit c l k (by omega) (by simpa using e)]
theorem idx_miss (c : UInt8) : ∀ (l : List UInt8) (k : Nat), k ≤ idx c l → k < l.length → l[k]? ≠ some c → k + 1 ≤ idx c l
  | [], k, h, hl, e => by simp at hl
  | x :: l, k, h, hl, e => by
    unfold idx at h ⊢
    cases k with
    | zero => rw [if_neg (by simpa using e)]; omega
    | succ k =>
      by_cases hx : x = c
      · rw [if_pos hx] at h; omega
      · rw [if_neg hx] at h ⊢
        have := idx_miss c l k (by omega) (by simpa using hl) (by simpa using e)
        omega
theorem ex_one (s : ByteArray) (k : Nat) (h : k < s.size) : (s.extract k (k + 1)).toList = [s.data.toList[k]'(by simpa using h)] := by
  rw [Lib.extract_toList, Nat.add_sub_cancel_left, List.drop_eq_getElem_cons (by simpa using h)]
  rfl

set_option maxHeartbeats 400000 in
theorem zzIndex_any (s : ByteArray) (c : UInt8) (w : World) (hs : s.size ≤ 4611686018427387904) :
    Calls Tryz.prog 111 #[.string s, .string ⟨#[c]⟩] w fun e w' => e = .returned (.int .i64 (idxI c s.data.toList)) ∧ w = w' := by
  have hL : s.data.toList.length = s.size := by simp
  have HL := Lib.hid hL
  clear hL
  have hle := idx_le c s.data.toList
  rw [HL.out] at hle
  go_enter Tryz.func111, Tryz.ntmps111
  go_wp2
  go_loop [5] (fun v => ∃ k : Nat, k ≤ s.size ∧ v = .int .i64 k ∧ Hid (k ≤ idx c s.data.toList)) (fun v => s.size - (intOf v).toNat)
  case atStart => exact ⟨0, Nat.zero_le _, rfl, Nat.zero_le _⟩
  case round =>
    obtain ⟨k, hk, rfl, HI⟩ := hrel
    by_cases hlt : k < s.size
    · by_cases hc : s.data.toList[k]? = some c
      · have hb : ((s.extract k (k + 1)).toList == [c]) = true := by
          rw [ex_one s k hlt]
          rw [List.getElem?_eq_getElem (by simpa using hlt)] at hc
          simpa using hc
        have HC := Lib.hid hc
        clear hc
        go_wp2
        go_ret
        refine ⟨ret_int ?_, rfl⟩
        have := idx_hit c _ k HI.out HC.out
        unfold idxI
        rw [if_pos (by rw [this, HL.out]; exact hlt), this]
      · have hb : ((s.extract k (k + 1)).toList == [c]) = false := by
          rw [ex_one s k hlt]
          rw [List.getElem?_eq_getElem (by simpa using hlt)] at hc
          simpa using hc
        have HC := Lib.hid hc
        clear hc
        go_wp2
        go_round
        case rel => exact ⟨k + 1, by omega, by go_num, idx_miss c _ k HI.out (by rw [HL.out]; exact hlt) HC.out⟩
        case measure => simp [intOf]; omega
    · go_wp2
      go_ret
      refine ⟨ret_int ?_, rfl⟩
      have := HI.out
      unfold idxI
      rw [if_neg (by rw [HL.out]; omega)]

/-- A text's length. -/
def strLen : Value → Nat
  | .string s => s.size
  | _ => 0
/-- The pieces of a text between signs. -/
def splitL (c : UInt8) (l : List UInt8) : List (List UInt8) :=
  if h : idx c l < l.length then l.take (idx c l) :: splitL c (l.drop (idx c l + 1)) else [l]
termination_by l.length
decreasing_by simp; omega
theorem splitL_len (c : UInt8) (l : List UInt8) : 1 ≤ (splitL c l).length ∧ (splitL c l).length ≤ l.length + 1 := by
  induction hn : l.length using Nat.strongRecOn generalizing l with
  | ind n ih =>
    rw [splitL]
    split
    · rename_i h
      have := ih (l.drop (idx c l + 1)).length (by simp; omega) _ rfl
      simp at this ⊢
      omega
    · simp

set_option maxRecDepth 100000 in
set_option maxHeartbeats 1000000 in
theorem zzSplit_any (s : ByteArray) (c : UInt8) (w : World) (hs : s.size ≤ 2147483648) :
    Calls Tryz.prog 68 #[.string s, .string ⟨#[c]⟩] w fun e w' => GivesStrs (splitL c s.data.toList) w e w' := by
  have hL0 : s.data.toList.length = s.size := by simp
  obtain ⟨l0, hl0⟩ : ∃ l0, l0 = s.data.toList := ⟨_, rfl⟩
  obtain ⟨N, hN⟩ : ∃ N, N = s.size := ⟨_, rfl⟩
  have HL0 := Lib.hid hl0
  have HN0 := Lib.hid hN
  rw [← hl0]
  rw [← hl0, ← hN] at hL0
  have HL := Lib.hid hL0
  have hs' : N ≤ 2147483648 := by omega
  clear hl0 hN hL0
  go_enter Tryz.func68, Tryz.ntmps68
  go_wp2
  go_loopw [0, 5] (fun u v wr => ∃ (t : ByteArray) (done : List (List UInt8)), u = .string t ∧ t.size ≤ N ∧ done.length + t.size ≤ N ∧ wr.ownsRow w.heap.size 9 1 v done.length (strVs done) ∧ Hid (done ++ splitL c t.data.toList = splitL c l0) ∧ Below w.heap.size w wr) (fun u _ _ => strLen u)
  case atStart => exact ⟨s, [], rfl, by have := HN0.out; omega, by have := HN0.out; exact (by omega : 0 + s.size ≤ N), own_nil _ _ _ _, by rw [HL0.out]; rfl, Below.refl _ _⟩
  case round =>
    obtain ⟨t, done, rfl, ht, hdt, hown, HS, HB⟩ := hrel
    have HZ := Lib.hid fun w : World => zzIndex_any t c w (by omega)
    have HBS := HB.size
    by_cases hi : idx c t.data.toList < t.data.toList.length
    · have hI : idxI c t.data.toList = (idx c t.data.toList : Int) := by unfold idxI; rw [if_pos hi]
      rw [hI] at HZ
      have hi2 : idx c t.data.toList < t.size := by simpa using hi
      have HS2 := Lib.hid HS.out
      rw [splitL, dif_pos hi] at HS2
      clear HS hi hI
      generalize hq : idx c t.data.toList = q at *
      clear hq
      go_wp2_with fail
      refine (HZ.out _).mono ?_; rintro e w' ⟨rfl, rfl⟩
      go_wp2_with (at_builtin; refine app_own w.heap.size rfl _ _ 41 9 (.string ⟨#[]⟩) 1 16 rfl Tryz.underlying41 info9 rfl (by decide) (by decide) _ _ _ [.string (t.extract 0 q)] (by rfl) (by rfl) rfl (by simp [Value.oneCell']) hown HBS (by omega) ?_)
      intro g cap w1 hown1 hg1 hg2 hcap hgrow _
      have HB1 := HB.grown hgrow HBS (own_base hown)
      clear hgrow hown HB
      go_wp2_with fail
      go_roundw
      case rel =>
        refine ⟨t.extract (q + 1) t.size, done ++ [t.data.toList.take q], rfl, by simp; omega, by simp; omega, ?_, ?_, HB1⟩
        · have e : (strVs done ++ [Value.string (t.extract 0 q)]) = strVs (done ++ [t.data.toList.take q]) := by rw [strVs_snoc, Lib.extract_upto]
          rw [e] at hown1
          simpa using hown1
        · show _ = _
          rw [← HS2.out, Lib.extract_from]
          simp
      case measure => simp [strLen]; omega
    · have hI : idxI c t.data.toList = -1 := by unfold idxI; rw [if_neg hi]
      rw [hI] at HZ
      have HS2 := Lib.hid HS.out
      rw [splitL, dif_neg hi] at HS2
      clear hi hI HS
      go_wp2_with fail
      refine (HZ.out _).mono ?_; rintro e w' ⟨rfl, rfl⟩
      go_wp2_with (at_builtin; refine app_own w.heap.size rfl _ _ 41 9 (.string ⟨#[]⟩) 1 16 rfl Tryz.underlying41 info9 rfl (by decide) (by decide) _ _ _ [.string t] (by rfl) (by rfl) rfl (by simp [Value.oneCell']) hown HBS (by omega) ?_)
      intro g cap w1 hown1 hg1 hg2 hcap hgrow _
      have HB1 := HB.grown hgrow HBS (own_base hown)
      clear hgrow hown HB
      go_wp2_with fail
      go_ret
      rw [← HS2.out]
      refine ⟨g, cap, by simp, by simpa using hcap, ?_, hg1, hg2, HB1⟩
      have e : (strVs done ++ [Value.string t]) = strVs (done ++ [t.data.toList]) := by rw [strVs_snoc]
      rw [e] at hown1
      exact StrsAt.of_own hown1
end Go.Proofs.YtnlpjncljbaapaaGreatDoor
