/- spec.number, spec.numbers, walked. -/
import Derived.Test.YtnlpjncljbaapaaGreatDoorCu
import Derived.Test.YtnlpjncljbaapaaGreatDoorLr
namespace Go.Proofs.YtnlpjncljbaapaaGreatDoor
open Go.RowKit

/-- A text says a number: digits, a sign ahead or none. -/
def isNum (p : List UInt8) (n : Int) : Prop :=
  ∃ d : List UInt8, 1 ≤ d.length ∧ d.length ≤ 6 ∧ (∀ b ∈ d, isDig b) ∧ ((p = d ∧ n = dv d) ∨ (p = 43 :: d ∧ n = dv d) ∨ (p = 45 :: d ∧ n = -dv d))
theorem dig_isD {c : UInt8} (h : isD c) : isDig c := by unfold isD at h; unfold isDig; omega
theorem dv_dec (u : Nat) : dv (Lib.decDigits u) = u := by
  induction u using Nat.strongRecOn with
  | ind u ih =>
    by_cases h : u < 10
    · rw [dec1 h]
      simp only [dv, List.foldl_cons, List.foldl_nil]
      rw [dig_of h]
      omega
    · rw [decS h, dv_snoc, ih (u / 10) (by omega), dig_of (show u % 10 < 10 by omega)]
      omega
theorem dec_num (u : Nat) (h : u < 10000) : 1 ≤ (Lib.decDigits u).length ∧ (Lib.decDigits u).length ≤ 6 ∧ ∀ b ∈ Lib.decDigits u, isDig b := by
  have := decDigits_len 3 u (by omega)
  exact ⟨len_ne (decDigits_ne u), by omega, fun b hb => dig_isD (decDigits_dig u b hb)⟩
theorem isNum_itoa (n : Int) (h : -10000 < n ∧ n < 10000) : isNum (Lib.itoa n) n := by
  unfold Lib.itoa
  by_cases hn : n < 0
  · rw [if_pos hn]
    obtain ⟨h1, h2, h3⟩ := dec_num n.natAbs (by omega)
    exact ⟨_, h1, h2, h3, .inr (.inr ⟨rfl, by rw [dv_dec]; omega⟩)⟩
  · rw [if_neg hn]
    obtain ⟨h1, h2, h3⟩ := dec_num n.toNat (by omega)
    exact ⟨_, h1, h2, h3, .inl ⟨rfl, by rw [dv_dec]; omega⟩⟩
theorem isNum_sgn (n : Int) (h : -10000 < n ∧ n < 10000) : isNum (sgnL n) n := by
  unfold sgnL
  by_cases hn : n < 0
  · rw [if_pos hn]; exact isNum_itoa n h
  · rw [if_neg hn]
    obtain ⟨h1, h2, h3⟩ := dec_num n.toNat (by omega)
    refine ⟨Lib.decDigits n.toNat, h1, h2, h3, .inr (.inl ⟨?_, by rw [dv_dec]; omega⟩)⟩
    unfold Lib.itoa
    rw [if_neg hn]
theorem dv6 (d : List UInt8) (hl : d.length ≤ 6) (h : ∀ b ∈ d, isDig b) : 0 ≤ dv d ∧ dv d < 1000000 := by
  have := dv_bd d h
  have : (10 : Int) ^ d.length ≤ 1000000 := by
    have : d.length = 0 ∨ d.length = 1 ∨ d.length = 2 ∨ d.length = 3 ∨ d.length = 4 ∨ d.length = 5 ∨ d.length = 6 := by omega
    rcases this with h | h | h | h | h | h | h <;> rw [h] <;> decide
  omega
set_option maxRecDepth 100000 in
set_option maxHeartbeats 4000000 in
theorem number_any (p : List UInt8) (n : Int) (w : World) (h : isNum p n) : Calls Tryz.prog 127 #[.string ⟨p.toArray⟩] w fun e w' => e = .returned (.tuple #[.int .i64 n, .bool true]) ∧ w = w' := by
  obtain ⟨d, h1, h2, hd, h⟩ := h
  have hdv := dv6 d h2 hd
  rcases h with ⟨rfl, rfl⟩ | ⟨rfl, rfl⟩ | ⟨rfl, rfl⟩
  · have hz : (⟨(p).toArray⟩ : ByteArray).size = (p).length := by rw [Lib.size_eq]
    have hl : (p).length = p.length := by rfl
    have HC := Lib.hid (sdigits_any ⟨(p).toArray⟩ 0 (p).length w (by omega) (by omega) (by omega) (by omega) (fun k hk ha _ => hd _ (List.getElem_mem _)))
    rw [show ((⟨(p).toArray⟩ : ByteArray).data.toList.take (p).length).drop 0 = p by simp] at HC
    have h0 : 0 < (⟨(p).toArray⟩ : ByteArray).size := by omega
    have hb := hd _ (List.getElem_mem (show 0 < p.length by omega))
    have hb2 : (⟨p.toArray⟩ : ByteArray)[0] = p[0] := rfl
    rw [← hb2] at hb
    have n43 : ((((⟨p.toArray⟩ : ByteArray)[0]).toNat : Int) == 43) = false := by unfold isDig at hb; simp; omega
    have n45 : ((((⟨p.toArray⟩ : ByteArray)[0]).toNat : Int) == 45) = false := by unfold isDig at hb; simp; omega
    clear hb hb2
    clear hd
    generalize dv p = v at *
    generalize hm : (p).length = m at *
    generalize (⟨(p).toArray⟩ : ByteArray) = s at *
    subst hz
    have k0 : (0 : Int) < (s.size : Int) := by omega
    have k1 : ((s.size : Int) == 0) = false := by rw [beq_eq_false_iff_ne]; omega
    have k3 : ¬ s.size = 0 := by omega
    have k4 : ¬ s = ByteArray.empty := by rintro rfl; simp at h0
    have k2 : ¬ (6 : Int) < (s.size : Int) := by omega
    clear hl h1 h2
    go_enter Tryz.func127, Tryz.ntmps127
    go_wp2_with fail
    refine HC.out.mono ?_; rintro e w2 ⟨rfl, rfl⟩
    go_wp2_with fail
    go_ret2
    exact ⟨rfl, rfl⟩
  · have hz : (⟨(43 :: d).toArray⟩ : ByteArray).size = (43 :: d).length := by rw [Lib.size_eq]
    have hl : (43 :: d).length = d.length + 1 := by rw [List.length_cons]
    have HC := Lib.hid (sdigits_any ⟨(43 :: d).toArray⟩ 1 (43 :: d).length w (by omega) (by omega) (by omega) (by omega) (fun k hk ha _ => by cases k with | zero => omega | succ k => exact hd _ (List.getElem_mem (by rw [hz, hl] at hk; omega))))
    rw [show ((⟨(43 :: d).toArray⟩ : ByteArray).data.toList.take (43 :: d).length).drop 1 = d by simp] at HC
    have h0 : 0 < (⟨(43 :: d).toArray⟩ : ByteArray).size := by omega
    have n43 : ((((⟨(43 :: d).toArray⟩ : ByteArray)[0]).toNat : Int) == 43) = true := rfl
    have n45 : ((((⟨(43 :: d).toArray⟩ : ByteArray)[0]).toNat : Int) == 45) = false := rfl
    clear hd
    generalize dv d = v at *
    generalize hm : (43 :: d).length = m at *
    generalize (⟨(43 :: d).toArray⟩ : ByteArray) = s at *
    subst hz
    have k0 : (0 : Int) < (s.size : Int) := by omega
    have k1 : ((s.size : Int) == 1) = false := by rw [beq_eq_false_iff_ne]; omega
    have k3 : ¬ s.size = 1 := by omega
    have k2 : ¬ (7 : Int) < (s.size : Int) := by omega
    clear hl h1 h2
    go_enter Tryz.func127, Tryz.ntmps127
    go_wp2_with fail
    refine HC.out.mono ?_; rintro e w2 ⟨rfl, rfl⟩
    go_wp2_with fail
    go_ret2
    exact ⟨rfl, rfl⟩
  · have hz : (⟨(45 :: d).toArray⟩ : ByteArray).size = (45 :: d).length := by rw [Lib.size_eq]
    have hl : (45 :: d).length = d.length + 1 := by rw [List.length_cons]
    have HC := Lib.hid (sdigits_any ⟨(45 :: d).toArray⟩ 1 (45 :: d).length w (by omega) (by omega) (by omega) (by omega) (fun k hk ha _ => by cases k with | zero => omega | succ k => exact hd _ (List.getElem_mem (by rw [hz, hl] at hk; omega))))
    rw [show ((⟨(45 :: d).toArray⟩ : ByteArray).data.toList.take (45 :: d).length).drop 1 = d by simp] at HC
    have h0 : 0 < (⟨(45 :: d).toArray⟩ : ByteArray).size := by omega
    have n43 : ((((⟨(45 :: d).toArray⟩ : ByteArray)[0]).toNat : Int) == 43) = false := rfl
    have n45 : ((((⟨(45 :: d).toArray⟩ : ByteArray)[0]).toNat : Int) == 45) = true := rfl
    clear hd
    generalize dv d = v at *
    generalize hm : (45 :: d).length = m at *
    generalize (⟨(45 :: d).toArray⟩ : ByteArray) = s at *
    subst hz
    have k0 : (0 : Int) < (s.size : Int) := by omega
    have k1 : ((s.size : Int) == 1) = false := by rw [beq_eq_false_iff_ne]; omega
    have k3 : ¬ s.size = 1 := by omega
    have k2 : ¬ (7 : Int) < (s.size : Int) := by omega
    clear hl h1 h2
    go_enter Tryz.func127, Tryz.ntmps127
    go_wp2_with fail
    refine HC.out.mono ?_; rintro e w2 ⟨rfl, rfl⟩
    go_wp2_with fail
    go_ret2
    exact ⟨rfl, rfl⟩
theorem intVs_snoc (l : List Int) (x : Int) : intVs (l ++ [x]) = intVs l ++ [.int .i64 x] := by simp [intVs]
set_option maxRecDepth 100000 in
set_option maxHeartbeats 8000000 in
theorem numbers_any (t : List UInt8) (ps : List (List UInt8)) (ns : List Int) (w : World) (ht : t.length ≤ 1000000) (hsp : splitL 44 t = ps) (hl : ps.length = ns.length) (hn : ∀ (i : Nat) p n, ps[i]? = some p → ns[i]? = some n → isNum p n) :
    Calls Tryz.prog 129 #[.string ⟨t.toArray⟩] w fun e w' => ∃ v, e = .returned (.tuple #[v, .bool true]) ∧ w'.ownsRow w.heap.size 3 1 v ns.length (intVs ns) ∧ Below w.heap.size w w' := by
  have HC := Lib.hid (cut_any ⟨t.toArray⟩ 44 w (by rw [Lib.size_eq]; exact ht))
  rw [show splitL 44 (⟨t.toArray⟩ : ByteArray).data.toList = ps from hsp] at HC
  have HL := Lib.hid hl
  have HN := Lib.hid hn
  have hp1 : 0 < ps.length := by rw [← hsp]; exact (splitL_len 44 t).1
  have hp2 : ps.length ≤ 1000001 := by rw [← hsp]; have := (splitL_len 44 t).2; omega
  obtain ⟨tb, htb⟩ : ∃ tb : ByteArray, tb = ⟨t.toArray⟩ := ⟨_, rfl⟩
  rw [← htb] at HC ⊢
  obtain ⟨m, hm⟩ : ∃ m, m = ns.length := ⟨_, rfl⟩
  rw [← hm]
  have HM := Lib.hid hm
  have HP := Lib.hid (And.intro hp1 hp2)
  clear hsp hl hn ht htb hm hp1 hp2
  go_enter Tryz.func129, Tryz.ntmps129
  go_wp2_with fail
  refine HC.out.mono ?_; rintro e w2 ⟨v2, m2, rfl, hown, hm2, hb2⟩
  obtain rfl : m2 = m := by rw [← hm2, HL.out, HM.out]
  obtain ⟨q, c, rfl, hq⟩ := own_slice hown
  have hm0 : 0 < m2 := by have := HP.out.1; omega
  have hmt : m2 ≤ 1000001 := by have := HP.out.2; omega
  obtain ⟨g, rfl, hgB, hgl⟩ : ∃ g, q = some ⟨g, 0, none⟩ ∧ w.heap.size ≤ g ∧ g < w2.heap.size := by
    rcases hq with h | h
    · omega
    · exact h
  have HST := Lib.hid (StrsAt.of_own hown)
  have HB2 := Lib.hid hb2
  obtain ⟨B, hB⟩ : ∃ B, B = w2.heap.size := ⟨_, rfl⟩
  have hBle : B ≤ w2.heap.size := by omega
  have hgBB : g < B := by omega
  have hwB : w.heap.size ≤ B := by rw [hB]; exact hb2.size
  have HO2 := Lib.hid (own_nil w2 B 3 1)
  clear hown hm2 hq hgl hb2 hB HC
  go_wp2_with fail
  go_loopw [4, 6, 7, 8, 12] (fun u _ _ _ v wr => ∃ k : Nat, k ≤ m2 ∧ v = .int .i64 k ∧ Hid (wr.ownsRow B 3 1 u k (intVs (ns.take k))) ∧ Hid (Below B w2 wr)) (fun _ _ _ _ v _ => m2 - (intOf v).toNat)
  case atStart => exact ⟨0, Nat.zero_le _, rfl, HO2, Lib.hid (.refl _ _)⟩
  case round =>
    clear HO2
    obtain ⟨k, hk, rfl, HO, HB⟩ := hrel
    have hwr := HB.out.size
    by_cases hkn : k < m2
    · have hkl : k < ns.length := by have := HM.out; omega
      have hkp : k < ps.length := by have := HL.out; omega
      have hx := List.getElem?_eq_getElem hkp
      have hc : wr.cell? ⟨g, k, none⟩ = some (.string ⟨ps[k].toArray⟩) := (HB.out.cell (p := ⟨g, k, none⟩) hgBB).trans (HST.out k _ hx)
      have HNK := Lib.hid (number_any ps[k] ns[k] wr (HN.out k _ _ hx (List.getElem?_eq_getElem hkl)))
      have HTK := Lib.hid (show ns.take (k + 1) = ns.take k ++ [ns[k]] by rw [List.take_add_one, List.getElem?_eq_getElem hkl]; rfl)
      generalize ns[k] = x at *
      generalize (⟨ps[k].toArray⟩ : ByteArray) = z at *
      have hki : (0 : Int) ≤ ((k : Nat) : Int) := by omega
      have hkni : ((k : Nat) : Int) < ((m2 : Nat) : Int) := by omega
      clear hx
      go_wp2_with fail
      refine HNK.out.mono ?_; rintro e w3 ⟨rfl, rfl⟩
      go_wp2_with (at_builtin; refine app_own B rfl _ _ 22 3 (.int .i64 0) 1 8 rfl Tryz.underlying22 info3 rfl (by decide) (by decide) _ k (intVs (ns.take k)) [.int .i64 x] (by rfl) (by rfl) rfl (by simp [Value.oneCell']) HO.out (by omega) (by omega) ?_)
      intro g5 cap5 w5 hown5 hg5 hg6 hcap5 hgrow hat5
      have HB5 := Lib.hid (HB.out.grown hgrow (by omega) (own_base HO.out))
      have HO5 := Lib.hid hown5
      clear hown5 hgrow hat5
      go_wp2_with fail
      go_roundw
      case rel => exact ⟨k + 1, by omega, by go_num, Lib.hid (by rw [HTK.out, intVs_snoc]; exact HO5.out), HB5⟩
      case measure => simp [intOf]; omega
    · obtain rfl : k = m2 := by omega
      have hT : ns.take k = ns := List.take_of_length_le (by have := HM.out; omega)
      rw [hT] at HO
      go_wp2_with fail
      go_ret2
      exact ⟨_, rfl, Joins.ownsRow_le HO.out hwB, HB2.out.trans (HB.out.mono hwB)⟩
end Go.Proofs.YtnlpjncljbaapaaGreatDoor
