/- spec.cut and spec.digits, walked. -/
import Derived.Test.YtnlpjncljbaapaaGreatDoorRl
import Derived.Test.YtnlpjncljbaapaaGreatDoorLb
namespace Go.Proofs.YtnlpjncljbaapaaGreatDoor
open Go.RowKit

theorem splitL_nil (c : UInt8) : splitL c [] = [[]] := splitL_one (by simp)
/-- One byte more. -/
theorem splitL_snoc (c : UInt8) (a : List UInt8) : splitL c (a ++ [c]) = splitL c a ++ [[]] ∧ ∀ b, b ≠ c → ∃ xs y, splitL c a = xs ++ [y] ∧ splitL c (a ++ [b]) = xs ++ [y ++ [b]] := by
  induction hn : a.length using Nat.strongRecOn generalizing a with
  | ind n ih =>
    by_cases h : c ∈ a
    · obtain ⟨p, q, rfl, hp⟩ := List.eq_append_cons_of_mem h
      have hq : q.length < n := by rw [← hn]; simp; omega
      obtain ⟨h1, h2⟩ := ih q.length hq q rfl
      rw [splitL_app hp]
      refine ⟨?_, fun b hb => ?_⟩
      · rw [List.append_assoc, List.cons_append, splitL_app hp, h1]; rfl
      · obtain ⟨xs, y, e1, e2⟩ := h2 b hb
        refine ⟨p :: xs, y, by rw [e1]; rfl, ?_⟩
        rw [List.append_assoc, List.cons_append, splitL_app hp, e2]; rfl
    · rw [splitL_one h]
      refine ⟨?_, fun b hb => ⟨[], a, rfl, ?_⟩⟩
      · rw [splitL_app h, splitL_nil]; rfl
      · exact splitL_one (by simp [h, hb.symm])
theorem take_snoc (s : ByteArray) (k : Nat) (h : k < s.size) : s.data.toList.take (k + 1) = s.data.toList.take k ++ [s[k]] := by
  rw [List.take_add_one, List.getElem?_eq_getElem (by simpa using h)]
  rfl
theorem ex_ba (s : ByteArray) (k : Nat) (h : k < s.size) : s.extract k (k + 1) = ⟨#[s[k]]⟩ := by
  apply ByteArray.ext
  rw [ByteArray.data_extract]
  apply Array.ext'
  rw [Array.toList_extract, List.extract_eq_take_drop, Nat.add_sub_cancel_left, List.drop_eq_getElem_cons (by simpa using h)]
  rfl
theorem splitL_piece (c : UInt8) (a : List UInt8) : ∀ x ∈ splitL c a, x.length ≤ a.length := by
  induction hn : a.length using Nat.strongRecOn generalizing a with
  | ind n ih =>
    by_cases h : c ∈ a
    · obtain ⟨p, q, rfl, hp⟩ := List.eq_append_cons_of_mem h
      have hl : p.length + (q.length + 1) = n := by rw [← hn]; simp
      rw [splitL_app hp]
      intro x hx
      rcases List.mem_cons.1 hx with hx | hx
      · subst hx; omega
      · have := ih q.length (by omega) q rfl x hx; omega
    · rw [splitL_one h]
      intro x hx
      rw [List.mem_singleton.1 hx]; omega
theorem strVs_last (xs : List (List UInt8)) (y z : List UInt8) (m : Nat) (h : xs.length = m) : (strVs (xs ++ [y])).set m (.string ⟨z.toArray⟩) = strVs (xs ++ [z]) := by
  subst h
  simp [strVs, strV]
set_option maxRecDepth 100000 in
set_option maxHeartbeats 8000000 in
theorem cut_any (s : ByteArray) (c : UInt8) (w : World) (hs : s.size ≤ 1000000) :
    Calls Tryz.prog 45 #[.string s, .int .u8 (c.toNat : Int)] w fun e w' => ∃ v m, e = .returned v ∧ w'.ownsRow w.heap.size 9 1 v m (strVs (splitL c s.data.toList)) ∧ (splitL c s.data.toList).length = m ∧ Below w.heap.size w w' := by
  obtain ⟨B, hB⟩ : ∃ B, B = w.heap.size := ⟨_, rfl⟩
  have hBle : B ≤ w.heap.size := by omega
  have HBE := Lib.hid hB
  have hb1 := (below_a1 (w := w) (o := .cells #[.string ⟨#[]⟩] 9)).mono hBle
  have hown1 := own_one (W := w) (base := B) hBle [] (x := ⟨#[]⟩) rfl
  clear hB
  go_enter Tryz.func45, Tryz.ntmps45
  go_wp2_with fail
  generalize w.alloc (.cells #[.string ⟨#[]⟩] 9) = w1 at *
  have HB1 := Lib.hid hb1
  have HO1 := Lib.hid hown1
  clear hb1 hown1
  go_loopw [5, 6] (fun v i wr => ∃ (k m g cap : Nat), k ≤ s.size ∧ i = .int .i64 k ∧ v = .slice (some ⟨g, 0, none⟩) (m + 1) cap ∧ m ≤ k ∧ Hid ((splitL c (s.data.toList.take k)).length = m + 1) ∧ Hid (wr.ownsRow B 9 1 (.slice (some ⟨g, 0, none⟩) (m + 1) cap) (m + 1) (strVs (splitL c (s.data.toList.take k)))) ∧ Hid (Below B w wr)) (fun _ i _ => s.size - (intOf i).toNat)
  case atStart => exact ⟨0, 0, _, _, Nat.zero_le _, rfl, rfl, Nat.le_refl _, Lib.hid (by rw [List.take_zero, splitL_nil]; rfl), Lib.hid (by rw [List.take_zero, splitL_nil]; exact HO1.out), HB1⟩
  case round =>
    clear HO1 HB1
    obtain ⟨k, m, g, cap, hk, rfl, rfl, hmk, HL, HO, HB⟩ := hrel
    have hw := HB.out.size
    by_cases hlt : k < s.size
    · have HT := Lib.hid (take_snoc s k hlt)
      have HSP := Lib.hid (splitL_snoc c (s.data.toList.take k))
      by_cases hc : s[k] = c
      · have hci : ((s[k]).toNat : Int) = (c.toNat : Int) := by rw [hc]
        have HCE := Lib.hid hc
        clear hc
        go_wp2_with (at_builtin; refine app_own B rfl _ _ 41 9 (.string ⟨#[]⟩) 1 16 rfl Tryz.underlying41 info9 rfl (by decide) (by decide) _ _ _ [.string ⟨#[]⟩] (by rfl) (by rfl) rfl (by simp [Value.oneCell']) HO.out (by omega) (by omega) ?_)
        intro g5 cap5 w5 hown5 hg5 hg6 hcap5 hgrow hat5
        have HB5 := Lib.hid (HB.out.grown hgrow (by omega) (own_base HO.out))
        have HO5 := Lib.hid hown5
        clear hown5 hgrow hat5
        go_wp2_with fail
        go_roundw
        case rel =>
          have e : splitL c (s.data.toList.take (k + 1)) = splitL c (s.data.toList.take k) ++ [[]] := by rw [HT.out, HCE.out]; exact HSP.out.1
          refine ⟨k + 1, m + 1, g5, cap5, by omega, by go_num, rfl, by omega, Lib.hid (by rw [e, List.length_append, HL.out]; rfl), Lib.hid ?_, HB5⟩
          rw [e, strVs_snoc]
          exact HO5.out
        case measure => simp [intOf]; omega
      · obtain ⟨xs, y, e1, e2⟩ := HSP.out.2 _ hc
        have hxm : xs.length = m := by have := HL.out; rw [e1, List.length_append] at this; simpa using this
        have hci : ¬ ((s[k]).toNat : Int) = (c.toNat : Int) := by
          intro e
          exact hc (UInt8.toNat_inj.1 (by omega))
        have hat : wr.cell? ⟨g, m, none⟩ = some (.string ⟨y.toArray⟩) := StrsAt.of_own HO.out m y (by rw [e1, ← hxm]; simp)
        have hfz := own_frozen HO.out m
        have hyl : y.length ≤ k := by
          have := splitL_piece c (s.data.toList.take k) y (by rw [e1]; simp)
          rw [List.length_take] at this
          omega
        obtain ⟨z, hz⟩ : ∃ z : ByteArray, z = ⟨y.toArray⟩ := ⟨_, rfl⟩
        rw [← hz] at hat
        have HZ := Lib.hid hz
        have hzs : z.size ≤ k := by rw [hz, Lib.size_eq]; exact hyl
        have HX := Lib.hid (ex_ba s k hlt)
        have hov : ¬ 9223372036854775807 < z.size + 1 := by omega
        clear hz hc hyl
        go_upto_region 7 with fail
        go_region
        rw [HX.out]
        go_wp2_with fail
        go_roundw
        case rel =>
          have e : splitL c (s.data.toList.take (k + 1)) = xs ++ [y ++ [s[k]]] := by rw [HT.out]; exact e2
          have ez : z ++ (⟨#[s[k]]⟩ : ByteArray) = ⟨(y ++ [s[k]]).toArray⟩ := by
            rw [HZ.out]
            apply ByteArray.ext
            simp
          have hp := (own_put (y := .string (z ++ (⟨#[s[k]]⟩ : ByteArray))) HO.out (show m < m + 1 by omega)).drew
          rw [e1, ez, strVs_last xs y _ m hxm, ← e] at hp
          rw [ez]
          refine ⟨k + 1, m, g, cap, by omega, by go_num, rfl, by omega, Lib.hid (by rw [e, List.length_append, hxm]; rfl), Lib.hid hp, Lib.hid ((HB.out.setCell (own_base HO.out g rfl) _).drew)⟩
        case measure => simp [intOf]; omega
    · have hkk : k = s.size := by omega
      have hT : s.data.toList.take k = s.data.toList := List.take_of_length_le (by simp; omega)
      rw [hT] at HL HO
      clear hT
      go_wp2_with fail
      go_ret
      exact ⟨_, _, rfl, by rw [← HBE.out]; exact HO.out, HL.out, by rw [← HBE.out]; exact HB.out⟩
theorem drop_snoc (s : ByteArray) (a k : Nat) (h : k < s.size) (ha : a ≤ k) : (s.data.toList.take (k + 1)).drop a = (s.data.toList.take k).drop a ++ [s[k]] := by
  rw [take_snoc s k h, List.drop_append_of_le_length (by rw [List.length_take]; simp; omega)]
set_option maxRecDepth 100000 in
set_option maxHeartbeats 4000000 in
theorem sdigits_any (s : ByteArray) (a b : Nat) (w : World) (hab : a ≤ b) (hb : b ≤ s.size) (h9 : b - a ≤ 9) (hs : s.size ≤ 1000000) (hd : ∀ k (h : k < s.size), a ≤ k → k < b → isDig s[k]) :
    Calls Tryz.prog 82 #[.string s, .int .i64 (a : Int), .int .i64 (b : Int)] w fun e w' => e = .returned (.tuple #[.int .i64 (dv ((s.data.toList.take b).drop a)), .bool true]) ∧ w = w' := by
  have HD := Lib.hid hd
  clear hd
  have hlt : ¬ (s.size : Int) < (b : Int) := by omega
  go_enter Tryz.func82, Tryz.ntmps82
  go_wp2_with fail
  go_loop [8, 9] (fun u v => ∃ k : Nat, a ≤ k ∧ k ≤ b ∧ v = .int .i64 k ∧ u = .int .i64 (dv ((s.data.toList.take k).drop a))) (fun _ v => b - (intOf v).toNat)
  case atStart => exact ⟨a, Nat.le_refl _, hab, rfl, by rw [List.drop_eq_nil_of_le (by rw [List.length_take]; omega)]; rfl⟩
  case round =>
    obtain ⟨k, hak, hk, rfl, rfl⟩ := hrel
    have hlen : ((s.data.toList.take k).drop a).length = k - a := by rw [List.length_drop, List.length_take]; simp; omega
    have hbd := dv_bd ((s.data.toList.take k).drop a) (fun x hx => by
      obtain ⟨i, hi, rfl⟩ := List.getElem_of_mem hx
      rw [List.getElem_drop, List.getElem_take]
      rw [hlen] at hi
      exact HD.out (a + i) (by omega) (by omega) (by omega))
    rw [hlen] at hbd
    have h10 : (10 : Int) ^ (k - a) ≤ 1000000000 := by
      have : k - a = 0 ∨ k - a = 1 ∨ k - a = 2 ∨ k - a = 3 ∨ k - a = 4 ∨ k - a = 5 ∨ k - a = 6 ∨ k - a = 7 ∨ k - a = 8 ∨ k - a = 9 := by omega
      rcases this with h | h | h | h | h | h | h | h | h | h <;> rw [h] <;> decide
    have hb1 : dv ((s.data.toList.take k).drop a) < 1000000000 := by omega
    obtain ⟨hb0, _⟩ := hbd
    by_cases hkn : k < b
    · have hks : k < s.size := by omega
      obtain ⟨d1, d2⟩ := HD.out k hks hak hkn
      have HT := Lib.hid (drop_snoc s a k hks hak)
      have HV := Lib.hid (dv_snoc ((s.data.toList.take k).drop a) s[k])
      have hki : (0 : Int) ≤ (k : Int) := by omega
      have hkb : (k : Int) < (b : Int) := by omega
      have n1 : ¬ ((s[k]).toNat : Int) < 48 := by omega
      have n2 : ¬ (57 : Int) < ((s[k]).toNat : Int) := by omega
      clear h10 hlen
      generalize dv ((s.data.toList.take k).drop a) = n at *
      go_wp2_with fail
      go_round
      case rel => exact ⟨k + 1, by omega, by omega, by go_num, by rw [HT.out, HV.out]⟩
      case measure => simp [intOf]; omega
    · have hkb : k = b := by omega
      subst hkb
      clear hkn h10
      go_wp2_with fail
      go_ret2
      exact ⟨rfl, rfl⟩
end Go.Proofs.YtnlpjncljbaapaaGreatDoor
