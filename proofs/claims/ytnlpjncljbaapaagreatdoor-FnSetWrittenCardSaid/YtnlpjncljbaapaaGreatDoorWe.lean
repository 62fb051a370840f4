/- spec.weekdays, walked. -/
import Derived.Test.YtnlpjncljbaapaaGreatDoorNu
import Derived.Test.YtnlpjncljbaapaaGreatDoorSs
namespace Go.Proofs.YtnlpjncljbaapaaGreatDoor
open Go.RowKit

/-- A text says a day of a week with a number or without one. -/
def isWd (p : List UInt8) (d : Int × Int) : Prop := ∃ pre nm : List UInt8, p = pre ++ nm ∧ wdNames[d.1.toNat]? = some nm ∧ (0 ≤ d.1 ∧ d.1 ≤ 6) ∧ ((pre = [] ∧ d.2 = 0) ∨ (isNum pre d.2 ∧ d.2 ≠ 0))
theorem isWd_wstr (d : Int × Int) (h : (0 ≤ d.1 ∧ d.1 ≤ 6) ∧ -10000 < d.2 ∧ d.2 < 10000) : isWd (wstrL d) d := by
  obtain ⟨b, hb, -, -⟩ := wd_at d.1 h.1.1 h.1.2
  obtain ⟨b2, hb2, -⟩ := wd_at2 d.1 h.1.1 h.1.2
  refine ⟨if d.2 = 0 then [] else sgnL d.2, b2, ?_, hb2, h.1, ?_⟩
  · unfold wstrL; rw [hb2]; rfl
  · by_cases hz : d.2 = 0
    · rw [if_pos hz]; exact .inl ⟨rfl, hz⟩
    · rw [if_neg hz]; exact .inr ⟨isNum_sgn d.2 h.2, hz⟩
theorem idx_wd (k : Int) (h0 : 0 ≤ k) (h1 : k ≤ 6) (nm : List UInt8) (hn : wdNames[k.toNat]? = some nm) (g : Nat) (w : World) (hst : StrsAt w g wdNames) : Calls Tryz.prog 126 #[.slice (some ⟨g, 0, none⟩) 7 7, .string ⟨nm.toArray⟩] w fun e w' => e = .returned (.int .i64 k) ∧ w' = w := by
  have h := Tryz.slices_Index_string g 0 7 7 (wdNames.map fun x => (⟨x.toArray⟩ : ByteArray)) ⟨nm.toArray⟩ w (by decide) (by omega) (fun j hj => by
    rw [List.length_map] at hj
    rw [Nat.zero_add, hst j _ (List.getElem?_eq_getElem hj), List.getD_eq_getElem?_getD, List.getElem?_map, List.getElem?_eq_getElem hj]
    rfl)
  have hk : k = 0 ∨ k = 1 ∨ k = 2 ∨ k = 3 ∨ k = 4 ∨ k = 5 ∨ k = 6 := by omega
  rcases hk with e | e | e | e | e | e | e <;> subst e <;> (injection hn with hn; subst hn; exact h)
theorem ex_pre (pre nm : List UInt8) : (⟨(pre ++ nm).toArray⟩ : ByteArray).extract 0 pre.length = ⟨pre.toArray⟩ := by
  apply ByteArray.ext
  rw [ByteArray.data_extract]
  apply Array.ext'
  rw [Array.toList_extract, List.extract_eq_take_drop]
  simp
theorem ex_suf (pre nm : List UInt8) (n : Nat) (hn : nm.length = n) : (⟨(pre ++ nm).toArray⟩ : ByteArray).extract pre.length (pre.length + n) = ⟨nm.toArray⟩ := by
  subst hn
  apply ByteArray.ext
  rw [ByteArray.data_extract]
  apply Array.ext'
  rw [Array.toList_extract, List.extract_eq_take_drop]
  simp
theorem dayVs_snoc (l : List (Int × Int)) (d : Int × Int) : dayVs (l ++ [d]) = dayVs l ++ [.int .i64 d.1, .int .i64 d.2] := by simp [dayVs]
theorem isNum_len {p : List UInt8} {n : Int} (h : isNum p n) : 1 ≤ p.length ∧ p.length ≤ 7 := by
  obtain ⟨d, h1, h2, _, h⟩ := h
  rcases h with ⟨rfl, _⟩ | ⟨rfl, _⟩ | ⟨rfl, _⟩
  · omega
  · rw [List.length_cons]; omega
  · rw [List.length_cons]; omega
theorem isNum_i64 {p : List UInt8} {n : Int} (h : isNum p n) : -1000000 < n ∧ n < 1000000 := by
  obtain ⟨d, h1, h2, hd, h⟩ := h
  have := dv6 d h2 hd
  rcases h with ⟨_, rfl⟩ | ⟨_, rfl⟩ | ⟨_, rfl⟩ <;> omega
set_option maxRecDepth 100000 in
set_option maxHeartbeats 16000000 in
theorem sweekdays_any (t : List UInt8) (ps : List (List UInt8)) (ds : List (Int × Int)) (w : World) (ht : t.length ≤ 1000000) (hsp : splitL 44 t = ps) (hl : ps.length = ds.length) (hn : ∀ (i : Nat) p d, ps[i]? = some p → ds[i]? = some d → isWd p d) :
    Calls Tryz.prog 128 #[.string ⟨t.toArray⟩] w fun e w' => ∃ v, e = .returned (.tuple #[v, .bool true]) ∧ w'.ownsRow w.heap.size 98 2 v ds.length (dayVs ds) ∧ Below w.heap.size w w' := by
  have HC := Lib.hid (cut_any ⟨t.toArray⟩ 44 w (by rw [Lib.size_eq]; exact ht))
  rw [show splitL 44 (⟨t.toArray⟩ : ByteArray).data.toList = ps from hsp] at HC
  have HL := Lib.hid hl
  have HN := Lib.hid hn
  have hp1 : 0 < ps.length := by rw [← hsp]; exact (splitL_len 44 t).1
  have hp2 : ps.length ≤ 1000001 := by rw [← hsp]; have := (splitL_len 44 t).2; omega
  obtain ⟨tb, htb⟩ : ∃ tb : ByteArray, tb = ⟨t.toArray⟩ := ⟨_, rfl⟩
  rw [← htb] at HC ⊢
  obtain ⟨m, hm⟩ : ∃ m, m = ds.length := ⟨_, rfl⟩
  rw [← hm]
  have HM := Lib.hid hm
  have HP := Lib.hid (And.intro hp1 hp2)
  clear hsp hl hn ht htb hm hp1 hp2
  go_enter Tryz.func128, Tryz.ntmps128
  go_wp2_with fail
  refine HC.out.mono ?_; rintro e w2 ⟨v2, m2, rfl, hown, hm2, hb2⟩
  obtain rfl : m2 = m := by rw [← hm2, HL.out, HM.out]
  obtain ⟨q, c, rfl, hq⟩ := own_slice hown
  have hm0 : 0 < m2 := by have := HP.out.1; omega
  have hmt : m2 ≤ 1000001 := by have := HP.out.2; omega
  obtain ⟨g, rfl, hgB, hgl⟩ : ∃ g, q = some ⟨g, 0, none⟩ ∧ w.heap.size ≤ g ∧ g < w2.heap.size := by
    rcases hq with h | h
    · omega
    · exact h
  have HST := Lib.hid (StrsAt.of_own hown)
  have HB2 := Lib.hid hb2
  obtain ⟨B, hB⟩ : ∃ B, B = w2.heap.size := ⟨_, rfl⟩
  have hBle : B ≤ w2.heap.size := by omega
  have hgBB : g < B := by omega
  have hwB : w.heap.size ≤ B := by rw [hB]; exact hb2.size
  have HO2 := Lib.hid (own_nil w2 B 98 2)
  have HWD := Lib.hid fun W : World => weekdays_w W
  clear hown hm2 hq hgl hb2 hB HC
  go_wp2_with fail
  go_loopw [4, 6, 7, 8, 9, 10, 14] (fun u _ _ _ _ _ v wr => ∃ k : Nat, k ≤ m2 ∧ v = .int .i64 k ∧ Hid (wr.ownsRow B 98 2 u k (dayVs (ds.take k))) ∧ Hid (Below B w2 wr)) (fun _ _ _ _ _ _ v _ => m2 - (intOf v).toNat)
  case atStart => exact ⟨0, Nat.zero_le _, rfl, HO2, Lib.hid (.refl _ _)⟩
  case round =>
    clear HO2
    obtain ⟨k, hk, rfl, HO, HB⟩ := hrel
    have hwr := HB.out.size
    by_cases hkn : k < m2
    · have hkl : k < ds.length := by have := HM.out; omega
      have hkp : k < ps.length := by have := HL.out; omega
      have hx := List.getElem?_eq_getElem hkp
      have hc : wr.cell? ⟨g, k, none⟩ = some (.string ⟨ps[k].toArray⟩) := (HB.out.cell (p := ⟨g, k, none⟩) hgBB).trans (HST.out k _ hx)
      obtain ⟨pre, nm, hp, hnm, hd6, hnum⟩ := HN.out k _ _ hx (List.getElem?_eq_getElem hkl)
      have HTK := Lib.hid (show ds.take (k + 1) = ds.take k ++ [ds[k]] by rw [List.take_add_one, List.getElem?_eq_getElem hkl]; rfl)
      rw [hp] at hc
      obtain ⟨kd, nd, hdk⟩ : ∃ kd nd, ds[k] = (kd, nd) := ⟨_, _, rfl⟩
      rw [hdk] at hnm hd6 hnum HTK
      have hn2 : nm.length = 2 := by
        obtain ⟨b, hb, hl⟩ := wd_at2 kd hd6.1 hd6.2
        rw [hnm] at hb
        injection hb with hb
        rw [hb]; exact hl
      have HIX := Lib.hid fun (g : Nat) (W : World) (h : StrsAt W g wdNames) => idx_wd kd hd6.1 hd6.2 nm hnm g W h
      have hzs : (⟨(pre ++ nm).toArray⟩ : ByteArray).size = pre.length + 2 := by rw [Lib.size_eq, List.length_append, hn2]
      have e1 := ex_pre pre nm
      have e2 := ex_suf pre nm 2 hn2
      have hkd : ¬ kd < 0 := by have := hd6.1; omega
      obtain ⟨pb, hpb⟩ : ∃ pb : ByteArray, pb = ⟨pre.toArray⟩ := ⟨_, rfl⟩
      obtain ⟨nb, hnb⟩ : ∃ nb : ByteArray, nb = ⟨nm.toArray⟩ := ⟨_, rfl⟩
      rw [← hpb] at e1
      rw [← hnb] at e2 HIX
      obtain ⟨pl, hpl⟩ : ∃ pl, pl = pre.length := ⟨_, rfl⟩
      rw [← hpl] at e1 e2 hzs
      have HNM := Lib.hid fun (W : World) (h : isNum pre nd) => number_any pre nd W h
      rw [← hpb] at HNM
      have HNU := Lib.hid hnum
      have HPL := Lib.hid hpl
      generalize (⟨(pre ++ nm).toArray⟩ : ByteArray) = z at *
      have hki : (0 : Int) ≤ ((k : Nat) : Int) := by omega
      have hkni : ((k : Nat) : Int) < ((m2 : Nat) : Int) := by omega
      have n1 : decide ((pl : Int) + 2 < 2) = false := by simp; omega
      have hpl7 : pl ≤ 7 := by
        rw [hpl]
        rcases hnum with ⟨h, _⟩ | ⟨h, _⟩
        · rw [h]; simp
        · exact (isNum_len h).2
      have hple : (pl : Int) ≤ (pl : Int) + 2 := by omega
      have hwr7 : IntKind.i64.wrap (pl : Int) = (pl : Int) := by simp [IntKind.wrap, IntKind.bits, IntKind.signed]; omega
      clear hx hp hnm hnum hpb hnb hpl hdk hn2
      go_wp2_with fail
      go_region_law (first
        | (go_simp; go_at_call 105; refine (HWD.out _).mono ?_; rintro e w6 ⟨g6, rfl, hst, hg6, hg7, hb6⟩; have HO6 := Lib.hid (own_below (w := wr.drew) HO.out hb6); have HB6 := Lib.hid ((HB.out.drew).trans (hb6.mono (Nat.le_trans hBle hwr))); have HST6 := Lib.hid hst; clear hst hb6)
        | (go_simp; go_at_call 126; refine (HIX.out _ _ HST6.out).mono ?_; rintro e w7 ⟨rfl, rfl⟩))
      all_goals
        have hw6 : B ≤ w7.heap.size := Nat.le_trans hBle HB6.out.size
        rcases HNU.out with ⟨hp0, rfl⟩ | ⟨hnumx, hnd0⟩
        · have hpl0 : pl = 0 := by rw [HPL.out, hp0]; rfl
          clear HNU HNM
          subst hpl0
          go_wp2_with (at_builtin; refine app_own' (w7.heap.size + 1) (by simp) B rfl _ _ 23 98 (.agg #[.int .i64 0, .int .i64 0]) 2 16 rfl Tryz.underlying23 info98 rfl (by decide) (by decide) _ k (dayVs (ds.take k)) [.int .i64 kd, .int .i64 0] (by rfl) (by rfl) rfl (by simp [Value.oneCell']) (HO6.out.alloc _) (by simp; omega) (by omega) ?_)
          intro g8 cap8 w8 hown8 hg8 hg9 hcap8 hgrow hat8
          have HB8 := Lib.hid ((HB6.out.alloc hw6 _).grown hgrow (by simp; omega) (own_base HO6.out))
          have HO8 := Lib.hid hown8
          clear hown8 hgrow hat8
          go_wp2_with fail
          go_roundw
          case rel => exact ⟨k + 1, by omega, by go_num, Lib.hid (by rw [HTK.out, dayVs_snoc]; exact HO8.out), HB8⟩
          case measure => simp [intOf]; omega
        · have hl7 := (isNum_len hnumx).1
          have hn6 := isNum_i64 hnumx
          have n2 : decide ((2 : Int) < (pl : Int) + 2) = true := by have := HPL.out; simp; omega
          have n3 : (nd == 0) = false := by rw [beq_eq_false_iff_ne]; exact hnd0
          have HNX := Lib.hid fun W : World => HNM.out W hnumx
          clear HNU HNM hnumx
          go_wp2_with fail
          refine (HNX.out _).mono ?_; rintro e w8 ⟨rfl, rfl⟩
          go_wp2_with (at_builtin; refine app_own' (w7.heap.size + 1) (by simp) B rfl _ _ 23 98 (.agg #[.int .i64 0, .int .i64 0]) 2 16 rfl Tryz.underlying23 info98 rfl (by decide) (by decide) _ k (dayVs (ds.take k)) [.int .i64 kd, .int .i64 nd] (by rfl) (by rfl) rfl (by simp [Value.oneCell']) (HO6.out.alloc _) (by simp; omega) (by omega) ?_)
          intro g8 cap8 w8 hown8 hg8 hg9 hcap8 hgrow hat8
          have HB8 := Lib.hid ((HB6.out.alloc hw6 _).grown hgrow (by simp; omega) (own_base HO6.out))
          have HO8 := Lib.hid hown8
          clear hown8 hgrow hat8
          go_wp2_with fail
          go_roundw
          case rel => exact ⟨k + 1, by omega, by go_num, Lib.hid (by rw [HTK.out, dayVs_snoc]; exact HO8.out), HB8⟩
          case measure => simp [intOf]; omega
    · obtain rfl : k = m2 := by omega
      have hT : ds.take k = ds := List.take_of_length_le (by have := HM.out; omega)
      rw [hT] at HO
      go_wp2_with fail
      go_ret2
      exact ⟨_, rfl, Joins.ownsRow_le HO.out hwB, HB2.out.trans (HB.out.mono hwB)⟩
end Go.Proofs.YtnlpjncljbaapaaGreatDoor
