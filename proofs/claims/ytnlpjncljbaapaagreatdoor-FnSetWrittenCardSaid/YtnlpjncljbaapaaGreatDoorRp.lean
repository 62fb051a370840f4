/- StrToROptionInLocation, walked. -/
import Derived.Test.YtnlpjncljbaapaaGreatDoorRo
import Derived.Deep.WholeRow
namespace Go.Proofs.YtnlpjncljbaapaaGreatDoor
open Go.RowKit

theorem trimPrefix_any (l : List UInt8) (w : World) (h : Lib.trimPrefix l [82, 82, 85, 76, 69, 58] = l) :
    Calls Tryz.prog 142 #[.string ⟨l.toArray⟩, .string ⟨#[82, 82, 85, 76, 69, 58]⟩] w fun e w' => e = .returned (.string ⟨l.toArray⟩) ∧ w' = w :=
  (Tryz.strings_TrimPrefix ⟨l.toArray⟩ ⟨#[82, 82, 85, 76, 69, 58]⟩ w).mono fun e w' ⟨he, hw⟩ => ⟨by rw [he]; show Ending.returned (.string ⟨(Lib.trimPrefix l [82, 82, 85, 76, 69, 58]).toArray⟩) = _; rw [h], hw⟩

section
variable {P : Program} {ops : Array Oper} {rest : List Oper} {o : Oper} {a : Act} {Q : Exit → Act → World → Prop}
/-- Fits where the next operation is a store of that type. -/
theorem gd_st {P : Program} {ops : Array Oper} {rest : List Oper} {a : Act} {Q : Exit → Act → World → Prop} {w : World} (T : TypeId) {d : Option Tmp} {m x : Operand} {ty : TypeId} {ps : String} {af : Array Edge} {g : Option (Nat × Bool)}
    (h : wpList P ops Q ({ dst := d, op := Op.store T m x, type := ty, pos := ps, after := af, guard := g } :: rest) a w) : wpList P ops Q ({ dst := d, op := Op.store T m x, type := ty, pos := ps, after := af, guard := g } :: rest) a w := h
/-- A whole struct is stored into the block that was made last. -/
theorem wpl_store_new {W : World} (hg : o.guard = none) (t : TypeId) (m x : Operand) (hop : o.op = Op.store t m x) (c c' : Array Value)
    (hm : a.eval m = .pointer (some ⟨W.heap.size, 0, none⟩)) (hx : a.eval x = .agg c') (hi : (P.info? t).map (·.size) = some c'.size) (ho : c.size = c'.size) (h1 : c'.all (·.oneCell') = true)
    (h : wpList P ops Q rest (a.put o.dst undef) (W.alloc (.cells c' t))) : wpList P ops Q (o :: rest) a (W.alloc (.cells c t)) := by
  refine wpList_plain hg fun K' hK' => ?_
  have hrun := run_storeAt_new (P := P) W t c c' hi ho h1
  unfold Oper.wp
  simp [execOp, hop, hm, hx, hrun, Result.andThen]
  exact hK' _ _ h
end
theorem info122s : (Tryz.prog.info? 122).map (·.size) = some 19 := by kernel_rfl
def opt0 : Array Value := #[.int .i64 0, .int .i64 0, .int .i64 0, .int .i64 0, .int .i64 0, .int .i64 0, .int .i64 0, .int .i64 0, .int .i64 0, .slice none 0 0, .slice none 0 0, .slice none 0 0, .slice none 0 0, .slice none 0 0, .slice none 0 0, .slice none 0 0, .slice none 0 0, .slice none 0 0, .slice none 0 0]
theorem opt0_cells : ∀ i, i < opt0.size → opt0[i]? = some (optCell {} (fun _ => .slice none 0 0) i) := by
  intro i hi
  match i, hi with
  | 0, _ => rfl
  | 1, _ => rfl
  | 2, _ => rfl
  | 3, _ => rfl
  | 4, _ => rfl
  | 5, _ => rfl
  | 6, _ => rfl
  | 7, _ => rfl
  | 8, _ => rfl
  | 9, _ => rfl
  | 10, _ => rfl
  | 11, _ => rfl
  | 12, _ => rfl
  | 13, _ => rfl
  | 14, _ => rfl
  | 15, _ => rfl
  | 16, _ => rfl
  | 17, _ => rfl
  | 18, _ => rfl
  | k + 19, h => exact absurd h (by show ¬ k + 19 < 19; omega)
theorem opt0_one : opt0.all (·.oneCell') = true := by simp [opt0, Value.oneCell']

theorem putAll_take {ps : List Part} {k : Nat} {p : Part} (h : ps[k]? = some p) : putAll (ps.take (k + 1)) = Part.put (putAll (ps.take k)) p := by
  unfold putAll
  rw [List.take_add_one, h, List.foldl_append]
  rfl
set_option maxRecDepth 100000 in
set_option maxHeartbeats 8000000 in
theorem opt_ok (ps : List Part) (ats : List (List UInt8)) (text : List UInt8) (w : World) (hG : Glob w) (hc : Clean text) (hlen : text.length ≤ 1000000) (h10 : (10 : UInt8) ∉ text) (hpre : Lib.trimPrefix text [82, 82, 85, 76, 69, 58] = text) (hsp : splitL 59 text = ats) (hal : ats.length = ps.length) (hsay : ∀ (i : Nat) a p, ats[i]? = some a → ps[i]? = some p → p.says a) (i0 : Int) (hf : ps[0]? = some (.freq i0)) :
    Calls Tryz.prog 93 #[.string ⟨text.toArray⟩, .agg #[]] w fun e w' => GivesOpt (putAll ps) w e w' := by
  have HT := Lib.hid fun W (hG : Glob W) => trim_any text W hG hc hlen
  have S := fun W : World => zzSplit_any ⟨text.toArray⟩ 10 W (by rw [Lib.size_eq]; simp; omega)
  rw [show splitL 10 (⟨text.toArray⟩ : ByteArray).data.toList = [text] from splitL_one h10] at S
  have HS := Lib.hid S
  have HP := Lib.hid fun W : World => trimPrefix_any text W hpre
  have S2 := fun W : World => zzSplit_any ⟨text.toArray⟩ 59 W (by rw [Lib.size_eq]; simp; omega)
  rw [show splitL 59 (⟨text.toArray⟩ : ByteArray).data.toList = ats from hsp] at S2
  have HS2 := Lib.hid S2
  have HGl := Lib.hid hG
  have HSay := Lib.hid hsay
  have HF := Lib.hid hf
  have hn : ats.length ≤ 1000001 := by have := (splitL_len 59 text).2; rw [hsp] at this; omega
  have hn1 : 1 ≤ ats.length := by have := (splitL_len 59 text).1; rw [hsp] at this; omega
  obtain ⟨n, hnn⟩ : ∃ n, n = ats.length := ⟨_, rfl⟩
  have Hn := Lib.hid hnn
  rw [← hnn] at hal hn hn1
  have Hal := Lib.hid hal
  clear S S2 hpre hsp hc h10 hsay hG hnn hal hf
  go_enter Tryz.func93, Tryz.ntmps93
  go_wp2_with fail
  refine (HT.out _ (HGl.out.on (by exact below_a1))).mono ?_; rintro e w1 ⟨rfl, hb1⟩
  have hb2 : Below w.heap.size w w1 := below_a1.trans (hb1.mono (B' := w.heap.size) (by simp))
  have hz2 := hb2.size
  clear hb1
  go_wp2_with fail
  refine (HS.out _).mono ?_; rintro e w2 ⟨g, cap, rfl, hcap, hst, hg1, hg2, hb⟩
  have hc : w2.cell? ⟨g, 0, none⟩ = some (.string ⟨text.toArray⟩) := hst 0 _ rfl
  have hb3 : Below w.heap.size w w2 := hb2.trans (hb.mono (B' := w.heap.size) hz2)
  have hz3 := hb3.size
  have HB := Lib.hid hb3
  clear hst hb hb2 hb3
  go_wp2_with ((with_reducible refine gd_st 122 ?_); refine wpl_store_new rfl 122 _ _ rfl opt0 opt0 (by rfl) (by rfl) info122s rfl opt0_one ?_)
  refine (HP.out _).mono ?_; rintro e w3 ⟨rfl, rfl⟩
  have hrow := World.rowIs_alloc w2 opt0 122 (optCell {} fun _ => .slice none 0 0) opt0_cells
  have hb5 : Below w.heap.size w (w2.alloc (.cells opt0 122)) := HB.out.alloc hz3 _
  have HB5 := Lib.hid hb5
  have hz5 : w2.heap.size < (w2.alloc (.cells opt0 122)).heap.size := by simp
  have HR := Lib.hid hrow
  clear hc hb5 hg1 hg2 hrow HB HP HT HS
  generalize w2.heap.size = G at *
  generalize w2.alloc (.cells opt0 122) = w5 at *
  go_wp2_with fail
  refine (HS2.out _).mono ?_; rintro e w4 ⟨g2, cap2, rfl, hcap2, hst2, hg3, hg4, hb4⟩
  have hO : OptAt w4 G {} fun _ => .slice none 0 0 := by
    refine OptAt.below (w := w5) ⟨HR.out, fun k hk => .inl ⟨rfl, rfl⟩, .inl ⟨rfl, rfl⟩⟩ hb4
  have HO := Lib.hid hO
  have HT := Lib.hid hst2
  have HB6 := Lib.hid (HB5.out.trans (hb4.mono (B' := w.heap.size) (by omega)))
  have hgG : G < g2 := by omega
  rw [← Hn.out] at hcap2 ⊢
  clear hst2 hb4 hO HR HB5 hg3 HS2
  go_wp2_with fail
  go_loopw [10, 72] (fun b v wr => ∃ k : Nat, k ≤ n ∧ v = .int .i64 k ∧ b = .bool (decide (0 < k)) ∧ StrsAt wr g2 ats ∧ (∃ sl, OptAt wr G (putAll (ps.take k)) sl) ∧ Below w.heap.size w wr ∧ g2 < wr.heap.size) (fun _ v _ => n - (intOf v).toNat)
  case atStart => exact ⟨0, Nat.zero_le _, rfl, rfl, HT.out, ⟨_, HO.out⟩, HB6.out, hg4⟩
  case round =>
    clear HT HB6 hg4 HO
    obtain ⟨k, hk, rfl, rfl, hst, ⟨sl, hO⟩, hb, hg4⟩ := hrel
    have HO := Lib.hid hO
    have HT := Lib.hid hst
    have HB := Lib.hid hb
    clear hst hO hb
    by_cases hkn : k < n
    · have hka : k < ats.length := by have := Hn.out; omega
      have hkp : k < ps.length := by have := Hal.out; omega
      have hc := HT.out k ats[k] (List.getElem?_eq_getElem hka)
      have hs := HSay.out k ats[k] ps[k] (List.getElem?_eq_getElem hka) (List.getElem?_eq_getElem hkp)
      have HK := Lib.hid (List.getElem?_eq_getElem hkp)
      have hF0 : k = 0 → ps[k] = .freq i0 := by
        intro h
        have := HF.out
        subst h
        rw [List.getElem?_eq_getElem hkp] at this
        simpa using this
      have HF0 := Lib.hid hF0
      generalize ats[k] = ak at *
      generalize ps[k] = pk at *
      obtain ⟨v, rfl, hv0, hv61, hvl, hval⟩ := hs
      have hA := fun W : World => zzSplit_any ⟨(pk.name ++ 61 :: v).toArray⟩ 61 W (by rw [Lib.size_eq]; have := pk.name_len; simp; omega)
      rw [show splitL 61 (⟨(pk.name ++ 61 :: v).toArray⟩ : ByteArray).data.toList = [pk.name, v] from by rw [show (⟨(pk.name ++ 61 :: v).toArray⟩ : ByteArray).data.toList = pk.name ++ 61 :: v from rfl, splitL_app pk.name_eq, splitL_one hv61]] at hA
      have HA := Lib.hid hA
      have HV := Lib.hid hval
      have HGw := Lib.hid (HGl.out.on HB.out)
      have hvs : v.length ≠ 0 := fun h => hv0 (List.length_eq_zero_iff.1 h)
      clear hka hkp hF0 hA hv61 hv0 hval
      go_wp2_with fail
      refine (HA.out _).mono ?_; rintro e w6 ⟨g3, cap3, rfl, hcap3, hst3, hg5, hg6, hb6⟩
      have hn0 : w6.cell? ⟨g3, 0, none⟩ = some (.string ⟨pk.name.toArray⟩) := hst3 0 _ rfl
      have hn1' : w6.cell? ⟨g3, 1, none⟩ = some (.string ⟨v.toArray⟩) := hst3 1 _ rfl
      have hO6 := HO.out.below hb6
      have HO6 := Lib.hid hO6
      have HT6 := Lib.hid (HT.out.below hb6 hg4)
      have HB6 := Lib.hid (HB.out.trans (hb6.mono HB.out.size))
      have hz6 : g2 < w6.heap.size := Nat.lt_of_lt_of_le hg4 hb6.size
      have HG6 := Lib.hid (HGw.out.on hb6)
      have hsv : (⟨v.toArray⟩ : ByteArray).size = v.length := by rw [Lib.size_eq]
      have hi0 : (0 : Int) < ((2 : Nat) : Int) := by decide
      have hi1 : (1 : Int) < ((2 : Nat) : Int) := by decide
      clear hst3 HA HO HT HB HGw hb6 hO6 hc
      go_wp2_with fail
      go_quiet (fail)
      cases pk with
      | freq i => as_aux_lemma =>
        simp only [Part.name] at *
        have HC := Lib.hid fun W : World => strToFreq_ok ⟨v.toArray⟩ i W HV.out
        have hG6 := HO6.out.row.lt
        clear HV HG6
        go_wp2_with fail
        refine (HC.out _).mono ?_; rintro e w7 ⟨rfl, hb7⟩
        have hb7 : Below w6.heap.size w6 w7 := (pw_drewN (Below.refl _ w6) _).trans (hb7.mono (by simp))
        have hO7 := HO6.out.below hb7
        have HT7 := Lib.hid (HT6.out.below hb7 hz6)
        have HB7 := Lib.hid (HB6.out.trans (hb7.mono HB6.out.size))
        have hz7 := Nat.lt_of_lt_of_le hz6 hb7.size
        have HO7 := Lib.hid hO7
        have hk0 := hO7.row.cell (i := 0) (by decide)
        have hf0 := hO7.row.frozen 0
        clear HO6 HT6 HB6 hO7 hb7 HC hn0 hn1'
        go_wp2_with fail
        go_roundw
        case rel =>
          refine ⟨k + 1, by omega, by go_num, by simp, ?_, ?_, ?_, by simpa using hz7⟩
          · refine HT7.out.keep fun j => ?_
            simp only [World.cell?_setCell_other, ne_eq, Addr.mk.injEq, (Nat.ne_of_lt hgG), false_and, not_false_eq_true]
          · rw [putAll_take HK.out]
            exact ⟨_, HO7.out.set1 0 _ (fun j => by match j with | 0 | 1 | 2 | 3 | 4 | 5 | 6 | 7 | 8 => rfl | j + 9 => simp [optCell]) rfl rfl⟩
          · exact (HB7.out.setCell hz3 _)
        case measure => simp [intOf]; omega
      | till t => as_aux_lemma =>
        have hk0 : 0 < k := Nat.pos_of_ne_zero fun h => by have := HF0.out h; cases this
        rw [show decide (0 < k) = true from decide_eq_true hk0]
        obtain rfl := HV.out.1
        simp only [Part.name] at *
        have HC := Lib.hid fun W : World => strToTime_date t W HV.out.2.1 HV.out.2.2
        have hG6 := HO6.out.row.lt
        clear HV HG6
        go_wp2_with fail
        refine (HC.out _).mono ?_; rintro e w7 ⟨rfl, hb7⟩
        have hb7 : Below w6.heap.size w6 w7 := (pw_drewN (Below.refl _ w6) _).trans (hb7.mono (by simp))
        have hO7 := HO6.out.below hb7
        have HT7 := Lib.hid (HT6.out.below hb7 hz6)
        have HB7 := Lib.hid (HB6.out.trans (hb7.mono HB6.out.size))
        have hz7 := Nat.lt_of_lt_of_le hz6 hb7.size
        have HO7 := Lib.hid hO7
        have hk7 := hO7.row.cell (i := 7) (by decide)
        have hf7 := hO7.row.frozen 7
        have hk8 := hO7.row.cell (i := 8) (by decide)
        have hf8 := hO7.row.frozen 8
        clear HO6 HT6 HB6 hO7 hb7 HC hn0 hn1'
        go_wp2_with fail
        go_roundw
        case rel =>
          refine ⟨k + 1, by omega, by go_num, by simp, ?_, ?_, ?_, by simpa using hz7⟩
          · refine HT7.out.keep fun j => ?_
            simp only [World.cell?_setCell_other, ne_eq, Addr.mk.injEq, (Nat.ne_of_lt hgG), false_and, not_false_eq_true]
          · rw [putAll_take HK.out]
            exact ⟨_, HO7.out.set2 7 _ _ (fun j => by match j with | 0 | 1 | 2 | 3 | 4 | 5 | 6 | 7 | 8 => rfl | j + 9 => simp [optCell]) rfl rfl⟩
          · exact ((HB7.out.setCell hz3 _).setCell hz3 _)
        case measure => simp [intOf]; omega
      | count m => as_aux_lemma =>
        have hk0 : 0 < k := Nat.pos_of_ne_zero fun h => by have := HF0.out h; cases this
        rw [show decide (0 < k) = true from decide_eq_true hk0]
        simp only [Part.name] at *
        have HC := Lib.hid fun W : World => atoi_any ⟨v.toArray⟩ m (by rw [hsv]; exact HV.out.1) HV.out.2 W
        have hG6 := HO6.out.row.lt
        clear HV HG6
        go_wp2_with fail
        refine (HC.out _).mono ?_; rintro e w7 ⟨rfl, hb7⟩
        have hb7 : Below w6.heap.size w6 w7 := (pw_drewN (Below.refl _ w6) _).trans (hb7.mono (by simp))
        have hO7 := HO6.out.below hb7
        have HT7 := Lib.hid (HT6.out.below hb7 hz6)
        have HB7 := Lib.hid (HB6.out.trans (hb7.mono HB6.out.size))
        have hz7 := Nat.lt_of_lt_of_le hz6 hb7.size
        have HO7 := Lib.hid hO7
        have hk6 := hO7.row.cell (i := 6) (by decide)
        have hf6 := hO7.row.frozen 6
        clear HO6 HT6 HB6 hO7 hb7 HC hn0 hn1'
        go_wp2_with fail
        go_roundw
        case rel =>
          refine ⟨k + 1, by omega, by go_num, by simp, ?_, ?_, ?_, by simpa using hz7⟩
          · refine HT7.out.keep fun j => ?_
            simp only [World.cell?_setCell_other, ne_eq, Addr.mk.injEq, (Nat.ne_of_lt hgG), false_and, not_false_eq_true]
          · rw [putAll_take HK.out]
            exact ⟨_, HO7.out.set1 6 _ (fun j => by match j with | 0 | 1 | 2 | 3 | 4 | 5 | 6 | 7 | 8 => rfl | j + 9 => simp [optCell]) rfl rfl⟩
          · exact (HB7.out.setCell hz3 _)
        case measure => simp [intOf]; omega
      | interval m => as_aux_lemma =>
        have hk0 : 0 < k := Nat.pos_of_ne_zero fun h => by have := HF0.out h; cases this
        rw [show decide (0 < k) = true from decide_eq_true hk0]
        simp only [Part.name] at *
        have HC := Lib.hid fun W : World => atoi_any ⟨v.toArray⟩ m (by rw [hsv]; exact HV.out.1) HV.out.2 W
        have hG6 := HO6.out.row.lt
        clear HV HG6
        go_wp2_with fail
        refine (HC.out _).mono ?_; rintro e w7 ⟨rfl, hb7⟩
        have hb7 : Below w6.heap.size w6 w7 := (pw_drewN (Below.refl _ w6) _).trans (hb7.mono (by simp))
        have hO7 := HO6.out.below hb7
        have HT7 := Lib.hid (HT6.out.below hb7 hz6)
        have HB7 := Lib.hid (HB6.out.trans (hb7.mono HB6.out.size))
        have hz7 := Nat.lt_of_lt_of_le hz6 hb7.size
        have HO7 := Lib.hid hO7
        have hk3 := hO7.row.cell (i := 3) (by decide)
        have hf3 := hO7.row.frozen 3
        clear HO6 HT6 HB6 hO7 hb7 HC hn0 hn1'
        go_wp2_with fail
        go_roundw
        case rel =>
          refine ⟨k + 1, by omega, by go_num, by simp, ?_, ?_, ?_, by simpa using hz7⟩
          · refine HT7.out.keep fun j => ?_
            simp only [World.cell?_setCell_other, ne_eq, Addr.mk.injEq, (Nat.ne_of_lt hgG), false_and, not_false_eq_true]
          · rw [putAll_take HK.out]
            exact ⟨_, HO7.out.set1 3 _ (fun j => by match j with | 0 | 1 | 2 | 3 | 4 | 5 | 6 | 7 | 8 => rfl | j + 9 => simp [optCell]) rfl rfl⟩
          · exact (HB7.out.setCell hz3 _)
        case measure => simp [intOf]; omega
      | wkst d => as_aux_lemma =>
        have hk0 : 0 < k := Nat.pos_of_ne_zero fun h => by have := HF0.out h; cases this
        rw [show decide (0 < k) = true from decide_eq_true hk0]
        simp only [Part.name] at *
        have HC := Lib.hid fun q : Nat => strToWeekday_any v d 0 (w6.drewN q) (HG6.out.on (pw_drewN (Below.refl _ w6) q)) HV.out
        have hG6 := HO6.out.row.lt
        clear HV HG6
        go_wp2_with fail
        refine (HC.out _).mono ?_; rintro e w7 ⟨rfl, hb7⟩
        have hb7 : Below w6.heap.size w6 w7 := (pw_drewN (Below.refl _ w6) _).trans (hb7.mono (by simp))
        have hO7 := HO6.out.below hb7
        have HT7 := Lib.hid (HT6.out.below hb7 hz6)
        have HB7 := Lib.hid (HB6.out.trans (hb7.mono HB6.out.size))
        have hz7 := Nat.lt_of_lt_of_le hz6 hb7.size
        have HO7 := Lib.hid hO7
        have hk4 := hO7.row.cell (i := 4) (by decide)
        have hf4 := hO7.row.frozen 4
        have hk5 := hO7.row.cell (i := 5) (by decide)
        have hf5 := hO7.row.frozen 5
        clear HO6 HT6 HB6 hO7 hb7 HC hn0 hn1'
        go_wp2_with fail
        go_roundw
        case rel =>
          refine ⟨k + 1, by omega, by go_num, by simp, ?_, ?_, ?_, by simpa using hz7⟩
          · refine HT7.out.keep fun j => ?_
            simp only [World.cell?_setCell_other, ne_eq, Addr.mk.injEq, (Nat.ne_of_lt hgG), false_and, not_false_eq_true]
          · rw [putAll_take HK.out]
            exact ⟨_, HO7.out.set2 4 _ _ (fun j => by match j with | 0 | 1 | 2 | 3 | 4 | 5 | 6 | 7 | 8 => rfl | j + 9 => simp [optCell]) rfl rfl⟩
          · exact ((HB7.out.setCell hz3 _).setCell hz3 _)
        case measure => simp [intOf]; omega
      | days l => as_aux_lemma =>
        have hk0 : 0 < k := Nat.pos_of_ne_zero fun h => by have := HF0.out h; cases this
        rw [show decide (0 < k) = true from decide_eq_true hk0]
        simp only [Part.name] at *
        have HC := Lib.hid fun q : Nat => strToWeekdays_ok ⟨v.toArray⟩ l (w6.drewN q) (HG6.out.on (pw_drewN (Below.refl _ w6) q)) (by rw [hsv]; exact HV.out.1) HV.out.2
        have hG6 := HO6.out.row.lt
        clear HV HG6
        go_wp2_with fail
        refine (HC.out _).mono ?_; rintro e w7 ⟨g7, rfl, hI, hg7, hg8, hb7⟩
        have hb7 : Below w6.heap.size w6 w7 := (pw_drewN (Below.refl _ w6) _).trans (hb7.mono (by simp))
        have hO7 := HO6.out.below hb7
        have HT7 := Lib.hid (HT6.out.below hb7 hz6)
        have HB7 := Lib.hid (HB6.out.trans (hb7.mono HB6.out.size))
        have hz7 := Nat.lt_of_lt_of_le hz6 hb7.size
        have HO7 := Lib.hid hO7
        have hk14 := hO7.row.cell (i := 14) (by decide)
        have hf14 := hO7.row.frozen 14
        clear HO6 HT6 HB6 hO7 hb7 HC hn0 hn1'
        go_wp2_with fail
        go_roundw
        case rel =>
          refine ⟨k + 1, by omega, by go_num, by simp, ?_, ?_, ?_, by simpa using hz7⟩
          · refine HT7.out.keep fun j => ?_
            simp only [World.cell?_setCell_other, ne_eq, Addr.mk.injEq, (Nat.ne_of_lt hgG), false_and, not_false_eq_true]
          · rw [putAll_take HK.out]
            exact ⟨_, HO7.out.setD g7 l hI (Nat.lt_of_lt_of_le hG6 (by simpa using hg7)) hg8⟩
          · exact (HB7.out.setCell hz3 _)
        case measure => simp [intOf]; omega
      | i17 l => as_aux_lemma =>
        have hk0 : 0 < k := Nat.pos_of_ne_zero fun h => by have := HF0.out h; cases this
        rw [show decide (0 < k) = true from decide_eq_true hk0]
        simp only [Part.name] at *
        have HC := Lib.hid fun W : World => strToInts_ok ⟨v.toArray⟩ l W (by rw [hsv]; exact HV.out.1) HV.out.2
        have hG6 := HO6.out.row.lt
        clear HV HG6
        go_wp2_with fail
        refine (HC.out _).mono ?_; rintro e w7 ⟨g7, rfl, hI, hg7, hg8, hb7⟩
        have hb7 : Below w6.heap.size w6 w7 := (pw_drewN (Below.refl _ w6) _).trans (hb7.mono (by simp))
        have hO7 := HO6.out.below hb7
        have HT7 := Lib.hid (HT6.out.below hb7 hz6)
        have HB7 := Lib.hid (HB6.out.trans (hb7.mono HB6.out.size))
        have hz7 := Nat.lt_of_lt_of_le hz6 hb7.size
        have HO7 := Lib.hid hO7
        have hk17 := hO7.row.cell (i := 17) (by decide)
        have hf17 := hO7.row.frozen 17
        clear HO6 HT6 HB6 hO7 hb7 HC hn0 hn1'
        go_wp2_with fail
        go_roundw
        case rel =>
          refine ⟨k + 1, by omega, by go_num, by simp, ?_, ?_, ?_, by simpa using hz7⟩
          · refine HT7.out.keep fun j => ?_
            simp only [World.cell?_setCell_other, ne_eq, Addr.mk.injEq, (Nat.ne_of_lt hgG), false_and, not_false_eq_true]
          · rw [putAll_take HK.out]
            exact ⟨_, HO7.out.setL 17 g7 l (by decide) (by decide) hI (Nat.lt_of_lt_of_le hG6 (by simpa using hg7)) hg8⟩
          · exact (HB7.out.setCell hz3 _)
        case measure => simp [intOf]; omega
      | i16 l => as_aux_lemma =>
        have hk0 : 0 < k := Nat.pos_of_ne_zero fun h => by have := HF0.out h; cases this
        rw [show decide (0 < k) = true from decide_eq_true hk0]
        simp only [Part.name] at *
        have HC := Lib.hid fun W : World => strToInts_ok ⟨v.toArray⟩ l W (by rw [hsv]; exact HV.out.1) HV.out.2
        have hG6 := HO6.out.row.lt
        clear HV HG6
        go_wp2_with fail
        refine (HC.out _).mono ?_; rintro e w7 ⟨g7, rfl, hI, hg7, hg8, hb7⟩
        have hb7 : Below w6.heap.size w6 w7 := (pw_drewN (Below.refl _ w6) _).trans (hb7.mono (by simp))
        have hO7 := HO6.out.below hb7
        have HT7 := Lib.hid (HT6.out.below hb7 hz6)
        have HB7 := Lib.hid (HB6.out.trans (hb7.mono HB6.out.size))
        have hz7 := Nat.lt_of_lt_of_le hz6 hb7.size
        have HO7 := Lib.hid hO7
        have hk16 := hO7.row.cell (i := 16) (by decide)
        have hf16 := hO7.row.frozen 16
        clear HO6 HT6 HB6 hO7 hb7 HC hn0 hn1'
        go_wp2_with fail
        go_roundw
        case rel =>
          refine ⟨k + 1, by omega, by go_num, by simp, ?_, ?_, ?_, by simpa using hz7⟩
          · refine HT7.out.keep fun j => ?_
            simp only [World.cell?_setCell_other, ne_eq, Addr.mk.injEq, (Nat.ne_of_lt hgG), false_and, not_false_eq_true]
          · rw [putAll_take HK.out]
            exact ⟨_, HO7.out.setL 16 g7 l (by decide) (by decide) hI (Nat.lt_of_lt_of_le hG6 (by simpa using hg7)) hg8⟩
          · exact (HB7.out.setCell hz3 _)
        case measure => simp [intOf]; omega
      | i15 l => as_aux_lemma =>
        have hk0 : 0 < k := Nat.pos_of_ne_zero fun h => by have := HF0.out h; cases this
        rw [show decide (0 < k) = true from decide_eq_true hk0]
        simp only [Part.name] at *
        have HC := Lib.hid fun W : World => strToInts_ok ⟨v.toArray⟩ l W (by rw [hsv]; exact HV.out.1) HV.out.2
        have hG6 := HO6.out.row.lt
        clear HV HG6
        go_wp2_with fail
        refine (HC.out _).mono ?_; rintro e w7 ⟨g7, rfl, hI, hg7, hg8, hb7⟩
        have hb7 : Below w6.heap.size w6 w7 := (pw_drewN (Below.refl _ w6) _).trans (hb7.mono (by simp))
        have hO7 := HO6.out.below hb7
        have HT7 := Lib.hid (HT6.out.below hb7 hz6)
        have HB7 := Lib.hid (HB6.out.trans (hb7.mono HB6.out.size))
        have hz7 := Nat.lt_of_lt_of_le hz6 hb7.size
        have HO7 := Lib.hid hO7
        have hk15 := hO7.row.cell (i := 15) (by decide)
        have hf15 := hO7.row.frozen 15
        clear HO6 HT6 HB6 hO7 hb7 HC hn0 hn1'
        go_wp2_with fail
        go_roundw
        case rel =>
          refine ⟨k + 1, by omega, by go_num, by simp, ?_, ?_, ?_, by simpa using hz7⟩
          · refine HT7.out.keep fun j => ?_
            simp only [World.cell?_setCell_other, ne_eq, Addr.mk.injEq, (Nat.ne_of_lt hgG), false_and, not_false_eq_true]
          · rw [putAll_take HK.out]
            exact ⟨_, HO7.out.setL 15 g7 l (by decide) (by decide) hI (Nat.lt_of_lt_of_le hG6 (by simpa using hg7)) hg8⟩
          · exact (HB7.out.setCell hz3 _)
        case measure => simp [intOf]; omega
      | i11 l => as_aux_lemma =>
        have hk0 : 0 < k := Nat.pos_of_ne_zero fun h => by have := HF0.out h; cases this
        rw [show decide (0 < k) = true from decide_eq_true hk0]
        simp only [Part.name] at *
        have HC := Lib.hid fun W : World => strToInts_ok ⟨v.toArray⟩ l W (by rw [hsv]; exact HV.out.1) HV.out.2
        have hG6 := HO6.out.row.lt
        clear HV HG6
        go_wp2_with fail
        refine (HC.out _).mono ?_; rintro e w7 ⟨g7, rfl, hI, hg7, hg8, hb7⟩
        have hb7 : Below w6.heap.size w6 w7 := (pw_drewN (Below.refl _ w6) _).trans (hb7.mono (by simp))
        have hO7 := HO6.out.below hb7
        have HT7 := Lib.hid (HT6.out.below hb7 hz6)
        have HB7 := Lib.hid (HB6.out.trans (hb7.mono HB6.out.size))
        have hz7 := Nat.lt_of_lt_of_le hz6 hb7.size
        have HO7 := Lib.hid hO7
        have hk11 := hO7.row.cell (i := 11) (by decide)
        have hf11 := hO7.row.frozen 11
        clear HO6 HT6 HB6 hO7 hb7 HC hn0 hn1'
        go_wp2_with fail
        go_roundw
        case rel =>
          refine ⟨k + 1, by omega, by go_num, by simp, ?_, ?_, ?_, by simpa using hz7⟩
          · refine HT7.out.keep fun j => ?_
            simp only [World.cell?_setCell_other, ne_eq, Addr.mk.injEq, (Nat.ne_of_lt hgG), false_and, not_false_eq_true]
          · rw [putAll_take HK.out]
            exact ⟨_, HO7.out.setL 11 g7 l (by decide) (by decide) hI (Nat.lt_of_lt_of_le hG6 (by simpa using hg7)) hg8⟩
          · exact (HB7.out.setCell hz3 _)
        case measure => simp [intOf]; omega
      | i12 l => as_aux_lemma =>
        have hk0 : 0 < k := Nat.pos_of_ne_zero fun h => by have := HF0.out h; cases this
        rw [show decide (0 < k) = true from decide_eq_true hk0]
        simp only [Part.name] at *
        have HC := Lib.hid fun W : World => strToInts_ok ⟨v.toArray⟩ l W (by rw [hsv]; exact HV.out.1) HV.out.2
        have hG6 := HO6.out.row.lt
        clear HV HG6
        go_wp2_with fail
        refine (HC.out _).mono ?_; rintro e w7 ⟨g7, rfl, hI, hg7, hg8, hb7⟩
        have hb7 : Below w6.heap.size w6 w7 := (pw_drewN (Below.refl _ w6) _).trans (hb7.mono (by simp))
        have hO7 := HO6.out.below hb7
        have HT7 := Lib.hid (HT6.out.below hb7 hz6)
        have HB7 := Lib.hid (HB6.out.trans (hb7.mono HB6.out.size))
        have hz7 := Nat.lt_of_lt_of_le hz6 hb7.size
        have HO7 := Lib.hid hO7
        have hk12 := hO7.row.cell (i := 12) (by decide)
        have hf12 := hO7.row.frozen 12
        clear HO6 HT6 HB6 hO7 hb7 HC hn0 hn1'
        go_wp2_with fail
        go_roundw
        case rel =>
          refine ⟨k + 1, by omega, by go_num, by simp, ?_, ?_, ?_, by simpa using hz7⟩
          · refine HT7.out.keep fun j => ?_
            simp only [World.cell?_setCell_other, ne_eq, Addr.mk.injEq, (Nat.ne_of_lt hgG), false_and, not_false_eq_true]
          · rw [putAll_take HK.out]
            exact ⟨_, HO7.out.setL 12 g7 l (by decide) (by decide) hI (Nat.lt_of_lt_of_le hG6 (by simpa using hg7)) hg8⟩
          · exact (HB7.out.setCell hz3 _)
        case measure => simp [intOf]; omega
      | i13 l => as_aux_lemma =>
        have hk0 : 0 < k := Nat.pos_of_ne_zero fun h => by have := HF0.out h; cases this
        rw [show decide (0 < k) = true from decide_eq_true hk0]
        simp only [Part.name] at *
        have HC := Lib.hid fun W : World => strToInts_ok ⟨v.toArray⟩ l W (by rw [hsv]; exact HV.out.1) HV.out.2
        have hG6 := HO6.out.row.lt
        clear HV HG6
        go_wp2_with fail
        refine (HC.out _).mono ?_; rintro e w7 ⟨g7, rfl, hI, hg7, hg8, hb7⟩
        have hb7 : Below w6.heap.size w6 w7 := (pw_drewN (Below.refl _ w6) _).trans (hb7.mono (by simp))
        have hO7 := HO6.out.below hb7
        have HT7 := Lib.hid (HT6.out.below hb7 hz6)
        have HB7 := Lib.hid (HB6.out.trans (hb7.mono HB6.out.size))
        have hz7 := Nat.lt_of_lt_of_le hz6 hb7.size
        have HO7 := Lib.hid hO7
        have hk13 := hO7.row.cell (i := 13) (by decide)
        have hf13 := hO7.row.frozen 13
        clear HO6 HT6 HB6 hO7 hb7 HC hn0 hn1'
        go_wp2_with fail
        go_roundw
        case rel =>
          refine ⟨k + 1, by omega, by go_num, by simp, ?_, ?_, ?_, by simpa using hz7⟩
          · refine HT7.out.keep fun j => ?_
            simp only [World.cell?_setCell_other, ne_eq, Addr.mk.injEq, (Nat.ne_of_lt hgG), false_and, not_false_eq_true]
          · rw [putAll_take HK.out]
            exact ⟨_, HO7.out.setL 13 g7 l (by decide) (by decide) hI (Nat.lt_of_lt_of_le hG6 (by simpa using hg7)) hg8⟩
          · exact (HB7.out.setCell hz3 _)
        case measure => simp [intOf]; omega
      | i10 l => as_aux_lemma =>
        have hk0 : 0 < k := Nat.pos_of_ne_zero fun h => by have := HF0.out h; cases this
        rw [show decide (0 < k) = true from decide_eq_true hk0]
        simp only [Part.name] at *
        have HC := Lib.hid fun W : World => strToInts_ok ⟨v.toArray⟩ l W (by rw [hsv]; exact HV.out.1) HV.out.2
        have hG6 := HO6.out.row.lt
        clear HV HG6
        go_wp2_with fail
        refine (HC.out _).mono ?_; rintro e w7 ⟨g7, rfl, hI, hg7, hg8, hb7⟩
        have hb7 : Below w6.heap.size w6 w7 := (pw_drewN (Below.refl _ w6) _).trans (hb7.mono (by simp))
        have hO7 := HO6.out.below hb7
        have HT7 := Lib.hid (HT6.out.below hb7 hz6)
        have HB7 := Lib.hid (HB6.out.trans (hb7.mono HB6.out.size))
        have hz7 := Nat.lt_of_lt_of_le hz6 hb7.size
        have HO7 := Lib.hid hO7
        have hk10 := hO7.row.cell (i := 10) (by decide)
        have hf10 := hO7.row.frozen 10
        clear HO6 HT6 HB6 hO7 hb7 HC hn0 hn1'
        go_wp2_with fail
        go_roundw
        case rel =>
          refine ⟨k + 1, by omega, by go_num, by simp, ?_, ?_, ?_, by simpa using hz7⟩
          · refine HT7.out.keep fun j => ?_
            simp only [World.cell?_setCell_other, ne_eq, Addr.mk.injEq, (Nat.ne_of_lt hgG), false_and, not_false_eq_true]
          · rw [putAll_take HK.out]
            exact ⟨_, HO7.out.setL 10 g7 l (by decide) (by decide) hI (Nat.lt_of_lt_of_le hG6 (by simpa using hg7)) hg8⟩
          · exact (HB7.out.setCell hz3 _)
        case measure => simp [intOf]; omega
      | i9 l => as_aux_lemma =>
        have hk0 : 0 < k := Nat.pos_of_ne_zero fun h => by have := HF0.out h; cases this
        rw [show decide (0 < k) = true from decide_eq_true hk0]
        simp only [Part.name] at *
        have HC := Lib.hid fun W : World => strToInts_ok ⟨v.toArray⟩ l W (by rw [hsv]; exact HV.out.1) HV.out.2
        have hG6 := HO6.out.row.lt
        clear HV HG6
        go_wp2_with fail
        refine (HC.out _).mono ?_; rintro e w7 ⟨g7, rfl, hI, hg7, hg8, hb7⟩
        have hb7 : Below w6.heap.size w6 w7 := (pw_drewN (Below.refl _ w6) _).trans (hb7.mono (by simp))
        have hO7 := HO6.out.below hb7
        have HT7 := Lib.hid (HT6.out.below hb7 hz6)
        have HB7 := Lib.hid (HB6.out.trans (hb7.mono HB6.out.size))
        have hz7 := Nat.lt_of_lt_of_le hz6 hb7.size
        have HO7 := Lib.hid hO7
        have hk9 := hO7.row.cell (i := 9) (by decide)
        have hf9 := hO7.row.frozen 9
        clear HO6 HT6 HB6 hO7 hb7 HC hn0 hn1'
        go_wp2_with fail
        go_roundw
        case rel =>
          refine ⟨k + 1, by omega, by go_num, by simp, ?_, ?_, ?_, by simpa using hz7⟩
          · refine HT7.out.keep fun j => ?_
            simp only [World.cell?_setCell_other, ne_eq, Addr.mk.injEq, (Nat.ne_of_lt hgG), false_and, not_false_eq_true]
          · rw [putAll_take HK.out]
            exact ⟨_, HO7.out.setL 9 g7 l (by decide) (by decide) hI (Nat.lt_of_lt_of_le hG6 (by simpa using hg7)) hg8⟩
          · exact (HB7.out.setCell hz3 _)
        case measure => simp [intOf]; omega
      | i18 l => as_aux_lemma =>
        have hk0 : 0 < k := Nat.pos_of_ne_zero fun h => by have := HF0.out h; cases this
        rw [show decide (0 < k) = true from decide_eq_true hk0]
        simp only [Part.name] at *
        have HC := Lib.hid fun W : World => strToInts_ok ⟨v.toArray⟩ l W (by rw [hsv]; exact HV.out.1) HV.out.2
        have hG6 := HO6.out.row.lt
        clear HV HG6
        go_wp2_with fail
        refine (HC.out _).mono ?_; rintro e w7 ⟨g7, rfl, hI, hg7, hg8, hb7⟩
        have hb7 : Below w6.heap.size w6 w7 := (pw_drewN (Below.refl _ w6) _).trans (hb7.mono (by simp))
        have hO7 := HO6.out.below hb7
        have HT7 := Lib.hid (HT6.out.below hb7 hz6)
        have HB7 := Lib.hid (HB6.out.trans (hb7.mono HB6.out.size))
        have hz7 := Nat.lt_of_lt_of_le hz6 hb7.size
        have HO7 := Lib.hid hO7
        have hk18 := hO7.row.cell (i := 18) (by decide)
        have hf18 := hO7.row.frozen 18
        clear HO6 HT6 HB6 hO7 hb7 HC hn0 hn1'
        go_wp2_with fail
        go_roundw
        case rel =>
          refine ⟨k + 1, by omega, by go_num, by simp, ?_, ?_, ?_, by simpa using hz7⟩
          · refine HT7.out.keep fun j => ?_
            simp only [World.cell?_setCell_other, ne_eq, Addr.mk.injEq, (Nat.ne_of_lt hgG), false_and, not_false_eq_true]
          · rw [putAll_take HK.out]
            exact ⟨_, HO7.out.setL 18 g7 l (by decide) (by decide) hI (Nat.lt_of_lt_of_le hG6 (by simpa using hg7)) hg8⟩
          · exact (HB7.out.setCell hz3 _)
        case measure => simp [intOf]; omega
    · have hkn' : k = n := by omega
      subst hkn'
      have hd : decide (0 < k) = true := decide_eq_true (by omega)
      rw [hd]
      clear hkn hd
      go_wp2_with fail
      go_ret2
      have hkl := Hal.out
      refine ⟨G, sl, rfl, ?_, hz3, HB.out⟩
      have := HO.out
      rwa [hkl, List.take_length] at this
end Go.Proofs.YtnlpjncljbaapaaGreatDoor
