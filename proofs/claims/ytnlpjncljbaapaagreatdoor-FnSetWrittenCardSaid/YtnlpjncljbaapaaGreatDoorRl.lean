/- A rule's text with its parts in any order; a set's lines with an order; textWhole, StrToRRuleSet, ParseSet. -/
import Derived.Test.YtnlpjncljbaapaaGreatDoorRu
import Derived.Test.YtnlpjncljbaapaaGreatDoorLd
import Derived.Test.YtnlpjncljbaapaaGreatDoorSs
import Derived.Test.YtnlpjncljbaapaaGreatDoorWo
import Derived.Test.YtnlpjncljbaapaaGreatDoorAg
import Derived.Test.YtnlpjncljbaapaaGreatDoorTsx
import Derived.Sort.Row
namespace Go.Proofs.YtnlpjncljbaapaaGreatDoor
open Go.RowKit

theorem opt_rule {fr : Nat} {hu : Bool} {un ct iv : Int} {l : Nat → List Int} {dl : List (Int × Int)} {wk : Int} (h : SmallR fr hu un ct iv l dl wk) (W : World) (hW : Glob W) :
    Calls Tryz.prog 93 #[.string ⟨(ruleTx fr hu un ct iv l dl wk).toArray⟩, .agg #[]] W fun e w' => GivesOpt (optOf fr hu un ct iv l dl wk) W e w' := by
  have ht := ruleTx_ok h
  have hs := says_parts h
  rw [← putAll_parts]
  exact opt_ok (partsP fr hu un ct iv l dl wk) (partsL fr hu un ct iv l dl wk) _ W hW (clean_vis ht.vis) (by have := ht.len; omega) ht.nl ht.pre ht.split hs.1 (fun i a p h1 h2 => (hs.2 i a p h1 h2).says) fr rfl
set_option maxRecDepth 100000 in
set_option maxHeartbeats 4000000 in
theorem option53_ok (s : ByteArray) (o : Opt) (w : World) (h : ∀ W, Below w.heap.size w W → Calls Tryz.prog 93 #[.string s, .agg #[]] W fun e w' => GivesOpt o W e w') :
    Calls Tryz.prog 53 #[.string s] w fun e w' => GivesOpt o w e w' := by
  have HH := Lib.hid h
  clear h
  go_enter Tryz.func53, Tryz.ntmps53
  go_wp2_with fail
  refine (utc_any _).mono ?_; rintro e w1 ⟨rfl, hb1⟩
  go_wp2_with fail
  refine (HH.out _ hb1).mono ?_; rintro e w2 ⟨G, sl, rfl, hO, hG, hb⟩
  have HO := Lib.hid hO
  clear hO
  go_wp2_with fail
  go_ret2
  exact ⟨G, sl, rfl, HO.out, Nat.le_trans hb1.size hG, hb1.trans (hb.mono hb1.size)⟩
/-- A rule that ParseOption hands over. -/
def GivesRule1 (o : Opt) (w : World) (e : Ending) (w' : World) : Prop :=
  ∃ sl v B, e = .returned (.tuple #[.agg (rowA 18 (ruleF o 0 sl v)), .bool true]) ∧ w.heap.size ≤ B ∧ w'.ownsRow B 69 2 v o.days.length (dayVs o.days) ∧ Below w.heap.size w w'
set_option maxRecDepth 100000 in
set_option maxHeartbeats 4000000 in
theorem parseOption_ok (s : ByteArray) (o : Opt) (w : World) (hf : 0 ≤ o.freq ∧ o.freq ≤ 6) (hdl : o.days.length ≤ 1000) (h : ∀ W, Below w.heap.size w W → Calls Tryz.prog 93 #[.string s, .agg #[]] W fun e w' => GivesOpt o W e w') :
    Calls Tryz.prog 32 #[.string s] w fun e w' => GivesRule1 o w e w' := by
  have hB := below_a1 (w := w) (o := .cells zRule 36)
  have hR := zRule_at w
  have H33 := Lib.hid fun (W : World) (hW : Below w.heap.size w W) => option53_ok s o W fun W2 h2 => h W2 (hW.trans (h2.mono hW.size))
  obtain ⟨d, hd⟩ := u36
  have HU := Lib.hid hd
  clear h hd
  go_enter Tryz.func32, Tryz.ntmps32
  unfold zRule at *
  go_upto_region 1 with fail
  generalize hw1 : w.alloc (.cells #[_, _, _, _, _, _, _, _, _, _, _, _, _, _, _, _, _, _] 36) = w1 at *
  have HB := Lib.hid hB
  have HR := Lib.hid hR
  clear hw1 hB hR
  go_wp2_with fail
  refine (H33.out _ HB.out).mono ?_; rintro e w2 ⟨G, sl, rfl, hO, hGz, hb⟩
  have HB2 := Lib.hid (HB.out.trans (hb.mono HB.out.size))
  have HR2 := Lib.hid (below_row HR.out hb HR.out.lt)
  have HRU := Lib.hid (rule_any o 0 sl G w2 (fun k hk => by rw [hO.row.cell hk, hO.cells k]) hf (holdsD_row hO.day).1 hdl)
  clear hb hO hGz
  go_wp2_with fail
  refine HRU.out.mono ?_; rintro e w3 ⟨v, B, rfl, hBz, hown, hb3⟩
  have HB3 := Lib.hid (HB2.out.trans (hb3.mono HB2.out.size))
  have HR3 := Lib.hid (below_row HR2.out hb3 HR2.out.lt)
  have HO3 := Lib.hid hown
  have hR2l : w.heap.size < w2.heap.size := HR2.out.lt
  obtain ⟨q5, c5, rfl, _⟩ := own_slice hown
  clear hb3 hown
  go_wp2_with ((with_reducible refine gd_store 36 ?_); refine wpl_store_row rfl 36 _ _ rfl w.heap.size 0 36 18 _ (rowA 18 (ruleF o 0 sl (.slice q5 o.days.length c5))) rfl rfl HR3.out (by simp [rowA_size]) (by rw [info36s, rowA_size]) (rowA_all fun i hi => ruleF_one _ _ _ _ rfl i) ?_; intro w4 hR4 hg4)
  refine bodyPost_ret (results_row2 rfl _ w.heap.size 36 18 _ (by rfl) hR4 d HU.out.1 HU.out.2 info36s) rfl ?_
  rw [updR_all]
  exact ⟨sl, _, B, rfl, by have := HB2.out.size; omega, own_grown HO3.out hg4 (by omega), HB3.out.grown hg4 HB3.out.size (fun k hk => by cases hk; exact Nat.le_refl _)⟩
def awakeL : List UInt8 := ruleTx 2 false 0 3 0 (fun _ => []) [(0, 0), (4, 0)] 0
theorem awake_bytes : awakeL = [70, 82, 69, 81, 61, 87, 69, 69, 75, 76, 89, 59, 67, 79, 85, 78, 84, 61, 51, 59, 66, 89, 68, 65, 89, 61, 77, 79, 44, 70, 82] := by decide +kernel
theorem awake_small : SmallR 2 false 0 3 0 (fun _ => []) [(0, 0), (4, 0)] 0 where
  fr := by omega
  un := fun e => by cases e
  ct := by omega
  iv := by omega
  l := fun k _ => ⟨by simp, fun x hx => by simp at hx⟩
  dl := ⟨by simp, fun d hd => by simp at hd; rcases hd with rfl | rfl <;> simp⟩
  wk := by omega
theorem awake_parse (w : World) (hG : Glob w) : Calls Tryz.prog 32 #[.string ⟨#[70, 82, 69, 81, 61, 87, 69, 69, 75, 76, 89, 59, 67, 79, 85, 78, 84, 61, 51, 59, 66, 89, 68, 65, 89, 61, 77, 79, 44, 70, 82]⟩] w fun e w' => GivesRule1 (optOf 2 false 0 3 0 (fun _ => []) [(0, 0), (4, 0)] 0) w e w' := by
  have := parseOption_ok ⟨awakeL.toArray⟩ (optOf 2 false 0 3 0 (fun _ => []) [(0, 0), (4, 0)] 0) w (by simp [optOf]) (by simp [optOf]) fun W hW => opt_rule awake_small W (hG.on hW)
  rw [awake_bytes] at this
  exact this
set_option maxRecDepth 100000 in
set_option maxHeartbeats 8000000 in
theorem awake_any (w : World) (hG : Glob w) : Calls Tryz.prog 11 #[] w fun e w' => e = .returned (.bool true) ∧ Below w.heap.size w w' := by
  have HP := Lib.hid (awake_parse w hG)
  have HN := Lib.hid fun (W : World) (hW : Below w.heap.size w W) => never_any W (hG.on hW)
  clear hG
  go_enter Tryz.func11, Tryz.ntmps11
  go_wp2_with fail
  refine HP.out.mono ?_; rintro e w1 ⟨sl, v, B, rfl, hBz, hown, hb1⟩
  rw [show (optOf 2 false 0 3 0 (fun _ => []) [(0, 0), (4, 0)] 0).days.length = 2 from rfl] at hown
  obtain ⟨q5, c5, rfl, hq5⟩ := own_slice hown
  obtain ⟨g, rfl, hgB, hgl⟩ : ∃ g, q5 = some ⟨g, 0, none⟩ ∧ B ≤ g ∧ g < w1.heap.size := by
    rcases hq5 with h | h
    · omega
    · exact h
  have d4 : w1.cell? ⟨g, 2, none⟩ = some (.int .i64 4) := by
    have := hown.cells (g := g) rfl 2 (.int .i64 4) rfl
    rwa [add_plain] at this
  obtain ⟨F, hF⟩ : ∃ F, F = ruleF (optOf 2 false 0 3 0 (fun _ => []) [(0, 0), (4, 0)] 0) 0 sl (.slice (some ⟨g, 0, none⟩) 2 c5) := ⟨_, rfl⟩
  have h1F : ∀ i, i < 18 → (F i).oneCell' = true := fun i _ => by rw [hF]; exact ruleF_one _ _ _ _ rfl i
  have f0 : F 0 = .int .u8 2 := by rw [hF]; rfl
  have f5 : F 5 = .int .i64 3 := by rw [hF]; rfl
  have f13 : F 13 = .slice (some ⟨g, 0, none⟩) 2 c5 := by rw [hF]; rfl
  rw [← hF]
  have HB1 := Lib.hid hb1
  have HF1 := Lib.hid h1F
  clear hown hb1 hF h1F hq5 HP
  have hr2 : (w1.alloc (.cells (rowA 18 F) 36)).rowIs w1.heap.size 36 18 F := by
    have := World.rowIs_alloc w1 (rowA 18 F) 36 F (fun i hi => rowA_get (by rwa [rowA_size] at hi))
    rwa [rowA_size] at this
  have HB2 := Lib.hid (HB1.out.alloc HB1.out.size (.cells (rowA 18 F) 36))
  have d42 := (World.cell?_alloc_lt w1 (.cells (rowA 18 F) 36) ⟨g, 2, none⟩ hgl).trans d4
  have hz2 : (w1.alloc (.cells (rowA 18 F) 36)).heap.size = w1.heap.size + 1 := by simp
  go_wp2_with ((with_reducible refine gd_store 36 ?_); refine wpl_store_last rfl 36 _ _ rfl _ (rowA 18 F) rfl rfl (by rw [info36s, rowA_size]) (by rw [rowA_size]; rfl) (rowA_all HF1.out) ?_)
  generalize w1.alloc (.cells (rowA 18 F) 36) = w2 at *
  refine (HN.out _ HB2.out).mono ?_; rintro e w3 ⟨rfl, hb3⟩
  have r3 := below_row hr2 hb3 hr2.lt
  have d43 := (hb3.cell (p := ⟨g, 2, none⟩) (by show g < w2.heap.size; omega)).trans d42
  have x0 := (r3.cell (i := 0) (by omega)).trans (congrArg some f0)
  have x5 := (r3.cell (i := 5) (by omega)).trans (congrArg some f5)
  have x13 := (r3.cell (i := 13) (by omega)).trans (congrArg some f13)
  have HB3 := Lib.hid (HB2.out.trans (hb3.mono HB2.out.size))
  have hz3 : w1.heap.size + 1 ≤ w3.heap.size := by have := hb3.size; omega
  have hz4 : w1.heap.size < w3.heap.size := by omega
  have hz5 : g < w3.heap.size := by omega
  clear hr2 d4 d42 f0 f5 f13 r3 hb3 HN HB1 HF1
  go_wp2_with ((with_reducible refine gd_store 36 ?_); refine wpl_store_last rfl 36 _ _ rfl _ zRule rfl rfl (by rw [info36s]; rfl) rfl zRule_one ?_)
  go_ret
  exact ⟨rfl, HB3.out.alloc HB3.out.size _⟩
end Go.Proofs.YtnlpjncljbaapaaGreatDoor

namespace Go.Proofs.YtnlpjncljbaapaaGreatDoor
open Go.RowKit

theorem OptRows.grown {w w' : World} {o : Opt} {sl : Nat → Value} {X : Nat} (h : OptRows w o sl) (hs : SlOff sl X) (hg : w.grownBy w' (some X)) : OptRows w' o sl :=
  h.ch (S := X) hs ⟨hg.os, hg.tape, hg.output, hg.size, fun i hi hx => hg.block i hi fun e => hx (by cases e; rfl)⟩
theorem RuleTold.grown {w w' : World} {S B B' X : Nat} {t : Int} {b : Bool} {f : Nat → Value} {r : Option Opt} (h : RuleTold w S B t b f r) (hB : B' ≤ B) (hX : X ≤ S) (hXB : X < B) (hg : w.grownBy w' (some X)) : RuleTold w' S B' t b f r := by
  cases r with
  | none => exact h
  | some o =>
    obtain ⟨h1, sl, v, h2, h3, h4, h5⟩ := h
    exact ⟨h1, sl, v, h2, h3.grown (h4 X hX) hg, h4, Joins.ownsRow_le (own_grown h5 hg hXB) hB⟩
theorem RuleTold.one {w : World} {S B : Nat} {t : Int} {b : Bool} {f : Nat → Value} {r : Option Opt} (h : RuleTold w S B t b f r) (j : Nat) (hj : j < 18) : (f j).oneCell' = true := by
  cases r with
  | none =>
    obtain ⟨_, rfl⟩ := h
    exact zRuleF_one j hj
  | some o =>
    obtain ⟨_, sl, v, rfl, _, _, h5⟩ := h
    obtain ⟨q, c, rfl, -⟩ := own_slice h5
    exact ruleF_one _ _ _ _ rfl j
end Go.Proofs.YtnlpjncljbaapaaGreatDoor

namespace Go.Proofs.YtnlpjncljbaapaaGreatDoor
open Go.RowKit

theorem RuleTold.below {w w' : World} {S B : Nat} {t : Int} {b : Bool} {f : Nat → Value} {r : Option Opt} (h : RuleTold w S B t b f r) (hb : Below w.heap.size w w') : RuleTold w' S B t b f r := by
  cases r with
  | none => exact h
  | some o =>
    obtain ⟨h1, sl, v, h2, h3, h4, h5⟩ := h
    exact ⟨h1, sl, v, h2, h3.below hb, h4, own_below h5 hb⟩
/-- One of two. -/
def pk {α : Type} (a b : α) (k : Nat) : α := if k = 0 then a else b
section
variable {t : Int} {hr : Bool} {fr : Nat} {hs : Bool} {st iv wk ct : Int} {hu : Bool} {un : Int} {p : Nat → Option Addr} {n c : Nat → Nat} {pr : Option Addr} {nr cr : Nat} {px : Option Addr} {nx cx : Nat} {l : Nat → List Int} {dl : List (Int × Int)} {rds exs : List Int} {f : Nat → Value}
theorem says_cells (h : TextSays t hr fr hs st iv wk ct hu un p n c pr nr cr px nx cx l dl rds exs f) : f 20 = .slice pr nr cr ∧ f 21 = .slice px nx cx := by
  cases hr with
  | false => exact ⟨h.2.2.2.2.2 rfl 20 (by omega), h.2.2.2.2.2 rfl 21 (by omega)⟩
  | true => exact ⟨(h.2.2.2.2.1 rfl).2.2 20 (by omega), (h.2.2.2.2.1 rfl).2.2 21 (by omega)⟩
end
end Go.Proofs.YtnlpjncljbaapaaGreatDoor

namespace Go.Proofs.YtnlpjncljbaapaaGreatDoor
open Go.RowKit Go.Sort

/-- Bytes in a row that came in. -/
def RowB (w : World) (p : Option Addr) (n : Nat) (l : List Int) : Prop := n = l.length ∧ ∀ (i : Nat) x, l[i]? = some x → (0 ≤ x ∧ x ≤ 255) ∧ ∃ g o, p = some ⟨g, o, none⟩ ∧ g < w.heap.size ∧ w.cell? ⟨g, o + i, none⟩ = some (.int .u8 x)
def swapL {α : Type} [Inhabited α] (aa : List α) (i j : Nat) : List α := (aa.set i (aa.getD j default)).set j (aa.getD i default)
/-- One turn of a text's parts: the k-th part comes to the end. -/
def turn {α : Type} [Inhabited α] (k : Nat) (aa : List α) : List α := (swapL aa 1 k).take 1 ++ (swapL aa 1 k).drop 2 ++ [(swapL aa 1 k).getD 1 default]
theorem own_put {w : World} {base g n c i : Nat} {e : TypeId} {xs : List Value} {y : Value} (h : w.ownsRow base e 1 (.slice (some ⟨g, 0, none⟩) n c) n xs) (_hi : i < n) : (w.setCell ⟨g, i, none⟩ y).ownsRow base e 1 (.slice (some ⟨g, 0, none⟩) n c) n (xs.set i y) := by
  refine ⟨by rw [List.length_set]; exact h.1, ?_⟩
  rcases h.2 with ⟨hv, _⟩ | ⟨g', cap, cur, hv, hb, hh, hnc, hcm, hcs, ht⟩
  · cases hv
  · cases hv
    refine .inr ⟨g, c, cur.setIfInBounds i y, rfl, hb, ?_, hnc, hcm, by simpa using hcs, ?_⟩
    · rw [setCell_eq]
      simp [mapBlock, Array.getElem?_modify, hh, onCells]
    · rw [Array.toList_setIfInBounds, List.take_set, ht]
theorem own_frozen {w : World} {base g n c : Nat} {e : TypeId} {size : Nat} {xs : List Value} (h : w.ownsRow base e size (.slice (some ⟨g, 0, none⟩) n c) n xs) (i : Nat) : w.frozen? ⟨g, i, none⟩ = false := by
  rcases h.2 with ⟨hv, _⟩ | ⟨g', cap, cur, hv, hb, hh, _⟩
  · cases hv
  · cases hv
    simp [World.frozen?, hh]
end Go.Proofs.YtnlpjncljbaapaaGreatDoor

namespace Go.Proofs.YtnlpjncljbaapaaGreatDoor
open Go.RowKit

/-- Which part it is. -/
def Part.key : Part → Nat
  | .freq _ => 10
  | .till _ => 11
  | .count _ => 12
  | .interval _ => 13
  | .wkst _ => 14
  | .days _ => 15
  | .i17 _ => 0
  | .i16 _ => 1
  | .i15 _ => 2
  | .i11 _ => 3
  | .i12 _ => 4
  | .i13 _ => 5
  | .i10 _ => 6
  | .i9 _ => 7
  | .i18 _ => 8
instance : Inhabited Part := ⟨.freq 0⟩
theorem RowB.below {w w' : World} {p : Option Addr} {n : Nat} {l : List Int} (h : RowB w p n l) (hb : Below w.heap.size w w') : RowB w' p n l :=
  ⟨h.1, fun i x hx => by obtain ⟨hx2, g, o, e, hg, hc⟩ := h.2 i x hx; exact ⟨hx2, g, o, e, Nat.lt_of_lt_of_le hg hb.size, (hb.cell hg).trans hc⟩⟩
section
variable {t : Int} {hr : Bool} {fr : Nat} {hs : Bool} {st iv wk ct : Int} {hu : Bool} {un : Int} {p : Nat → Option Addr} {n c : Nat → Nat} {pr : Option Addr} {nr cr : Nat} {px : Option Addr} {nx cx : Nat} {l : Nat → List Int} {dl : List (Int × Int)} {rds exs : List Int} {f : Nat → Value}
end
/-- Lines with line feeds between them. -/
theorem bs_app10 (A B : List UInt8) : ((⟨A.toArray⟩ : ByteArray) ++ ⟨#[10]⟩ ++ ⟨B.toArray⟩) = ⟨(A ++ 10 :: B).toArray⟩ := by
  apply ByteArray.ext
  simp
set_option maxRecDepth 100000 in
set_option maxHeartbeats 4000000 in
theorem whole_any (g cap m : Nat) (ls : List (List UInt8)) (w : World) (hst : StrsAt w g ls) (hm : m = ls.length) (hx : ∀ x ∈ ls, x.length ≤ 20000) (hn : m ≤ 100) :
    Calls Tryz.prog 19 #[.slice (some ⟨g, 0, none⟩) m cap] w fun e w' => e = .returned (.string ⟨(joinC 10 ls).toArray⟩) ∧ w' = w := by
  have HST := Lib.hid hst
  have HM := Lib.hid hm
  have HX := Lib.hid hx
  clear hst hm hx
  go_enter Tryz.func19, Tryz.ntmps19
  go_wp2_with fail
  go_loop [3, 4, 5, 8] (fun u _ _ v => ∃ (k : Nat) (s : ByteArray), k ≤ m ∧ v = .int .i64 k ∧ u = .string s ∧ s.size ≤ 20001 * k ∧ Hid (s = ⟨(joinC 10 (ls.take k)).toArray⟩)) (fun _ _ _ v => m - (intOf v).toNat)
  case atStart => exact ⟨0, ⟨#[]⟩, Nat.zero_le _, rfl, rfl, by decide, Lib.hid rfl⟩
  case round =>
    obtain ⟨k, s, hk, rfl, rfl, hs, HS⟩ := hrel
    by_cases hkm : k < m
    · have hkl : k < ls.length := by have := HM.out; omega
      have hc := HST.out k _ (List.getElem?_eq_getElem hkl)
      have HK := Lib.hid (List.getElem?_eq_getElem hkl)
      have hzl : (⟨ls[k].toArray⟩ : ByteArray).size ≤ 20000 := by rw [Lib.size_eq]; exact HX.out _ (List.getElem_mem hkl)
      obtain ⟨z, hz⟩ : ∃ z : ByteArray, z = ⟨ls[k].toArray⟩ := ⟨_, rfl⟩
      rw [← hz] at hc hzl
      have HZ := Lib.hid hz
      generalize ls[k] = x at *
      clear hz
      by_cases hk0 : 0 < k
      · have hk0i : (0 : Int) < (k : Int) := by omega
        go_wp2_with fail
        go_round
        case rel =>
          refine ⟨k + 1, _, by omega, by go_num, rfl, ?_, Lib.hid ?_⟩
          · simp only [ByteArray.size_append]
            have : (⟨#[10]⟩ : ByteArray).size = 1 := rfl
            omega
          · rw [HS.out, HZ.out, bs_app10, joinC_take _ HK.out hk0]
        case measure => simp [intOf]; omega
      · have hk0' : k = 0 := by omega
        subst hk0'
        have hs0 : s = ⟨#[]⟩ := by rw [HS.out]; rfl
        subst hs0
        go_wp2_with fail
        go_round
        case rel =>
          refine ⟨1, _, by omega, by go_num, rfl, ?_, Lib.hid ?_⟩
          · simp only [ByteArray.size_append]
            have : (⟨#[]⟩ : ByteArray).size = 0 := rfl
            omega
          · rw [HZ.out, joinC_take0 _ HK.out]
            apply ByteArray.ext
            simp
        case measure => simp [intOf]; omega
    · have hkn' : k = m := by omega
      subst hkn'
      go_wp2_with fail
      go_ret
      refine ⟨?_, rfl⟩
      rw [HS.out, List.take_of_length_le (by have := HM.out; omega)]
      rfl
end Go.Proofs.YtnlpjncljbaapaaGreatDoor

/- laws.FnSetRead, walked. -/
namespace Go.Proofs.YtnlpjncljbaapaaGreatDoor
open Go.RowKit

end Go.Proofs.YtnlpjncljbaapaaGreatDoor
