/- impl.ParseOption on a rule's text; impl.textAwake, walked. -/
import Derived.Test.YtnlpjncljbaapaaGreatDoorRu
import Derived.Test.YtnlpjncljbaapaaGreatDoorLd
namespace Go.Proofs.YtnlpjncljbaapaaGreatDoor
open Go.RowKit

theorem opt_rule {fr : Nat} {hu : Bool} {un ct iv : Int} {l : Nat → List Int} {dl : List (Int × Int)} {wk : Int} (h : SmallR fr hu un ct iv l dl wk) (W : World) (hW : Glob W) :
    Calls Tryz.prog 93 #[.string ⟨(ruleTx fr hu un ct iv l dl wk).toArray⟩, .agg #[]] W fun e w' => GivesOpt (optOf fr hu un ct iv l dl wk) W e w' := by
  have ht := ruleTx_ok h
  have hs := says_parts h
  rw [← putAll_parts]
  exact opt_ok (partsP fr hu un ct iv l dl wk) (partsL fr hu un ct iv l dl wk) _ W hW (clean_vis ht.vis) (by have := ht.len; omega) ht.nl ht.pre ht.split hs.1 (fun i a p h1 h2 => (hs.2 i a p h1 h2).says) fr rfl
set_option maxRecDepth 100000 in
set_option maxHeartbeats 4000000 in
theorem option53_ok (s : ByteArray) (o : Opt) (w : World) (h : ∀ W, Below w.heap.size w W → Calls Tryz.prog 93 #[.string s, .agg #[]] W fun e w' => GivesOpt o W e w') :
    Calls Tryz.prog 53 #[.string s] w fun e w' => GivesOpt o w e w' := by
  have HH := Lib.hid h
  clear h
  go_enter Tryz.func53, Tryz.ntmps53
  go_wp2_with fail
  refine (utc_any _).mono ?_; rintro e w1 ⟨rfl, hb1⟩
  go_wp2_with fail
  refine (HH.out _ hb1).mono ?_; rintro e w2 ⟨G, sl, rfl, hO, hG, hb⟩
  have HO := Lib.hid hO
  clear hO
  go_wp2_with fail
  go_ret2
  exact ⟨G, sl, rfl, HO.out, Nat.le_trans hb1.size hG, hb1.trans (hb.mono hb1.size)⟩
/-- A rule that ParseOption hands over. -/
def GivesRule1 (o : Opt) (w : World) (e : Ending) (w' : World) : Prop :=
  ∃ sl v B, e = .returned (.tuple #[.agg (rowA 18 (ruleF o 0 sl v)), .bool true]) ∧ w.heap.size ≤ B ∧ w'.ownsRow B 69 2 v o.days.length (dayVs o.days) ∧ Below w.heap.size w w'
set_option maxRecDepth 100000 in
set_option maxHeartbeats 4000000 in
theorem parseOption_ok (s : ByteArray) (o : Opt) (w : World) (hf : 0 ≤ o.freq ∧ o.freq ≤ 6) (hdl : o.days.length ≤ 1000) (h : ∀ W, Below w.heap.size w W → Calls Tryz.prog 93 #[.string s, .agg #[]] W fun e w' => GivesOpt o W e w') :
    Calls Tryz.prog 32 #[.string s] w fun e w' => GivesRule1 o w e w' := by
  have hB := below_a1 (w := w) (o := .cells zRule 36)
  have hR := zRule_at w
  have H33 := Lib.hid fun (W : World) (hW : Below w.heap.size w W) => option53_ok s o W fun W2 h2 => h W2 (hW.trans (h2.mono hW.size))
  obtain ⟨d, hd⟩ := u36
  have HU := Lib.hid hd
  clear h hd
  go_enter Tryz.func32, Tryz.ntmps32
  unfold zRule at *
  go_upto_region 1 with fail
  generalize hw1 : w.alloc (.cells #[_, _, _, _, _, _, _, _, _, _, _, _, _, _, _, _, _, _] 36) = w1 at *
  have HB := Lib.hid hB
  have HR := Lib.hid hR
  clear hw1 hB hR
  go_wp2_with fail
  refine (H33.out _ HB.out).mono ?_; rintro e w2 ⟨G, sl, rfl, hO, hGz, hb⟩
  have HB2 := Lib.hid (HB.out.trans (hb.mono HB.out.size))
  have HR2 := Lib.hid (below_row HR.out hb HR.out.lt)
  have HRU := Lib.hid (rule_any o 0 sl G w2 (fun k hk => by rw [hO.row.cell hk, hO.cells k]) hf (holdsD_row hO.day).1 hdl)
  clear hb hO hGz
  go_wp2_with fail
  refine HRU.out.mono ?_; rintro e w3 ⟨v, B, rfl, hBz, hown, hb3⟩
  have HB3 := Lib.hid (HB2.out.trans (hb3.mono HB2.out.size))
  have HR3 := Lib.hid (below_row HR2.out hb3 HR2.out.lt)
  have HO3 := Lib.hid hown
  have hR2l : w.heap.size < w2.heap.size := HR2.out.lt
  obtain ⟨q5, c5, rfl, _⟩ := own_slice hown
  clear hb3 hown
  go_wp2_with ((with_reducible refine gd_store 36 ?_); refine wpl_store_row rfl 36 _ _ rfl w.heap.size 0 36 18 _ (rowA 18 (ruleF o 0 sl (.slice q5 o.days.length c5))) rfl rfl HR3.out (by simp [rowA_size]) (by rw [info36s, rowA_size]) (rowA_all fun i hi => ruleF_one _ _ _ _ rfl i) ?_; intro w4 hR4 hg4)
  refine bodyPost_ret (results_row2 rfl _ w.heap.size 36 18 _ (by rfl) hR4 d HU.out.1 HU.out.2 info36s) rfl ?_
  rw [updR_all]
  exact ⟨sl, _, B, rfl, by have := HB2.out.size; omega, own_grown HO3.out hg4 (by omega), HB3.out.grown hg4 HB3.out.size (fun k hk => by cases hk; exact Nat.le_refl _)⟩
def awakeL : List UInt8 := ruleTx 2 false 0 3 0 (fun _ => []) [(0, 0), (4, 0)] 0
theorem awake_bytes : awakeL = [70, 82, 69, 81, 61, 87, 69, 69, 75, 76, 89, 59, 67, 79, 85, 78, 84, 61, 51, 59, 66, 89, 68, 65, 89, 61, 77, 79, 44, 70, 82] := by decide +kernel
theorem awake_small : SmallR 2 false 0 3 0 (fun _ => []) [(0, 0), (4, 0)] 0 where
  fr := by omega
  un := fun e => by cases e
  ct := by omega
  iv := by omega
  l := fun k _ => ⟨by simp, fun x hx => by simp at hx⟩
  dl := ⟨by simp, fun d hd => by simp at hd; rcases hd with rfl | rfl <;> simp⟩
  wk := by omega
theorem awake_parse (w : World) (hG : Glob w) : Calls Tryz.prog 32 #[.string ⟨#[70, 82, 69, 81, 61, 87, 69, 69, 75, 76, 89, 59, 67, 79, 85, 78, 84, 61, 51, 59, 66, 89, 68, 65, 89, 61, 77, 79, 44, 70, 82]⟩] w fun e w' => GivesRule1 (optOf 2 false 0 3 0 (fun _ => []) [(0, 0), (4, 0)] 0) w e w' := by
  have := parseOption_ok ⟨awakeL.toArray⟩ (optOf 2 false 0 3 0 (fun _ => []) [(0, 0), (4, 0)] 0) w (by simp [optOf]) (by simp [optOf]) fun W hW => opt_rule awake_small W (hG.on hW)
  rw [awake_bytes] at this
  exact this
set_option maxRecDepth 100000 in
set_option maxHeartbeats 8000000 in
theorem awake_any (w : World) (hG : Glob w) : Calls Tryz.prog 11 #[] w fun e w' => e = .returned (.bool true) ∧ Below w.heap.size w w' := by
  have HP := Lib.hid (awake_parse w hG)
  have HN := Lib.hid fun (W : World) (hW : Below w.heap.size w W) => never_any W (hG.on hW)
  clear hG
  go_enter Tryz.func11, Tryz.ntmps11
  go_wp2_with fail
  refine HP.out.mono ?_; rintro e w1 ⟨sl, v, B, rfl, hBz, hown, hb1⟩
  rw [show (optOf 2 false 0 3 0 (fun _ => []) [(0, 0), (4, 0)] 0).days.length = 2 from rfl] at hown
  obtain ⟨q5, c5, rfl, hq5⟩ := own_slice hown
  obtain ⟨g, rfl, hgB, hgl⟩ : ∃ g, q5 = some ⟨g, 0, none⟩ ∧ B ≤ g ∧ g < w1.heap.size := by
    rcases hq5 with h | h
    · omega
    · exact h
  have d4 : w1.cell? ⟨g, 2, none⟩ = some (.int .i64 4) := by
    have := hown.cells (g := g) rfl 2 (.int .i64 4) rfl
    rwa [add_plain] at this
  obtain ⟨F, hF⟩ : ∃ F, F = ruleF (optOf 2 false 0 3 0 (fun _ => []) [(0, 0), (4, 0)] 0) 0 sl (.slice (some ⟨g, 0, none⟩) 2 c5) := ⟨_, rfl⟩
  have h1F : ∀ i, i < 18 → (F i).oneCell' = true := fun i _ => by rw [hF]; exact ruleF_one _ _ _ _ rfl i
  have f0 : F 0 = .int .u8 2 := by rw [hF]; rfl
  have f5 : F 5 = .int .i64 3 := by rw [hF]; rfl
  have f13 : F 13 = .slice (some ⟨g, 0, none⟩) 2 c5 := by rw [hF]; rfl
  rw [← hF]
  have HB1 := Lib.hid hb1
  have HF1 := Lib.hid h1F
  clear hown hb1 hF h1F hq5 HP
  have hr2 : (w1.alloc (.cells (rowA 18 F) 36)).rowIs w1.heap.size 36 18 F := by
    have := World.rowIs_alloc w1 (rowA 18 F) 36 F (fun i hi => rowA_get (by rwa [rowA_size] at hi))
    rwa [rowA_size] at this
  have HB2 := Lib.hid (HB1.out.alloc HB1.out.size (.cells (rowA 18 F) 36))
  have d42 := (World.cell?_alloc_lt w1 (.cells (rowA 18 F) 36) ⟨g, 2, none⟩ hgl).trans d4
  have hz2 : (w1.alloc (.cells (rowA 18 F) 36)).heap.size = w1.heap.size + 1 := by simp
  go_wp2_with ((with_reducible refine gd_store 36 ?_); refine wpl_store_last rfl 36 _ _ rfl _ (rowA 18 F) rfl rfl (by rw [info36s, rowA_size]) (by rw [rowA_size]; rfl) (rowA_all HF1.out) ?_)
  generalize w1.alloc (.cells (rowA 18 F) 36) = w2 at *
  refine (HN.out _ HB2.out).mono ?_; rintro e w3 ⟨rfl, hb3⟩
  have r3 := below_row hr2 hb3 hr2.lt
  have d43 := (hb3.cell (p := ⟨g, 2, none⟩) (by show g < w2.heap.size; omega)).trans d42
  have x0 := (r3.cell (i := 0) (by omega)).trans (congrArg some f0)
  have x5 := (r3.cell (i := 5) (by omega)).trans (congrArg some f5)
  have x13 := (r3.cell (i := 13) (by omega)).trans (congrArg some f13)
  have HB3 := Lib.hid (HB2.out.trans (hb3.mono HB2.out.size))
  have hz3 : w1.heap.size + 1 ≤ w3.heap.size := by have := hb3.size; omega
  have hz4 : w1.heap.size < w3.heap.size := by omega
  have hz5 : g < w3.heap.size := by omega
  clear hr2 d4 d42 f0 f5 f13 r3 hb3 HN HB1 HF1
  go_wp2_with ((with_reducible refine gd_store 36 ?_); refine wpl_store_last rfl 36 _ _ rfl _ zRule rfl rfl (by rw [info36s]; rfl) rfl zRule_one ?_)
  go_ret
  exact ⟨rfl, HB3.out.alloc HB3.out.size _⟩
end Go.Proofs.YtnlpjncljbaapaaGreatDoor
