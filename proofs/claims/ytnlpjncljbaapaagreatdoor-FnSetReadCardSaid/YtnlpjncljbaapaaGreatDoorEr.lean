/- StrToROptionInLocation on texts that are no rule. -/
import Derived.Test.YtnlpjncljbaapaaGreatDoorRp
namespace Go.Proofs.YtnlpjncljbaapaaGreatDoor
open Go.RowKit

/-- The function answers with an error. -/
def GivesErr (w : World) (e : Ending) (w' : World) : Prop := (∃ p, e = .returned (.tuple #[.pointer none, .iface 175 (.pointer (some p))])) ∧ Below w.heap.size w w'

def neverL : List UInt8 := [70, 82, 69, 81, 61, 78, 69, 86, 69, 82]
theorem never_split59 : splitL 59 (⟨neverL.toArray⟩ : ByteArray).data.toList = [neverL] := splitL_one (by decide)
theorem never_split61 : splitL 61 (⟨neverL.toArray⟩ : ByteArray).data.toList = [[70, 82, 69, 81], [78, 69, 86, 69, 82]] := by
  show splitL 61 ([70, 82, 69, 81] ++ 61 :: [78, 69, 86, 69, 82]) = _
  rw [splitL_app (by decide), splitL_one (by decide)]
theorem never_look : lookL ⟨#[78, 69, 86, 69, 82]⟩ freqKV = none := by decide
theorem never_clean : Clean neverL := ⟨by unfold ascii; decide, by decide, by decide⟩

def emptyL : List UInt8 := []
theorem empty_split59 : splitL 59 (⟨emptyL.toArray⟩ : ByteArray).data.toList = [emptyL] := splitL_one (by decide)
theorem empty_split61 : splitL 61 (⟨emptyL.toArray⟩ : ByteArray).data.toList = [emptyL] := splitL_one (by decide)
theorem empty_clean : Clean emptyL := ⟨by unfold ascii; decide, by decide, by decide⟩

set_option maxRecDepth 100000 in
set_option maxHeartbeats 8000000 in
theorem opt_never (w : World) (hG : Glob w) : Calls Tryz.prog 93 #[.string ⟨neverL.toArray⟩, .agg #[]] w fun e w' => GivesErr w e w' := by
  have HT := Lib.hid fun W (hG : Glob W) => trim_any neverL W hG never_clean (by decide)
  have S := fun W : World => zzSplit_any ⟨neverL.toArray⟩ 10 W (by rw [Lib.size_eq]; decide)
  rw [show splitL 10 (⟨neverL.toArray⟩ : ByteArray).data.toList = [neverL] from splitL_one (by decide)] at S
  have HS := Lib.hid S
  have HP := Lib.hid fun W : World => trimPrefix_any neverL W (by decide)
  have S2 := fun W : World => zzSplit_any ⟨neverL.toArray⟩ 59 W (by rw [Lib.size_eq]; decide)
  rw [never_split59] at S2
  have HS2 := Lib.hid S2
  have S3 := fun W : World => zzSplit_any ⟨neverL.toArray⟩ 61 W (by rw [Lib.size_eq]; decide)
  rw [never_split61] at S3
  have HS3 := Lib.hid S3
  have HC := Lib.hid fun W : World => strToFreq_no ⟨#[78, 69, 86, 69, 82]⟩ W (by decide) never_look
  have HGl := Lib.hid hG
  clear S S2 S3 hG
  generalize neverL = text at *
  go_enter Tryz.func93, Tryz.ntmps93
  go_wp2_with fail
  refine (HT.out _ (HGl.out.on (by exact below_a1))).mono ?_; rintro e w1 ⟨rfl, hb1⟩
  have hb2 : Below w.heap.size w w1 := below_a1.trans (hb1.mono (B' := w.heap.size) (by simp))
  have hz2 := hb2.size
  clear hb1
  go_wp2_with fail
  refine (HS.out _).mono ?_; rintro e w2 ⟨g, cap, rfl, hcap, hst, hg1, hg2, hb⟩
  have hc : w2.cell? ⟨g, 0, none⟩ = some (.string ⟨text.toArray⟩) := hst 0 _ rfl
  have hb3 : Below w.heap.size w w2 := hb2.trans (hb.mono (B' := w.heap.size) hz2)
  have hz3 := hb3.size
  have HB := Lib.hid hb3
  clear hst hb hb2 hb3
  go_wp2_with ((with_reducible refine gd_st 122 ?_); refine wpl_store_new rfl 122 _ _ rfl opt0 opt0 (by rfl) (by rfl) info122s rfl opt0_one ?_)
  refine (HP.out _).mono ?_; rintro e w3 ⟨rfl, rfl⟩
  have hrow := World.rowIs_alloc w2 opt0 122 (optCell {} fun _ => .slice none 0 0) opt0_cells
  have hb5 : Below w.heap.size w (w2.alloc (.cells opt0 122)) := HB.out.alloc hz3 _
  have HB5 := Lib.hid hb5
  have hz5 : w2.heap.size < (w2.alloc (.cells opt0 122)).heap.size := by simp
  have HR := Lib.hid hrow
  have hg2' : w.heap.size ≤ w2.heap.size := hz3
  clear hc hb5 hg1 hg2 hrow HB HP HT HS
  generalize w2.heap.size = G at *
  generalize w2.alloc (.cells opt0 122) = w5 at *
  go_wp2_with fail
  refine (HS2.out _).mono ?_; rintro e w4 ⟨g2, cap2, rfl, hcap2, hst2, hg3, hg4, hb4⟩
  have HR4 := Lib.hid (below_row HR.out hb4 HR.out.lt)
  have hc2 := hst2 0 _ rfl
  have HB6 := Lib.hid (HB5.out.trans (hb4.mono (B' := w.heap.size) (by omega)))
  clear hst2 hb4 HR HB5 hg3 HS2
  go_wp2_with fail
  go_loopw [10, 72] (fun b v wr => v = .int .i64 0 ∧ b = .bool false ∧ wr = w4) (fun _ v _ => 0)
  case atStart => exact ⟨rfl, rfl, rfl⟩
  case round =>
    obtain ⟨rfl, rfl, rfl⟩ := hrel
    go_wp2_with fail
    refine (HS3.out _).mono ?_; rintro e w6 ⟨g3, cap3, rfl, hcap3, hst3, hg5, hg6, hb6⟩
    have hn0 := hst3 0 _ rfl
    have hn1 := hst3 1 _ rfl
    have HR6 := Lib.hid (below_row HR4.out hb6 HR4.out.lt)
    have HB7 := Lib.hid (HB6.out.trans (hb6.mono (B' := w.heap.size) HB6.out.size))
    clear hst3 HR4 HB6 HS3 hg5 hb6
    have hi0 : (0 : Int) < ((2 : Nat) : Int) := by decide
    have hi1 : (1 : Int) < ((2 : Nat) : Int) := by decide
    go_wp2_with fail
    go_quiet (fail)
    go_wp2_with fail
    refine (HC.out _).mono ?_; rintro e w7 ⟨⟨p, rfl⟩, hb7⟩
    have hb7 : Below w6.heap.size w6 w7 := (pw_drewN (Below.refl _ w6) _).trans (hb7.mono (by simp))
    have hr7 := below_row HR6.out hb7 HR6.out.lt
    have HB8 := Lib.hid (HB7.out.trans (hb7.mono (B' := w.heap.size) HB7.out.size))
    have hk0 := hr7.cell (i := 0) (by decide)
    have hf0 := hr7.frozen 0
    clear HR6 HB7 hb7 hn0 hn1
    go_wp2_with fail
    go_ret2
    exact ⟨⟨_, rfl⟩, HB8.out.setCell hg2' _⟩

set_option maxRecDepth 100000 in
set_option maxHeartbeats 8000000 in
theorem opt_empty (w : World) (hG : Glob w) : Calls Tryz.prog 93 #[.string ⟨emptyL.toArray⟩, .agg #[]] w fun e w' => GivesErr w e w' := by
  have HT := Lib.hid fun W (hG : Glob W) => trim_any emptyL W hG empty_clean (by decide)
  have S := fun W : World => zzSplit_any ⟨emptyL.toArray⟩ 10 W (by rw [Lib.size_eq]; decide)
  rw [show splitL 10 (⟨emptyL.toArray⟩ : ByteArray).data.toList = [emptyL] from splitL_one (by decide)] at S
  have HS := Lib.hid S
  have HP := Lib.hid fun W : World => trimPrefix_any emptyL W (by decide)
  have S2 := fun W : World => zzSplit_any ⟨emptyL.toArray⟩ 59 W (by rw [Lib.size_eq]; decide)
  rw [empty_split59] at S2
  have HS2 := Lib.hid S2
  have S3 := fun W : World => zzSplit_any ⟨emptyL.toArray⟩ 61 W (by rw [Lib.size_eq]; decide)
  rw [empty_split61] at S3
  have HS3 := Lib.hid S3
  have HE := Lib.hid fun (s : ByteArray) (W : World) => errNew_any s W
  have HGl := Lib.hid hG
  clear S S2 S3 hG
  generalize emptyL = text at *
  go_enter Tryz.func93, Tryz.ntmps93
  go_wp2_with fail
  refine (HT.out _ (HGl.out.on (by exact below_a1))).mono ?_; rintro e w1 ⟨rfl, hb1⟩
  have hb2 : Below w.heap.size w w1 := below_a1.trans (hb1.mono (B' := w.heap.size) (by simp))
  have hz2 := hb2.size
  clear hb1
  go_wp2_with fail
  refine (HS.out _).mono ?_; rintro e w2 ⟨g, cap, rfl, hcap, hst, hg1, hg2, hb⟩
  have hc : w2.cell? ⟨g, 0, none⟩ = some (.string ⟨text.toArray⟩) := hst 0 _ rfl
  have hb3 : Below w.heap.size w w2 := hb2.trans (hb.mono (B' := w.heap.size) hz2)
  have hz3 := hb3.size
  have HB := Lib.hid hb3
  clear hst hb hb2 hb3
  go_wp2_with ((with_reducible refine gd_st 122 ?_); refine wpl_store_new rfl 122 _ _ rfl opt0 opt0 (by rfl) (by rfl) info122s rfl opt0_one ?_)
  refine (HP.out _).mono ?_; rintro e w3 ⟨rfl, rfl⟩
  have hrow := World.rowIs_alloc w2 opt0 122 (optCell {} fun _ => .slice none 0 0) opt0_cells
  have hb5 : Below w.heap.size w (w2.alloc (.cells opt0 122)) := HB.out.alloc hz3 _
  have HB5 := Lib.hid hb5
  have hz5 : w2.heap.size < (w2.alloc (.cells opt0 122)).heap.size := by simp
  have HR := Lib.hid hrow
  have hg2' : w.heap.size ≤ w2.heap.size := hz3
  clear hc hb5 hg1 hg2 hrow HB HP HT HS
  generalize w2.heap.size = G at *
  generalize w2.alloc (.cells opt0 122) = w5 at *
  go_wp2_with fail
  refine (HS2.out _).mono ?_; rintro e w4 ⟨g2, cap2, rfl, hcap2, hst2, hg3, hg4, hb4⟩
  have HR4 := Lib.hid (below_row HR.out hb4 HR.out.lt)
  have hc2 := hst2 0 _ rfl
  have HB6 := Lib.hid (HB5.out.trans (hb4.mono (B' := w.heap.size) (by omega)))
  clear hst2 hb4 HR HB5 hg3 HS2
  go_wp2_with fail
  go_loopw [10, 72] (fun b v wr => v = .int .i64 0 ∧ b = .bool false ∧ wr = w4) (fun _ v _ => 0)
  case atStart => exact ⟨rfl, rfl, rfl⟩
  case round =>
    obtain ⟨rfl, rfl, rfl⟩ := hrel
    go_wp2_with fail
    refine (HS3.out _).mono ?_; rintro e w6 ⟨g3, cap3, rfl, hcap3, hst3, hg5, hg6, hb6⟩
    have HB7 := Lib.hid (HB6.out.trans (hb6.mono (B' := w.heap.size) HB6.out.size))
    clear hst3 HR4 HB6 HS3 hg5 hb6
    go_wp2_with fail
    refine (HE.out _ _).mono ?_; rintro e w7 ⟨rfl, rfl⟩
    go_wp2_with fail
    go_ret2
    exact ⟨⟨_, rfl⟩, HB7.out.alloc HB7.out.size _⟩
