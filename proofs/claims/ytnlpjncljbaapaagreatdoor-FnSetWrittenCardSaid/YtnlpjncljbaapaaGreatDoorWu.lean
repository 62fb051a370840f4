/- appendIntsOption, walked: a part of numbers as the package writes it. -/
import Derived.Test.YtnlpjncljbaapaaGreatDoorWn
import Derived.Test.YtnlpjncljbaapaaGreatDoorLs
namespace Go.Proofs.YtnlpjncljbaapaaGreatDoor
open Go.RowKit

theorem join_joinC (c : UInt8) : ∀ xs : List (List UInt8), Lib.join xs [c] = joinC c xs
  | [] => rfl
  | [a] => by rw [Lib.join_one]; rfl
  | a :: b :: r => by
    have ih := join_joinC c (b :: r)
    rw [Lib.join_cons] at ih ⊢
    show a ++ Lib.joinTail [c] (b :: r) = a ++ c :: joinC c (b :: r)
    rw [← ih]
    simp [Lib.joinTail]
theorem join_any (g cap m : Nat) (c : UInt8) (ls : List (List UInt8)) (w : World) (hst : StrsAt w g ls) (hm : m = ls.length) (hg : g < w.heap.size) (hc : m ≤ cap) (hn : m ≤ 100000) (hl : (joinC c ls).length ≤ 1000000) :
    Calls Tryz.prog 81 #[.slice (some ⟨g, 0, none⟩) m cap, .string ⟨#[c]⟩] w fun e w' => e = .returned (.string ⟨(joinC c ls).toArray⟩) ∧ Below w.heap.size w w' := by
  have hmap : (ls.map fun x => (⟨x.toArray⟩ : ByteArray)).map (·.data.toList) = ls := by
    rw [List.map_map]
    exact (List.map_congr_left fun x _ => rfl).trans (List.map_id ls)
  have h := Tryz.strings_Join g 0 cap (ls.map fun x => (⟨x.toArray⟩ : ByteArray)) ⟨#[c]⟩ w (fun j x hx => by
    rw [List.getElem?_map] at hx
    obtain ⟨y, hy, rfl⟩ := Option.map_eq_some_iff.1 hx
    rw [Nat.zero_add]
    exact hst j y hy) hg (by rw [List.length_map]; omega) (by rw [List.length_map]; omega) (by
      rw [hmap]
      show (Lib.join ls [c]).length ≤ _
      rw [join_joinC]; omega)
  rw [hmap, List.length_map, ← hm] at h
  have e : Lib.join ls (⟨#[c]⟩ : ByteArray).data.toList = joinC c ls := join_joinC c ls
  rw [e] at h
  exact h
/-- A part of numbers. -/
def numP (key : List UInt8) (l : List Int) : List UInt8 := key ++ 61 :: joinC 44 (l.map Lib.itoa)
set_option maxRecDepth 100000 in
set_option maxHeartbeats 4000000 in
theorem ints_any {B k : Nat} {w1 : World} {xs : List (List UInt8)} (v : Value) (key : List UInt8) (p : Option Addr) (n c : Nat) (l : List Int) (w : World) (hP : PS B w1 v w k xs) (hr : RowI w p n l) (hG : Glob w) (hB : B ≤ w1.heap.size) (hn : n ≤ 100) (hl : ∀ x ∈ l, -1000 ≤ x ∧ x ≤ 1000) (hk : key.length ≤ 20) (hkk : k ≤ 100) :
    Calls Tryz.prog 122 #[v, .string ⟨key.toArray⟩, .slice p n c] w fun e w' => ∃ v', e = .returned v' ∧ PS B w1 v' w' (k + 1) (xs ++ opt1 (decide (0 < n)) (numP key l)) := by
  obtain ⟨hnl, hcells⟩ := hr
  by_cases hn0 : n = 0
  · subst hn0
    have HP := Lib.hid hP
    clear hP hnl hcells
    go_enter Tryz.func122, Tryz.ntmps122
    go_wp2_with fail
    go_ret
    refine ⟨v, rfl, ?_⟩
    obtain ⟨m, h1, h2, h3⟩ := HP.out
    rw [show opt1 (decide (0 < 0)) (numP key l) = [] from rfl, List.append_nil]
    exact ⟨m, h1, by omega, h3⟩
  · have HNL := Lib.hid hnl
    have hnp : 0 < n := by omega
    have hz0 : 0 < l.length := by omega
    obtain ⟨g, hpg, hgl, -⟩ := hcells 0 _ (List.getElem?_eq_getElem hz0)
    subst hpg
    have HC := Lib.hid (show ∀ (i : Nat) x, l[i]? = some x → w.cell? ⟨g, i, none⟩ = some (.int .i64 x) from fun i x hx => by
      obtain ⟨g', e, _, hc⟩ := hcells i x hx
      injection e with e; injection e with e1; subst e1
      exact hc)
    obtain ⟨m, hm, hmk, hown, hb⟩ := hP
    have HM := Lib.hid hm
    have HO := Lib.hid hown
    have HB := Lib.hid hb
    have HL := Lib.hid hl
    have HG := Lib.hid hG
    have hB2 : B ≤ w.heap.size := Nat.le_trans hB hb.size
    have hkey : (⟨key.toArray⟩ : ByteArray).size ≤ 20 := by rw [Lib.size_eq]; exact hk
    obtain ⟨kb, hkb⟩ : ∃ kb : ByteArray, kb = ⟨key.toArray⟩ := ⟨_, rfl⟩
    rw [← hkb] at hkey ⊢
    have HKB := Lib.hid hkb
    have hmk' := fun W : World => run_make_row' (P := Tryz.prog) 41 9 (.string ⟨#[]⟩) 16 Tryz.underlying41 info9 rfl .i64 .i64 n (by omega) (by omega) W
    have hrow := World.rowIs_made w (.string ⟨#[]⟩) n 9
    have hnz : ((n : Int) == 0) = false := by simp; omega
    have hb2 := below_a1 (w := w) (o := .cells (madeCells #[.string ⟨#[]⟩] n) 9)
    have HO2 := Lib.hid (hown.alloc (.cells (madeCells #[.string ⟨#[]⟩] n) 9))
    have hz2 : (w.alloc (.cells (madeCells #[.string ⟨#[]⟩] n) 9)).heap.size = w.heap.size + 1 := by simp
    have HZ2 := Lib.hid hz2
    clear hnl hcells hm hown hb hl hG hk hkb hz2 hn0
    go_enter Tryz.func122, Tryz.ntmps122
    go_wp2_with fail
    generalize w.alloc (.cells (madeCells #[.string ⟨#[]⟩] n) 9) = w2 at *
    have HR0 := Lib.hid hrow
    have HB2 := Lib.hid hb2
    obtain ⟨G, hGe⟩ : ∃ G, G = w.heap.size := ⟨_, rfl⟩
    rw [← hGe] at HR0 ⊢
    have hG1 : G ≤ w.heap.size := by omega
    have hG2 : w.heap.size ≤ G := by omega
    have hGlt : G < w2.heap.size := by have := HZ2.out; omega
    have hgG : g ≠ G := by omega
    clear hrow hb2 hmk' hGe
    go_loopw [8, 9, 19] (fun _ _ v wr => ∃ j : Nat, j ≤ n ∧ v = .int .i64 j ∧ Hid (wr.rowIs G 9 n (fun i => .string (if i < j then ⟨(Lib.itoa (l[i]?.getD 0)).toArray⟩ else ⟨#[]⟩))) ∧ Hid (Ch (fun i => i = G) w2 wr)) (fun _ _ v _ => n - (intOf v).toNat)
    case atStart => exact ⟨0, Nat.zero_le _, rfl, Lib.hid (by simpa using HR0.out), Lib.hid (.refl _ _)⟩
    case round =>
      obtain ⟨j, hj, rfl, HR, HCH⟩ := hrel
      have hwr := HCH.out.size
      by_cases hjn : j < n
      · have hjl : j < l.length := by have := HNL.out; omega
        obtain ⟨x, hx⟩ : ∃ x, l[j]? = some x := ⟨_, List.getElem?_eq_getElem hjl⟩
        have hxm := HL.out x (List.mem_of_getElem? hx)
        have hcx : wr.cell? ⟨g, j, none⟩ = some (.int .i64 x) := (HCH.out.cell (by have := HB2.out.size; omega) hgG).trans ((HB2.out.cell (p := ⟨g, j, none⟩) hgl).trans (HC.out j x hx))
        have hGr : Below w.heap.size w wr := HCH.out.below HB2.out (fun i hi => by omega) (by omega)
        have HI := Lib.hid (itoa_any x (by omega) (by omega) wr (HG.out.on hGr))
        have HJX := Lib.hid hx
        obtain ⟨z, hz⟩ : ∃ z : ByteArray, z = ⟨(Lib.itoa x).toArray⟩ := ⟨_, rfl⟩
        rw [← hz] at HI
        have HZ := Lib.hid hz
        clear hx hz hGr hxm
        go_wp2_with fail
        refine HI.out.mono ?_; rintro e w3 ⟨rfl, hb3⟩
        have hr3 := below_row HR.out hb3 HR.out.lt
        have hf := hr3.frozen j
        have hc2 := hr3.cell hjn
        have HR3 := Lib.hid hr3
        have HCH3 := Lib.hid (HCH.out.trans (Ch.of_below (X := fun i => i = G) hb3 (Nat.le_refl _)))
        clear hcx hb3 hr3
        go_wp2_with fail
        go_roundw
        case rel =>
          refine ⟨j + 1, by omega, by go_num, Lib.hid ((HR3.out.set j (.string z)).congr fun i hi => ?_), Lib.hid (HCH3.out.trans (.set rfl))⟩
          have hnk := HJX.out
          by_cases hij : i = j
          · subst hij; simp [hnk, HZ.out]
          · rw [if_neg hij]
            by_cases hlt : i < j
            · rw [if_pos hlt, if_pos (by omega)]
            · rw [if_neg hlt, if_neg (by omega)]
        case measure => simp [intOf]; omega
      · obtain rfl : j = n := by omega
        have hst : StrsAt wr G (l.map Lib.itoa) := fun i y hy => by
          rw [List.getElem?_map] at hy
          obtain ⟨x, hx, rfl⟩ := Option.map_eq_some_iff.1 hy
          have hi : i < j := by rw [HNL.out]; exact (List.getElem?_eq_some_iff.1 hx).1
          rw [HR.out.cell hi, if_pos hi, hx]
          rfl
        have hjl : (joinC 44 (l.map Lib.itoa)).length ≤ 3000 := by
          have h1 := joinC_len 44 21 (l.map Lib.itoa) (fun y hy => by
            obtain ⟨x, hx, rfl⟩ := List.mem_map.1 hy
            have := HL.out x hx
            exact Lib.itoa_length_le x (by omega) (by omega))
          rw [List.length_map, ← HNL.out] at h1
          omega
        have HJ := Lib.hid (join_any G j j 44 (l.map Lib.itoa) wr hst (by rw [List.length_map]; exact HNL.out) (by omega) (Nat.le_refl _) (by omega) (by omega))
        have hsz : (⟨(joinC 44 (l.map Lib.itoa)).toArray⟩ : ByteArray).size ≤ 3000 := by rw [Lib.size_eq]; exact hjl
        obtain ⟨z, hz⟩ : ∃ z : ByteArray, z = ⟨(joinC 44 (l.map Lib.itoa)).toArray⟩ := ⟨_, rfl⟩
        rw [← hz] at HJ hsz
        have HZ := Lib.hid hz
        have hov1 : ¬ 9223372036854775807 < kb.size + 1 := by omega
        have hov2 : ¬ 9223372036854775807 < kb.size + 1 + z.size := by omega
        clear hst hjl hz
        go_wp2_with fail
        refine HJ.out.mono ?_; rintro e w4 ⟨rfl, hb4⟩
        have hown4 := own_below (own_ch HO2.out HCH.out (fun g hg e => by have := (HO.out.lt g hg).2; omega)) hb4
        have HB4 := Lib.hid (((HB.out.trans (HB2.out.mono hB2)).trans (show Below B w2 wr from HCH.out.below (.refl _ _) (fun i hi => by omega) (by have := HB2.out.size; omega))).trans (hb4.mono (by have := HB2.out.size; omega)))
        have hz4 := hb4.size
        clear hb4
        go_wp2_with (at_builtin; refine app_own B rfl _ _ 41 9 (.string ⟨#[]⟩) 1 16 rfl Tryz.underlying41 info9 rfl (by decide) (by decide) _ _ _ [.string ((kb ++ (⟨#[61]⟩ : ByteArray)) ++ z)] (by rfl) (by rfl) rfl (by simp [Value.oneCell']) hown4 (by have := HB2.out.size; omega) (by omega) ?_)
        intro g5 cap5 w5 hown5 hg5 hg6 hcap5 hgrow hat5
        have hb5 : Below B w1 w5 := HB4.out.grown hgrow (by have := HB2.out.size; omega) (own_base hown4)
        go_wp2_with fail
        go_ret
        refine ⟨_, rfl, m + 1, ?_, by omega, ?_, hb5⟩
        · rw [opt1_pos (decide_eq_true hnp), List.length_append, HM.out]; rfl
        · have e : ((kb ++ (⟨#[61]⟩ : ByteArray)) ++ z) = ⟨(numP key l).toArray⟩ := by
            rw [HZ.out, HKB.out]
            apply ByteArray.ext
            simp [numP]
          rw [opt1_pos (decide_eq_true hnp)]
          rw [e, ← strVs_snoc] at hown5
          exact hown5
/-- The name of a list of numbers in a rule's text. -/
def oNm : Nat → List UInt8
  | 9 => [66, 89, 83, 69, 84, 80, 79, 83]
  | 10 => [66, 89, 77, 79, 78, 84, 72]
  | 11 => [66, 89, 77, 79, 78, 84, 72, 68, 65, 89]
  | 12 => [66, 89, 89, 69, 65, 82, 68, 65, 89]
  | 13 => [66, 89, 87, 69, 69, 75, 78, 79]
  | 15 => [66, 89, 72, 79, 85, 82]
  | 16 => [66, 89, 77, 73, 78, 85, 84, 69]
  | 17 => [66, 89, 83, 69, 67, 79, 78, 68]
  | _ => [66, 89, 69, 65, 83, 84, 69, 82]
def numO (o : Opt) (k : Nat) : List (List UInt8) := opt1 (decide (0 < (o.l k).length)) (numP (oNm k) (o.l k))
def dayP (l : List (Int × Int)) : List UInt8 := [66, 89, 68, 65, 89, 61] ++ joinC 44 (l.map wstrL)
def dayO (o : Opt) : List (List UInt8) := opt1 (decide (0 < o.days.length)) (dayP o.days)
def optA0 (o : Opt) : List (List UInt8) := [pFreq o.freq.toNat]
def ivO (o : Opt) : List (List UInt8) := opt1 (decide (o.interval ≠ 0)) (pInterval o.interval)
def wkO (o : Opt) : List (List UInt8) := opt1 (decide (o.wk ≠ 0)) (pWkst o.wk)
def ctO (o : Opt) : List (List UInt8) := opt1 (decide (o.count ≠ 0)) (pCount o.count)
def unO (o : Opt) : List (List UInt8) := opt1 (decide (o.till ≠ 0)) (pTill o.till)
def optA1 (o : Opt) : List (List UInt8) := optA0 o ++ ivO o
def optA2 (o : Opt) : List (List UInt8) := optA1 o ++ wkO o
def optA3 (o : Opt) : List (List UInt8) := optA2 o ++ ctO o
def optA (o : Opt) : List (List UInt8) := optA3 o ++ unO o
def optB (o : Opt) : List (List UInt8) := optA o ++ numO o 9 ++ numO o 10 ++ numO o 11 ++ numO o 12 ++ numO o 13
def optTx (o : Opt) : List (List UInt8) := optB o ++ dayO o ++ numO o 15 ++ numO o 16 ++ numO o 17 ++ numO o 18
/-- A rule's text as the package writes it. -/
def rrTx (o : Opt) : List UInt8 := joinC 59 (optTx o)
/-- The numbers of the options are small. -/
structure OptSmall (o : Opt) : Prop where
  fr : 0 ≤ o.freq ∧ o.freq ≤ 6
  iv : 0 ≤ o.interval ∧ o.interval ≤ 1000
  wk : 0 ≤ o.wk ∧ o.wk ≤ 6
  ct : 0 ≤ o.count ∧ o.count ≤ 1000
  un : 0 ≤ o.till ∧ o.till < 315537897600
  l : ∀ k, 9 ≤ k → k < 19 → k ≠ 14 → (o.l k).length ≤ 12 ∧ ∀ x ∈ o.l k, -1000 ≤ x ∧ x ≤ 1000
  dl : o.days.length ≤ 12 ∧ ∀ d ∈ o.days, (0 ≤ d.1 ∧ d.1 ≤ 6) ∧ -1000 ≤ d.2 ∧ d.2 ≤ 1000
end Go.Proofs.YtnlpjncljbaapaaGreatDoor
