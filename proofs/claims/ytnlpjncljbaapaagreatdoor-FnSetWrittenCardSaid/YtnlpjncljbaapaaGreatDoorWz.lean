/- The package's lines of a set, and its text: Recurrence, String, impl.SetLines, impl.SetText, walked. -/
import Derived.Test.YtnlpjncljbaapaaGreatDoorWv
import Derived.Test.YtnlpjncljbaapaaGreatDoorWo
namespace Go.Proofs.YtnlpjncljbaapaaGreatDoor
open Go.RowKit

def rLine : Option Opt → List (List UInt8)
  | none => []
  | some o => [rrL (rrTx o)]
/-- The lines of a set as the package writes them. -/
def wLines (t : Int) (r : Option Opt) (rds exs : List Int) : List (List UInt8) := [dtL t] ++ rLine r ++ rds.map rdL ++ exs.map exL
theorem RuleIn.below {w w' : World} {t : Int} {b : Bool} {f sl : Nat → Value} {r : Option Opt} (h : RuleIn w t b f sl r) (hb : Below w.heap.size w w') : RuleIn w' t b f sl r := by
  cases r with
  | none => exact h
  | some o =>
    obtain ⟨h1, v, B, h2, h3, h4, h5⟩ := h
    exact ⟨h1, v, B, h2, h3.below hb, own_below h4 hb, h5⟩
theorem RuleAt.cells {w : World} {G : Nat} {arg : Nat → Value} {s : Int} (h : RuleAt w G arg s) : ∀ k, k < 19 → w.cell? ⟨G, k, none⟩ = some (arg k) := fun k hk => by
  obtain ⟨f, hr, h1, _⟩ := h
  rw [← h1 k hk]
  exact hr.cell (by omega)
theorem time_cells {w : World} {B n c : Nat} {q : Option Addr} {ts : List Int} (h : w.ownsRow B 109 2 (.slice q n c) n (timeVs ts)) : ∀ k x, ts[k]? = some x → ∃ g, q = some ⟨g, 0, none⟩ ∧ g < w.heap.size ∧ w.cell? ⟨g, k * 2, none⟩ = some (.int .i64 x) ∧ w.cell? ⟨g, k * 2 + 1, none⟩ = some (.int .i64 0) := fun k x hx => by
  have hat := timeVs_at ts k x hx
  rcases h.2 with ⟨h1, h2⟩ | ⟨g, cap, cur, h1, hb, hh, _⟩
  · subst h2
    have h0 := h.1
    have : (timeVs ts).length = 0 := by simpa using h0
    rw [List.length_eq_zero_iff] at this
    rw [this] at hat
    simp at hat
  · injection h1 with h1 _ _
    subst h1
    refine ⟨g, rfl, (Array.getElem?_eq_some_iff.1 hh).1, ?_, ?_⟩
    · have := h.cells (g := g) rfl (k * 2) _ hat.1
      rwa [add_plain] at this
    · have := h.cells (g := g) rfl (k * 2 + 1) _ hat.2
      rwa [add_plain] at this
set_option maxRecDepth 100000 in
set_option maxHeartbeats 8000000 in
theorem recur_any (S : Nat) (t : Int) (r : Option Opt) (rds exs : List Int) (rp rd ex : Value) (w : World) (hG : Glob w) (h : SetIs w S t r rds exs rp rd ex) (ht : 0 < t ∧ t < 315537897600) (hr : ∀ o, r = some o → OptSmall o) (hdr : DateOk rds) (hdx : DateOk exs) (hnr : rds.length ≤ 12) (hnx : exs.length ≤ 12) :
    Calls Tryz.prog 42 #[.pointer (some ⟨S, 0, none⟩)] w fun e w' => GivesOwn (wLines t r rds exs) w e w' := by
  obtain ⟨hrow, hrule, ⟨b1, ho1⟩, ⟨b2, ho2⟩⟩ := h
  have hS := hrow.lt
  obtain ⟨q1, c1, rfl, -⟩ := own_slice ho1
  obtain ⟨q2, c2, rfl, -⟩ := own_slice ho2
  have HCr := Lib.hid (time_cells ho1)
  have HCx := Lib.hid (time_cells ho2)
  obtain ⟨B, hB⟩ : ∃ B, B = w.heap.size := ⟨_, rfl⟩
  have hBle : B ≤ w.heap.size := by omega
  have hSB : S < B := by omega
  have HBE := Lib.hid hB
  have hcell := Lib.hid fun i (hi : i < 5) (W : World) (hW : Below B w W) => (hW.cell (p := ⟨S, i, none⟩) hSB).trans (hrow.cell (i := i) hi)
  have HRU := Lib.hid fun (W : World) (hW : Below B w W) => (show RuleIs W t rp r from hrule.below (by rw [← hB]; exact hW))
  have x0 : w.cell? ⟨S, 0, none⟩ = some (.int .i64 t) := hcell.out 0 (by omega) w (.refl _ _)
  have x1 : w.cell? ⟨S, 1, none⟩ = some (.int .i64 0) := hcell.out 1 (by omega) w (.refl _ _)
  have HIZ := Lib.hid fun W : World => isZero_no t W (by omega)
  have HD := Lib.hid fun W (hW : Glob W) => rfc_any t (by omega) ht.2 W hW
  have hds : (⟨(58 :: dateL t).toArray⟩ : ByteArray).size = 17 := rfl
  obtain ⟨z, hz⟩ : ∃ z : ByteArray, z = ⟨(58 :: dateL t).toArray⟩ := ⟨_, rfl⟩
  rw [← hz] at HD hds
  have HZ := Lib.hid hz
  have HG := Lib.hid hG
  have HSM := Lib.hid hr
  have HXr := Lib.hid hdr
  have HXx := Lib.hid hdx
  have hov : ¬ 9223372036854775807 < 7 + z.size := by omega
  obtain ⟨nr, hnre⟩ : ∃ n, n = rds.length := ⟨_, rfl⟩
  obtain ⟨nx, hnxe⟩ : ∃ n, n = exs.length := ⟨_, rfl⟩
  rw [← hnre] at hnr
  rw [← hnxe] at hnx
  rw [← hnre, ← hnxe] at hcell
  have HNr := Lib.hid hnre
  have HNx := Lib.hid hnxe
  have hown0 := own_nil w B 9 1
  clear hz hB hrow hrule ho1 ho2 hS ht hG hr hdr hdx hnre hnxe
  go_enter Tryz.func42, Tryz.ntmps42
  go_wp2_with fail
  refine (HIZ.out _).mono ?_; rintro e w2 ⟨rfl, hb2⟩
  have hown2 := own_below hown0 hb2
  have HB2 := Lib.hid (hb2.mono hBle)
  have y0 := (hb2.cell (p := ⟨S, 0, none⟩) (show S < _ by omega)).trans x0
  have y1 := (hb2.cell (p := ⟨S, 1, none⟩) (show S < _ by omega)).trans x1
  clear hb2 x0 x1 HIZ hown0
  go_wp2_with fail
  refine (HD.out _ (HG.out.on (by rw [← HBE.out]; exact HB2.out))).mono ?_; rintro e w3 ⟨rfl, hb3⟩
  have hown3 := own_below hown2 hb3
  have hw2 := HB2.out.size
  have hB3 : Below B w w3 := HB2.out.trans (hb3.mono (by omega))
  have hw3 : B ≤ w3.heap.size := by have := hb3.size; omega
  clear hb3 y0 y1
  go_wp2_with (at_builtin; refine app_own B rfl _ _ 41 9 (.string ⟨#[]⟩) 1 16 rfl Tryz.underlying41 info9 rfl (by decide) (by decide) _ _ _ [.string ((⟨#[68, 84, 83, 84, 65, 82, 84]⟩ : ByteArray) ++ z)] (by rfl) (by rfl) rfl (by simp [Value.oneCell']) hown3 (by omega) (by omega) ?_)
  intro g5 cap5 w5 hown5 hg5 hg6 hcap5 hgrow hat5
  have hb5 : Below B w w5 := hB3.grown hgrow (by omega) (own_base hown3)
  have e : ((⟨#[68, 84, 83, 84, 65, 82, 84]⟩ : ByteArray) ++ z) = ⟨(dtL t).toArray⟩ := by
    rw [HZ.out]
    apply ByteArray.ext
    simp [dtL]
  rw [e] at hown5
  have hown5 : w5.ownsRow B 9 1 (.slice (some ⟨g5, 0, none⟩) 1 cap5) 1 (strVs [dtL t]) := hown5
  have HB := Lib.hid hb5
  have HOWN := Lib.hid hown5
  have hbs : B ≤ w5.heap.size := by have := hb5.size; omega
  obtain ⟨q, hq⟩ : ∃ q, rp = .pointer q := by
    have h := HRU.out w5 HB.out
    cases r with
    | none => exact ⟨_, h⟩
    | some o => obtain ⟨G, sl, h, -⟩ := h; exact ⟨_, h⟩
  subst hq
  have x2 : w5.cell? ⟨S, 2, none⟩ = some (.pointer q) := hcell.out 2 (by omega) w5 HB.out
  clear hown2 hown3 hB3 hb5 hown5 hgrow hat5 hov hds e HZ HD hg5 hg6
  go_upto_if 27 with fail
  go_cut [3] from 23 to 38 (fun v wc => PS B w v wc 2 ([dtL t] ++ rLine r))
  case first =>
    cases r with
    | none =>
      have hrp : q = none := by have h : Value.pointer q = .pointer none := HRU.out w5 HB.out; injection h
      subst hrp
      go_wp2_with fail
      go_meet
      exact ⟨1, rfl, by omega, HOWN.out, HB.out⟩
    | some o =>
      obtain ⟨G, sl, hrp, hRA, hRO⟩ := HRU.out w5 HB.out
      injection hrp with hrp
      subst hrp
      have hO := HSM.out o rfl
      have htl := rrTx_len hO
      have HT := Lib.hid (rrString_any o t sl G w5 (HG.out.on (by rw [← HBE.out]; exact HB.out)) hRA.lt (hRA.cells) hRO hO)
      have hds : (⟨(rrTx o).toArray⟩ : ByteArray).size ≤ 100000 := by rw [Lib.size_eq]; show (rrTx o).length ≤ _; omega
      obtain ⟨z, hz⟩ : ∃ z : ByteArray, z = ⟨(rrTx o).toArray⟩ := ⟨_, rfl⟩
      rw [← hz] at HT hds
      have HZ := Lib.hid hz
      have hov : ¬ 9223372036854775807 < 6 + z.size := by omega
      clear hz hO htl hRA hRO
      go_wp2_with fail
      refine HT.out.mono ?_; rintro e w6 ⟨rfl, hb6⟩
      have hown6 := own_below HOWN.out hb6
      have hb6' : Below B w w6 := HB.out.trans (hb6.mono hbs)
      have hz6 := hb6.size
      clear hb6
      go_wp2_with (at_builtin; refine app_own B rfl _ _ 41 9 (.string ⟨#[]⟩) 1 16 rfl Tryz.underlying41 info9 rfl (by decide) (by decide) _ _ _ [.string ((⟨#[82, 82, 85, 76, 69, 58]⟩ : ByteArray) ++ z)] (by rfl) (by rfl) rfl (by simp [Value.oneCell']) hown6 (by omega) (by omega) ?_)
      intro g6x cap6 w7 hown7 hg6x hg6 hcap6 hgrow hat6
      have hb7 : Below B w w7 := hb6'.grown hgrow (by omega) (own_base hown6)
      have e : ((⟨#[82, 82, 85, 76, 69, 58]⟩ : ByteArray) ++ z) = ⟨(rrL (rrTx o)).toArray⟩ := by
        rw [HZ.out]
        apply ByteArray.ext
        simp [rrL]
      rw [e, ← strVs_snoc] at hown7
      go_wp2_with fail
      go_meet
      exact ⟨2, rfl, by omega, hown7, hb7⟩
  case rest =>
  clear HB HOWN x2 hbs
  obtain ⟨m, hm, hmk, hown, hb⟩ := hcut
  have HM := Lib.hid hm
  have HB := Lib.hid hb
  have HOWN := Lib.hid hown
  have hbs : B ≤ wc.heap.size := by have := hb.size; omega
  have x3 : wc.cell? ⟨S, 3, none⟩ = some (.slice q1 nr c1) := hcell.out 3 (by omega) wc hb
  clear hm hb hown
  go_wp2_with fail
  clear x3
  go_loopw [3, 5, 44] (fun u _ v wr => ∃ k : Nat, k ≤ nr ∧ v = .int .i64 k ∧ PS B w u wr (2 + k) ([dtL t] ++ rLine r ++ (rds.take k).map rdL)) (fun _ _ v _ => nr - (intOf v).toNat)
  case atStart => exact ⟨0, Nat.zero_le _, rfl, m, by rw [List.take_zero, List.map_nil, List.append_nil]; exact HM.out, by omega, by rw [List.take_zero, List.map_nil, List.append_nil]; exact HOWN.out, HB.out⟩
  case round =>
    clear HM HB HOWN hmk hbs
    obtain ⟨k, hk, rfl, m, hm, hmk, hown, hb⟩ := hrel
    have HM := Lib.hid hm
    have HB := Lib.hid hb
    have HOWN := Lib.hid hown
    have hbs : B ≤ wr.heap.size := by have := hb.size; omega
    clear hm hb hown
    by_cases hkn : k < nr
    · have hkl : k < rds.length := by have := HNr.out; omega
      obtain ⟨g, rfl, hg, hc0, hc1⟩ := HCr.out k _ (List.getElem?_eq_getElem hkl)
      have hgB : g < B := by rw [HBE.out]; exact hg
      have hc0 := (HB.out.cell (p := ⟨g, k * 2, none⟩) hgB).trans hc0
      have hc1 := (HB.out.cell (p := ⟨g, k * 2 + 1, none⟩) hgB).trans hc1
      have HK := Lib.hid (List.getElem?_eq_getElem hkl)
      have HXk := Lib.hid (HXr.out _ (List.getElem_mem hkl))
      have HD := Lib.hid (rfc_any rds[k] HXk.out.1 HXk.out.2)
      have hds : (⟨(58 :: dateL rds[k]).toArray⟩ : ByteArray).size = 17 := rfl
      obtain ⟨z, hz⟩ : ∃ z : ByteArray, z = ⟨(58 :: dateL rds[k]).toArray⟩ := ⟨_, rfl⟩
      rw [← hz] at HD hds
      have HZ := Lib.hid hz
      generalize rds[k] = x at *
      have hov : ¬ 9223372036854775807 < 5 + z.size := by omega
      have hki : (0 : Int) ≤ ((k : Nat) : Int) := by omega
      have hkni : ((k : Nat) : Int) < ((nr : Nat) : Int) := by omega
      clear hz
      go_wp2_with fail
      refine (HD.out _ (HG.out.on ?_)).mono ?_
      · rw [← HBE.out]; exact HB.out.alloc hbs _
      rintro e w2 ⟨rfl, hb2⟩
      have hown2 := own_below (HOWN.out.alloc _) hb2
      have hb3 : Below B w w2 := (HB.out.alloc hbs _).trans (hb2.mono (by simp; omega))
      have hz2 : B ≤ w2.heap.size := by have := hb3.size; omega
      clear hb2
      go_wp2_with (at_builtin; refine app_own B rfl _ _ 41 9 (.string ⟨#[]⟩) 1 16 rfl Tryz.underlying41 info9 rfl (by decide) (by decide) _ _ _ [.string ((⟨#[82, 68, 65, 84, 69]⟩ : ByteArray) ++ z)] (by rfl) (by rfl) rfl (by simp [Value.oneCell']) hown2 (by omega) (by omega) ?_)
      intro g5 cap5 w5 hown5 hg5 hg6 hcap5 hgrow hat5
      have hb5 : Below B w w5 := hb3.grown hgrow (by omega) (own_base hown2)
      have e : ((⟨#[82, 68, 65, 84, 69]⟩ : ByteArray) ++ z) = ⟨(rdL x).toArray⟩ := by
        rw [HZ.out]
        apply ByteArray.ext
        simp [rdL]
      rw [e, ← strVs_snoc] at hown5
      go_wp2_with fail
      go_roundw
      case rel =>
        refine ⟨k + 1, by omega, by go_num, m + 1, ?_, by omega, ?_, hb5⟩
        · rw [map_take _ HK.out, ← List.append_assoc, List.length_append, HM.out]; rfl
        · rw [map_take _ HK.out]; simpa only [List.map_take, List.append_assoc, List.cons_append, List.nil_append] using hown5
      case measure => simp [intOf]; omega
    · obtain ⟨kk, hkk⟩ : ∃ kk, kk = nr := ⟨_, rfl⟩
      obtain rfl : k = kk := by omega
      have HL := Lib.hid (show rds.take k = rds from List.take_of_length_le (by have := HNr.out; omega))
      have hfk : ¬ ((k : Int) < ((nr : Nat) : Int)) := by omega
      rw [HL.out] at HM HOWN
      have HKK := Lib.hid hkk
      clear hkk hkn
      have x4 : wr.cell? ⟨S, 4, none⟩ = some (.slice q2 nx c2) := hcell.out 4 (by omega) wr HB.out
      go_wp2_with fail
      clear x4
      go_loopw [3, 7, 60] (fun u _ v wr => ∃ k : Nat, k ≤ nx ∧ v = .int .i64 k ∧ PS B w u wr (2 + nr + k) ([dtL t] ++ rLine r ++ rds.map rdL ++ (exs.take k).map exL)) (fun _ _ v _ => nx - (intOf v).toNat)
      case atStart => exact ⟨0, Nat.zero_le _, rfl, m, by rw [List.take_zero, List.map_nil, List.append_nil]; exact HM.out, by omega, by rw [List.take_zero, List.map_nil, List.append_nil]; exact HOWN.out, HB.out⟩
      case round =>
        clear HM HB HOWN hmk hbs
        obtain ⟨k, hk, rfl, m, hm, hmk, hown, hb⟩ := hrel
        have HM := Lib.hid hm
        have HB := Lib.hid hb
        have HOWN := Lib.hid hown
        have hbs : B ≤ wr.heap.size := by have := hb.size; omega
        clear hm hb hown
        by_cases hkn : k < nx
        · have hkl : k < exs.length := by have := HNx.out; omega
          obtain ⟨g, rfl, hg, hc0, hc1⟩ := HCx.out k _ (List.getElem?_eq_getElem hkl)
          have hgB : g < B := by rw [HBE.out]; exact hg
          have hc0 := (HB.out.cell (p := ⟨g, k * 2, none⟩) hgB).trans hc0
          have hc1 := (HB.out.cell (p := ⟨g, k * 2 + 1, none⟩) hgB).trans hc1
          have HK := Lib.hid (List.getElem?_eq_getElem hkl)
          have HXk := Lib.hid (HXx.out _ (List.getElem_mem hkl))
          have HD := Lib.hid (rfc_any exs[k] HXk.out.1 HXk.out.2)
          have hds : (⟨(58 :: dateL exs[k]).toArray⟩ : ByteArray).size = 17 := rfl
          obtain ⟨z, hz⟩ : ∃ z : ByteArray, z = ⟨(58 :: dateL exs[k]).toArray⟩ := ⟨_, rfl⟩
          rw [← hz] at HD hds
          have HZ := Lib.hid hz
          generalize exs[k] = x at *
          have hov : ¬ 9223372036854775807 < 6 + z.size := by omega
          have hki : (0 : Int) ≤ ((k : Nat) : Int) := by omega
          have hkni : ((k : Nat) : Int) < ((nx : Nat) : Int) := by omega
          clear hz
          go_wp2_with fail
          refine (HD.out _ (HG.out.on ?_)).mono ?_
          · rw [← HBE.out]; exact HB.out.alloc hbs _
          rintro e w2 ⟨rfl, hb2⟩
          have hown2 := own_below (HOWN.out.alloc _) hb2
          have hb3 : Below B w w2 := (HB.out.alloc hbs _).trans (hb2.mono (by simp; omega))
          have hz2 : B ≤ w2.heap.size := by have := hb3.size; omega
          clear hb2
          go_wp2_with (at_builtin; refine app_own B rfl _ _ 41 9 (.string ⟨#[]⟩) 1 16 rfl Tryz.underlying41 info9 rfl (by decide) (by decide) _ _ _ [.string ((⟨#[69, 88, 68, 65, 84, 69]⟩ : ByteArray) ++ z)] (by rfl) (by rfl) rfl (by simp [Value.oneCell']) hown2 (by omega) (by omega) ?_)
          intro g5 cap5 w5 hown5 hg5 hg6 hcap5 hgrow hat5
          have hb5 : Below B w w5 := hb3.grown hgrow (by omega) (own_base hown2)
          have e : ((⟨#[69, 88, 68, 65, 84, 69]⟩ : ByteArray) ++ z) = ⟨(exL x).toArray⟩ := by
            rw [HZ.out]
            apply ByteArray.ext
            simp [exL]
          rw [e, ← strVs_snoc] at hown5
          go_wp2_with fail
          go_roundw
          case rel =>
            refine ⟨k + 1, by omega, by go_num, m + 1, ?_, by omega, ?_, hb5⟩
            · rw [map_take _ HK.out, ← List.append_assoc, List.length_append, HM.out]; rfl
            · rw [map_take _ HK.out]; simpa only [List.map_take, List.append_assoc, List.cons_append, List.nil_append] using hown5
          case measure => simp [intOf]; omega
        · obtain ⟨kk, hkk⟩ : ∃ kk, kk = nx := ⟨_, rfl⟩
          obtain rfl : k = kk := by omega
          have HL := Lib.hid (show exs.take k = exs from List.take_of_length_le (by have := HNx.out; omega))
          have hfk : ¬ ((k : Int) < ((nx : Nat) : Int)) := by omega
          rw [HL.out] at HM HOWN
          have HKK := Lib.hid hkk
          clear hkk hkn
          go_wp2_with fail
          go_ret
          exact ⟨B, _, m, rfl, by rw [HBE.out]; exact Nat.le_refl _, HOWN.out, HM.out, by rw [← HBE.out]; exact HB.out⟩
theorem wLines_len (t : Int) (r : Option Opt) (rds exs : List Int) (h1 : rds.length ≤ 12) (h2 : exs.length ≤ 12) : 0 < (wLines t r rds exs).length ∧ (wLines t r rds exs).length ≤ 26 := by
  unfold wLines
  simp only [List.length_append, List.length_map, List.length_cons, List.length_nil]
  have : (rLine r).length ≤ 1 := by cases r <;> simp [rLine]
  omega
theorem wLines_short (t : Int) (r : Option Opt) (rds exs : List Int) (h : ∀ o, r = some o → OptSmall o) : ∀ x ∈ wLines t r rds exs, x.length ≤ 20000 := fun x hx => by
  unfold wLines at hx
  simp only [List.mem_append, List.mem_map, List.mem_singleton] at hx
  rcases hx with ((hx | hx) | ⟨y, _, rfl⟩) | ⟨y, _, rfl⟩
  · subst hx; simp [dtL, dateL_len]
  · cases r with
    | none => simp [rLine] at hx
    | some o =>
      have := rrTx_len (h o rfl)
      simp [rLine] at hx
      subst hx
      simp [rrL]
      omega
  · simp [rdL, dateL_len]
  · simp [exL, dateL_len]
set_option maxRecDepth 100000 in
set_option maxHeartbeats 4000000 in
theorem string_any (S : Nat) (t : Int) (r : Option Opt) (rds exs : List Int) (rp rd ex : Value) (w : World) (hG : Glob w) (h : SetIs w S t r rds exs rp rd ex) (ht : 0 < t ∧ t < 315537897600) (hr : ∀ o, r = some o → OptSmall o) (hdr : DateOk rds) (hdx : DateOk exs) (hnr : rds.length ≤ 12) (hnx : exs.length ≤ 12) :
    Calls Tryz.prog 44 #[.pointer (some ⟨S, 0, none⟩)] w fun e w' => e = .returned (.string ⟨(joinC 10 (wLines t r rds exs)).toArray⟩) ∧ Below w.heap.size w w' := by
  have HR := Lib.hid (recur_any S t r rds exs rp rd ex w hG h ht hr hdr hdx hnr hnx)
  have HL := Lib.hid (wLines_len t r rds exs hnr hnx)
  have HX := Lib.hid (wLines_short t r rds exs hr)
  generalize wLines t r rds exs = ls at *
  clear hG h ht hr hdr hdx hnr hnx
  go_enter Tryz.func44, Tryz.ntmps44
  go_wp2_with fail
  refine HR.out.mono ?_; rintro e w2 ⟨B, v, m, rfl, hB, hown, hm, hb2⟩
  obtain ⟨q, c, rfl, hq⟩ := own_slice hown
  obtain ⟨g, rfl, hgB, hgl⟩ : ∃ g, q = some ⟨g, 0, none⟩ ∧ B ≤ g ∧ g < w2.heap.size := by
    rcases hq with h | h
    · have := HL.out.1; omega
    · exact h
  have hmc : m ≤ c := own_cap hown
  have hlen := joinC_len 10 20000 ls HX.out
  have HJ := Lib.hid (join_any g c m 10 ls w2 (StrsAt.of_own hown) hm.symm hgl hmc (by have := HL.out.2; omega) (by have := HL.out.2; omega))
  have HB2 := Lib.hid hb2
  clear hown hq hlen hB hb2
  go_wp2_with fail
  refine HJ.out.mono ?_; rintro e w3 ⟨rfl, hb3⟩
  have HB3 := Lib.hid (HB2.out.trans (hb3.mono HB2.out.size))
  clear hb3
  go_wp2_with fail
  go_ret
  exact ⟨rfl, HB3.out⟩
set_option maxRecDepth 100000 in
set_option maxHeartbeats 4000000 in
theorem setText_any (t : Int) (b : Bool) (f : Nat → Value) (sl : Nat → Value) (r : Option Opt) (q1 q2 : Option Addr) (n1 c1 n2 c2 : Nat) (rds exs : List Int) (w : World) (hG : Glob w) (ht : 0 < t ∧ t < 315537897600) (hri : RuleIn w t b f sl r) (h1 : RowO w q1 n1 rds) (h2 : RowO w q2 n2 exs) (hnr : rds.length ≤ 12) (hnx : exs.length ≤ 12) (hr : ∀ o, r = some o → OptSmall o) (hdr : DateOk rds) (hdx : DateOk exs) :
    Calls Tryz.prog 22 #[.agg (rowA 22 (toldF t b f (.slice q1 n1 c1) (.slice q2 n2 c2)))] w fun e w' => e = .returned (.tuple #[.string ⟨(joinC 10 (wLines t r rds exs)).toArray⟩, .bool true]) ∧ Below w.heap.size w w' := by
  have hN0 := World.rowIs_alloc w (rowA 22 (toldF t b f (.slice q1 n1 c1) (.slice q2 n2 c2))) 38 (toldF t b f (.slice q1 n1 c1) (.slice q2 n2 c2)) (fun i hi => rowA_get (by rwa [rowA_size] at hi))
  rw [rowA_size] at hN0
  have hb0 := below_a1 (w := w) (o := .cells (rowA 22 (toldF t b f (.slice q1 n1 c1) (.slice q2 n2 c2))) 38)
  have HM := Lib.hid fun (W : World) (hW : Below w.heap.size w W) => made_any t b f sl r q1 q2 n1 c1 n2 c2 rds exs W ht (hri.below hW) (h1.below hW) (h2.below hW) (by have := h1.1; omega) (by have := h2.1; omega)
  have HS := Lib.hid fun (S : Nat) (rp rd ex : Value) (W : World) (hW : Below w.heap.size w W) (h : SetIs W S t r rds exs rp rd ex) => string_any S t r rds exs rp rd ex W (hG.on hW) h ht hr hdr hdx hnr hnx
  obtain ⟨txt, htxt⟩ : ∃ txt : ByteArray, txt = ⟨(joinC 10 (wLines t r rds exs)).toArray⟩ := ⟨_, rfl⟩
  rw [← htxt] at HS ⊢
  obtain ⟨d38, hud38⟩ := Go.Proofs.YtnlpjncljbaapaaGreatDoor.u38
  have HU38 := Lib.hid hud38
  clear hG ht hri h1 h2 hr hdr hdx hnr hnx htxt hud38
  go_enter Tryz.func22, Tryz.ntmps22
  generalize hA : rowA 22 (toldF t b f (.slice q1 n1 c1) (.slice q2 n2 c2)) = A at *
  go_upto_region 1 with fail
  generalize hw1 : w.alloc (.cells A 38) = w1 at *
  have HB0 := Lib.hid hb0
  have HR0 := Lib.hid hN0
  have HA := Lib.hid hA
  clear hw1 hb0 hN0 hA
  go_wp2_with ((with_reducible refine gd_load 38 ?_); refine wpl_load_row0 rfl 38 _ rfl w.heap.size 38 22 22 _ rfl HR0.out (by decide) d38 HU38.out.1 HU38.out.2 info38s ?_; rw [HA.out])
  refine (HM.out _ HB0.out).mono ?_; rintro e w2 ⟨S, rp, rd, ex, rfl, hset, hb2⟩
  have HB2 := Lib.hid (HB0.out.trans (hb2.mono HB0.out.size))
  have HC := Lib.hid (HS.out S rp rd ex w2 HB2.out hset)
  clear hset hb2
  go_wp2_with fail
  refine HC.out.mono ?_; rintro e w3 ⟨rfl, hb3⟩
  have HB3 := Lib.hid (HB2.out.trans (hb3.mono HB2.out.size))
  clear hb3
  go_wp2_with fail
  go_ret2
  exact ⟨rfl, HB3.out⟩
set_option maxRecDepth 100000 in
set_option maxHeartbeats 4000000 in
theorem setLines_any (t : Int) (b : Bool) (f : Nat → Value) (sl : Nat → Value) (r : Option Opt) (q1 q2 : Option Addr) (n1 c1 n2 c2 : Nat) (rds exs : List Int) (w : World) (hG : Glob w) (ht : 0 < t ∧ t < 315537897600) (hri : RuleIn w t b f sl r) (h1 : RowO w q1 n1 rds) (h2 : RowO w q2 n2 exs) (hnr : rds.length ≤ 12) (hnx : exs.length ≤ 12) (hr : ∀ o, r = some o → OptSmall o) (hdr : DateOk rds) (hdx : DateOk exs) :
    Calls Tryz.prog 20 #[.agg (rowA 22 (toldF t b f (.slice q1 n1 c1) (.slice q2 n2 c2)))] w fun e w' => ∃ B v m, e = .returned (.tuple #[v, .bool true]) ∧ w.heap.size ≤ B ∧ w'.ownsRow B 9 1 v m (strVs (wLines t r rds exs)) ∧ (wLines t r rds exs).length = m ∧ Below w.heap.size w w' := by
  have hN0 := World.rowIs_alloc w (rowA 22 (toldF t b f (.slice q1 n1 c1) (.slice q2 n2 c2))) 38 (toldF t b f (.slice q1 n1 c1) (.slice q2 n2 c2)) (fun i hi => rowA_get (by rwa [rowA_size] at hi))
  rw [rowA_size] at hN0
  have hb0 := below_a1 (w := w) (o := .cells (rowA 22 (toldF t b f (.slice q1 n1 c1) (.slice q2 n2 c2))) 38)
  have HM := Lib.hid fun (W : World) (hW : Below w.heap.size w W) => made_any t b f sl r q1 q2 n1 c1 n2 c2 rds exs W ht (hri.below hW) (h1.below hW) (h2.below hW) (by have := h1.1; omega) (by have := h2.1; omega)
  have HS := Lib.hid fun (S : Nat) (rp rd ex : Value) (W : World) (hW : Below w.heap.size w W) (h : SetIs W S t r rds exs rp rd ex) => recur_any S t r rds exs rp rd ex W (hG.on hW) h ht hr hdr hdx hnr hnx
  generalize wLines t r rds exs = ls at *
  obtain ⟨d38, hud38⟩ := Go.Proofs.YtnlpjncljbaapaaGreatDoor.u38
  have HU38 := Lib.hid hud38
  clear hG ht hri h1 h2 hr hdr hdx hnr hnx hud38
  go_enter Tryz.func20, Tryz.ntmps20
  generalize hA : rowA 22 (toldF t b f (.slice q1 n1 c1) (.slice q2 n2 c2)) = A at *
  go_upto_region 1 with fail
  generalize hw1 : w.alloc (.cells A 38) = w1 at *
  have HB0 := Lib.hid hb0
  have HR0 := Lib.hid hN0
  have HA := Lib.hid hA
  clear hw1 hb0 hN0 hA
  go_wp2_with ((with_reducible refine gd_load 38 ?_); refine wpl_load_row0 rfl 38 _ rfl w.heap.size 38 22 22 _ rfl HR0.out (by decide) d38 HU38.out.1 HU38.out.2 info38s ?_; rw [HA.out])
  refine (HM.out _ HB0.out).mono ?_; rintro e w2 ⟨S, rp, rd, ex, rfl, hset, hb2⟩
  have HB2 := Lib.hid (HB0.out.trans (hb2.mono HB0.out.size))
  have HC := Lib.hid (HS.out S rp rd ex w2 HB2.out hset)
  clear hset hb2
  go_wp2_with fail
  refine HC.out.mono ?_; rintro e w3 ⟨B, v, m, rfl, hB, hown, hm, hb3⟩
  have HO := Lib.hid hown
  have HM2 := Lib.hid hm
  have HBB := Lib.hid (Nat.le_trans HB2.out.size hB)
  have HB3 := Lib.hid (HB2.out.trans (hb3.mono HB2.out.size))
  clear hb3 hown hm hB
  go_wp2_with fail
  go_ret2
  exact ⟨B, v, m, rfl, HBB.out, HO.out, HM2.out, HB3.out⟩
end Go.Proofs.YtnlpjncljbaapaaGreatDoor
