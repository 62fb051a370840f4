/- spec.part, walked: a part put into the specification's rule. -/
import Derived.Test.YtnlpjncljbaapaaGreatDoorWe
import Derived.Test.YtnlpjncljbaapaaGreatDoorRe
namespace Go.Proofs.YtnlpjncljbaapaaGreatDoor
open Go.RowKit

/-- A row above a block holds numbers; it holds days. -/
def HI (w : World) (N : Nat) (v : Value) (l : List Int) : Prop := (v = .slice none 0 0 ∧ l = []) ∨ ∃ g c, v = .slice (some ⟨g, 0, none⟩) l.length c ∧ IntsAt w g l ∧ N + 1 < g ∧ g < w.heap.size
def HDy (w : World) (N : Nat) (v : Value) (l : List (Int × Int)) : Prop := (v = .slice none 0 0 ∧ l = []) ∨ ∃ g c, v = .slice (some ⟨g, 0, none⟩) l.length c ∧ DaysAt w g l ∧ N + 1 < g ∧ g < w.heap.size
theorem HI.ch {w w' : World} {N : Nat} {v : Value} {l : List Int} (h : HI w N v l) (hc : Ch (fun i => i = N) w w') : HI w' N v l := by
  rcases h with h | ⟨g, c, h1, h2, h3, h4⟩
  · exact .inl h
  · exact .inr ⟨g, c, h1, h2.keep fun j => hc.cell h4 (by show ¬ g = N; omega), h3, Nat.lt_of_lt_of_le h4 hc.size⟩
theorem HDy.ch {w w' : World} {N : Nat} {v : Value} {l : List (Int × Int)} (h : HDy w N v l) (hc : Ch (fun i => i = N) w w') : HDy w' N v l := by
  rcases h with h | ⟨g, c, h1, h2, h3, h4⟩
  · exact .inl h
  · exact .inr ⟨g, c, h1, fun j k n hx => ⟨(hc.cell h4 (by show ¬ g = N; omega)).trans (h2 j k n hx).1, (hc.cell h4 (by show ¬ g = N; omega)).trans (h2 j k n hx).2⟩, h3, Nat.lt_of_lt_of_le h4 hc.size⟩
theorem hi_of_own {w : World} {B N n : Nat} {v : Value} {l : List Int} (h : w.ownsRow B 3 1 v n (intVs l)) (hN : N + 1 < B) : HI w N v l := by
  have hl : n = l.length := by have := h.1; simp [intVs] at this; omega
  subst hl
  rcases h.2 with ⟨h1, h2⟩ | ⟨g, cap, cur, h1, hb, hh, h3, _⟩
  · exact .inl ⟨by rw [h1], List.length_eq_zero_iff.1 h2⟩
  · refine .inr ⟨g, cap, h1, fun j x hx => ?_, by omega, (Array.getElem?_eq_some_iff.1 hh).1⟩
    subst h1
    have := h.cells (g := g) rfl j (.int .i64 x) (by simp [intVs, hx])
    rwa [add_plain] at this
theorem dayVs_len (l : List (Int × Int)) : (dayVs l).length = l.length * 2 := by
  induction l with
  | nil => rfl
  | cons a r ih =>
    rw [show dayVs (a :: r) = [.int .i64 a.1, .int .i64 a.2] ++ dayVs r from rfl, List.length_append, ih]
    simp
    omega
theorem dayVs_at (l : List (Int × Int)) (j : Nat) (k n : Int) (h : l[j]? = some (k, n)) : (dayVs l)[j * 2]? = some (.int .i64 k) ∧ (dayVs l)[j * 2 + 1]? = some (.int .i64 n) := by
  induction l generalizing j with
  | nil => simp at h
  | cons a r ih =>
    cases j with
    | zero => simp at h; subst h; exact ⟨rfl, rfl⟩
    | succ j =>
      have := ih j (by simpa using h)
      rw [show (j + 1) * 2 = j * 2 + 2 by omega]
      exact this
theorem hd_of_own {w : World} {B N n : Nat} {v : Value} {l : List (Int × Int)} (h : w.ownsRow B 98 2 v n (dayVs l)) (hN : N + 1 < B) : HDy w N v l := by
  have hl : n = l.length := by have := h.1; rw [dayVs_len] at this; omega
  subst hl
  rcases h.2 with ⟨h1, h2⟩ | ⟨g, cap, cur, h1, hb, hh, h3, _⟩
  · exact .inl ⟨by rw [h1], List.length_eq_zero_iff.1 h2⟩
  · refine .inr ⟨g, cap, h1, fun j k n hx => ?_, by omega, (Array.getElem?_eq_some_iff.1 hh).1⟩
    subst h1
    have hat := dayVs_at l j k n hx
    constructor
    · have := h.cells (g := g) rfl (j * 2) _ hat.1
      rwa [add_plain] at this
    · have := h.cells (g := g) rfl (j * 2 + 1) _ hat.2
      rwa [add_plain] at this
/-- The cells of the specification's rule, without a start. -/
def sF (o : Opt) (hu : Bool) (sl : Nat → Value) : Nat → Value
  | 0 => .int .u8 o.freq
  | 1 => .bool false
  | 2 => .int .i64 0
  | 3 => .int .i64 o.interval
  | 4 => .int .i64 o.wk
  | 5 => .int .i64 o.count
  | 6 => .bool hu
  | 7 => .int .i64 o.till
  | k => sl k
structure RuleS (w : World) (N : Nat) (o : Opt) (hu : Bool) (sl : Nat → Value) : Prop where
  row : w.rowIs N 25 18 (sF o hu sl)
  ints : ∀ k, k ≠ 14 → HI w N (sl (k - 1)) (o.l k)
  day : HDy w N (sl 13) o.days
theorem RuleS.ch {w w' : World} {N : Nat} {o : Opt} {hu : Bool} {sl : Nat → Value} (h : RuleS w N o hu sl) (hb : Below w.heap.size w w') : RuleS w' N o hu sl :=
  have hc : Ch (fun i => i = N) w w' := .of_below hb (Nat.le_refl _)
  ⟨below_row h.row hb h.row.lt, fun k hk => (h.ints k hk).ch hc, h.day.ch hc⟩
theorem RuleS.off {w w' : World} {N : Nat} {o : Opt} {hu : Bool} {sl : Nat → Value} (h : RuleS w N o hu sl) (hc : Ch (fun i => i = N + 1) w w') : RuleS w' N o hu sl where
  row := h.row.of_block (hc.block N h.row.lt (by show ¬ N = N + 1; omega))
  ints := fun k hk => by
    rcases h.ints k hk with h | ⟨g, c, h1, h2, h3, h4⟩
    · exact .inl h
    · exact .inr ⟨g, c, h1, h2.keep fun j => hc.cell h4 (by show ¬ g = N + 1; omega), h3, Nat.lt_of_lt_of_le h4 hc.size⟩
  day := by
    rcases h.day with h | ⟨g, c, h1, h2, h3, h4⟩
    · exact .inl h
    · exact .inr ⟨g, c, h1, fun j k n hx => ⟨(hc.cell h4 (by show ¬ g = N + 1; omega)).trans (h2 j k n hx).1, (hc.cell h4 (by show ¬ g = N + 1; omega)).trans (h2 j k n hx).2⟩, h3, Nat.lt_of_lt_of_le h4 hc.size⟩
theorem RuleS.set1 {w : World} {N : Nat} {o o' : Opt} {hu hu' : Bool} {sl : Nat → Value} (h : RuleS w N o hu sl) (i : Nat) (v : Value) (hc : ∀ j, sF o' hu' sl j = if j = i then v else sF o hu sl j) (hl : o'.l = o.l) (hd : o'.days = o.days) : RuleS (w.setCell ⟨N, i, none⟩ v) N o' hu' sl :=
  ⟨(h.row.set i v).congr fun j _ => (hc j).symm, fun k hk => by rw [hl]; exact (h.ints k hk).ch (.set rfl), by rw [hd]; exact h.day.ch (.set rfl)⟩
theorem RuleS.setL {w : World} {N : Nat} {o : Opt} {hu : Bool} {sl : Nat → Value} (h : RuleS w N o hu sl) (i : Nat) (v : Value) (l : List Int) (hi : 8 ≤ i) (hi2 : i ≠ 13) (hv : HI w N v l) : RuleS (w.setCell ⟨N, i, none⟩ v) N (o.putL (i + 1) l) hu (fun j => if j = i then v else sl j) := by
  refine ⟨(h.row.set i v).congr fun j _ => ?_, fun k hk => ?_, ?_⟩
  · by_cases hj : j = i
    · subst hj
      rw [if_pos rfl]
      match j, hi with
      | j + 8, _ => simp [sF]
    · rw [if_neg hj]
      match j with
      | 0 | 1 | 2 | 3 | 4 | 5 | 6 | 7 => rfl
      | j + 8 => have hj2 : j + 8 ≠ i := hj; simp [sF, hj2]
  · by_cases hk2 : k = i + 1
    · subst hk2
      simp only [Opt.putL, if_pos, Nat.add_sub_cancel]
      exact hv.ch (.set rfl)
    · simp only [Opt.putL, if_neg hk2]
      by_cases h0 : k - 1 = i
      · have : k = 0 := by omega
        omega
      · rw [if_neg h0]; exact (h.ints k hk).ch (.set rfl)
  · rw [if_neg (Ne.symm hi2)]; exact h.day.ch (.set rfl)
theorem RuleS.setD {w : World} {N : Nat} {o : Opt} {hu : Bool} {sl : Nat → Value} (h : RuleS w N o hu sl) (v : Value) (l : List (Int × Int)) (hv : HDy w N v l) : RuleS (w.setCell ⟨N, 13, none⟩ v) N { o with days := l } hu (fun j => if j = 13 then v else sl j) := by
  refine ⟨(h.row.set 13 v).congr fun j _ => ?_, fun k hk => ?_, ?_⟩
  · by_cases hj : j = 13
    · subst hj; simp [sF]
    · rw [if_neg hj]
      match j with
      | 0 | 1 | 2 | 3 | 4 | 5 | 6 | 7 => rfl
      | j + 8 => have hj2 : j + 8 ≠ 13 := hj; simp [sF, hj2]
  · rw [if_neg (by omega)]; exact (h.ints k hk).ch (.set rfl)
  · rw [if_pos rfl]; exact hv.ch (.set rfl)
/-- What the specification puts. -/
def Part.hu : Part → Bool → Bool
  | .till _, _ => true
  | _, b => b
/-- A value says a part, to the specification. -/
def Part.sval (v : List UInt8) : Part → Prop
  | .freq i => 0 ≤ i ∧ i ≤ 6 ∧ v = frNames[i.toNat]?.getD []
  | .till t => v = dateL t ∧ 0 ≤ t ∧ t < 315537897600
  | .count n => isNum v n ∧ 0 < n
  | .interval n => isNum v n ∧ 0 < n
  | .wkst d => (0 ≤ d ∧ d ≤ 6) ∧ v = wdNames[d.toNat]?.getD []
  | .days l => v.length ≤ 100000 ∧ (splitL 44 v).length = l.length ∧ ∀ (i : Nat) p d, (splitL 44 v)[i]? = some p → l[i]? = some d → isWd p d
  | .i17 l => v.length ≤ 100000 ∧ (splitL 44 v).length = l.length ∧ ∀ (i : Nat) p n, (splitL 44 v)[i]? = some p → l[i]? = some n → isNum p n
  | .i16 l => v.length ≤ 100000 ∧ (splitL 44 v).length = l.length ∧ ∀ (i : Nat) p n, (splitL 44 v)[i]? = some p → l[i]? = some n → isNum p n
  | .i15 l => v.length ≤ 100000 ∧ (splitL 44 v).length = l.length ∧ ∀ (i : Nat) p n, (splitL 44 v)[i]? = some p → l[i]? = some n → isNum p n
  | .i11 l => v.length ≤ 100000 ∧ (splitL 44 v).length = l.length ∧ ∀ (i : Nat) p n, (splitL 44 v)[i]? = some p → l[i]? = some n → isNum p n
  | .i12 l => v.length ≤ 100000 ∧ (splitL 44 v).length = l.length ∧ ∀ (i : Nat) p n, (splitL 44 v)[i]? = some p → l[i]? = some n → isNum p n
  | .i13 l => v.length ≤ 100000 ∧ (splitL 44 v).length = l.length ∧ ∀ (i : Nat) p n, (splitL 44 v)[i]? = some p → l[i]? = some n → isNum p n
  | .i10 l => v.length ≤ 100000 ∧ (splitL 44 v).length = l.length ∧ ∀ (i : Nat) p n, (splitL 44 v)[i]? = some p → l[i]? = some n → isNum p n
  | .i9 l => v.length ≤ 100000 ∧ (splitL 44 v).length = l.length ∧ ∀ (i : Nat) p n, (splitL 44 v)[i]? = some p → l[i]? = some n → isNum p n
  | .i18 l => v.length ≤ 100000 ∧ (splitL 44 v).length = l.length ∧ ∀ (i : Nat) p n, (splitL 44 v)[i]? = some p → l[i]? = some n → isNum p n
/-- A part was put. -/
def GivesPart (p : Part) (N : Nat) (o : Opt) (hu : Bool) (w : World) (e : Ending) (w' : World) : Prop := ∃ sl', e = .returned (.bool true) ∧ RuleS w' N (p.put o) (p.hu hu) sl' ∧ Ch (fun i => i = N) w w'
theorem idx_fr (k : Int) (h0 : 0 ≤ k) (h1 : k ≤ 6) (g : Nat) (w : World) (hst : StrsAt w g frNames) : Calls Tryz.prog 126 #[.slice (some ⟨g, 0, none⟩) 7 7, .string ⟨(frNames[k.toNat]?.getD []).toArray⟩] w fun e w' => e = .returned (.int .i64 k) ∧ w' = w := by
  have h := Tryz.slices_Index_string g 0 7 7 (frNames.map fun x => (⟨x.toArray⟩ : ByteArray)) ⟨(frNames[k.toNat]?.getD []).toArray⟩ w (by decide) (by omega) (fun j hj => by
    rw [List.length_map] at hj
    rw [Nat.zero_add, hst j _ (List.getElem?_eq_getElem hj), List.getD_eq_getElem?_getD, List.getElem?_map, List.getElem?_eq_getElem hj]
    rfl)
  have hk : k = 0 ∨ k = 1 ∨ k = 2 ∨ k = 3 ∨ k = 4 ∨ k = 5 ∨ k = 6 := by omega
  rcases hk with e | e | e | e | e | e | e <;> subst e <;> exact h
set_option maxRecDepth 100000 in
set_option maxHeartbeats 4000000 in
theorem part_count (n : Int) (v : List UInt8) (N : Nat) (o : Opt) (hu : Bool) (sl : Nat → Value) (w : World) (hv : Part.sval v (.count n)) (hR : RuleS w N o hu sl) (_hB : N + 1 < w.heap.size) :
    Calls Tryz.prog 85 #[.pointer (some ⟨N, 0, none⟩), .string ⟨#[67, 79, 85, 78, 84]⟩, .string ⟨v.toArray⟩] w fun e w' => GivesPart (.count n) N o hu w e w' := by
  obtain ⟨hn, hp⟩ := hv
  have HN := Lib.hid fun W : World => number_any v n W hn
  have HR := Lib.hid hR
  have hold := hR.row.cell (i := 5) (by omega)
  have hfz := hR.row.frozen 5
  have hpb : decide (0 < n) = true := by simp; exact hp
  generalize (⟨v.toArray⟩ : ByteArray) = s at *
  clear hR hn hp
  go_enter Tryz.func85, Tryz.ntmps85
  go_wp2_with fail
  refine (HN.out _).mono ?_; rintro e w2 ⟨rfl, rfl⟩
  go_wp2_with fail
  go_ret
  exact ⟨sl, rfl, HR.out.set1 5 _ (fun j => by match j with | 0 | 1 | 2 | 3 | 4 | 5 | 6 | 7 => rfl | j + 8 => rfl) rfl rfl, .set rfl⟩
set_option maxRecDepth 100000 in
set_option maxHeartbeats 4000000 in
theorem part_interval (n : Int) (v : List UInt8) (N : Nat) (o : Opt) (hu : Bool) (sl : Nat → Value) (w : World) (hv : Part.sval v (.interval n)) (hR : RuleS w N o hu sl) (_hB : N + 1 < w.heap.size) :
    Calls Tryz.prog 85 #[.pointer (some ⟨N, 0, none⟩), .string ⟨#[73, 78, 84, 69, 82, 86, 65, 76]⟩, .string ⟨v.toArray⟩] w fun e w' => GivesPart (.interval n) N o hu w e w' := by
  obtain ⟨hn, hp⟩ := hv
  have HN := Lib.hid fun W : World => number_any v n W hn
  have HR := Lib.hid hR
  have hold := hR.row.cell (i := 3) (by omega)
  have hfz := hR.row.frozen 3
  have hpb : decide (0 < n) = true := by simp; exact hp
  generalize (⟨v.toArray⟩ : ByteArray) = s at *
  clear hR hn hp
  go_enter Tryz.func85, Tryz.ntmps85
  go_wp2_with fail
  refine (HN.out _).mono ?_; rintro e w2 ⟨rfl, rfl⟩
  go_wp2_with fail
  go_ret
  exact ⟨sl, rfl, HR.out.set1 3 _ (fun j => by match j with | 0 | 1 | 2 | 3 | 4 | 5 | 6 | 7 => rfl | j + 8 => rfl) rfl rfl, .set rfl⟩
set_option maxRecDepth 100000 in
set_option maxHeartbeats 4000000 in
theorem part_freq (i : Int) (v : List UInt8) (N : Nat) (o : Opt) (hu : Bool) (sl : Nat → Value) (w : World) (hv : Part.sval v (.freq i)) (hR : RuleS w N o hu sl) (_hB : N + 1 < w.heap.size) :
    Calls Tryz.prog 85 #[.pointer (some ⟨N, 0, none⟩), .string ⟨#[70, 82, 69, 81]⟩, .string ⟨v.toArray⟩] w fun e w' => GivesPart (.freq i) N o hu w e w' := by
  obtain ⟨h0, h6, rfl⟩ := hv
  have HW := Lib.hid fun W : World => (frequencies_any W).mono (R' := fun e w' => ∃ g, e = .returned (.slice (some ⟨g, 0, none⟩) 7 7) ∧ StrsAt w' g frNames ∧ Below W.heap.size W w') fun e w' ⟨he, hw⟩ => ⟨_, he, fun j x hx => by rw [hw]; refine (cell_new rfl).trans ?_; simp [strVs, hx, strV], by rw [hw]; exact below_a1⟩
  have HX := Lib.hid fun (g : Nat) (W : World) (h : StrsAt W g frNames) => idx_fr i h0 h6 g W h
  have HR := Lib.hid hR
  have hge : decide (0 ≤ i) = true := by simp; exact h0
  have hge2 : 0 ≤ i := h0
  have hwr : IntKind.u8.wrap i = i := by simp [IntKind.wrap, IntKind.bits, IntKind.signed]; omega
  generalize (⟨(frNames[i.toNat]?.getD []).toArray⟩ : ByteArray) = s at *
  clear hR h0 h6
  go_enter Tryz.func85, Tryz.ntmps85
  go_wp2_with fail
  refine (HW.out _).mono ?_; rintro e w2 ⟨g, rfl, hst, hb2⟩
  have HR2 := Lib.hid (HR.out.ch hb2)
  have HC2 := Lib.hid (Ch.of_below (X := fun i => i = N) hb2 (Nat.le_refl _))
  have HST := Lib.hid hst
  clear hb2 hst
  go_wp2_with fail
  refine (HX.out _ _ HST.out).mono ?_; rintro e w3 ⟨rfl, hw3⟩
  subst hw3
  have hold := HR2.out.row.cell (i := 0) (by omega)
  have hfz := HR2.out.row.frozen 0
  go_wp2_with fail
  go_ret
  exact ⟨sl, rfl, HR2.out.set1 0 _ (fun j => by match j with | 0 | 1 | 2 | 3 | 4 | 5 | 6 | 7 => rfl | j + 8 => rfl) rfl rfl, HC2.out.trans (.set rfl)⟩
set_option maxRecDepth 100000 in
set_option maxHeartbeats 4000000 in
theorem part_wkst (d : Int) (v : List UInt8) (N : Nat) (o : Opt) (hu : Bool) (sl : Nat → Value) (w : World) (hv : Part.sval v (.wkst d)) (hR : RuleS w N o hu sl) (_hB : N + 1 < w.heap.size) :
    Calls Tryz.prog 85 #[.pointer (some ⟨N, 0, none⟩), .string ⟨#[87, 75, 83, 84]⟩, .string ⟨v.toArray⟩] w fun e w' => GivesPart (.wkst d) N o hu w e w' := by
  obtain ⟨⟨h0, h6⟩, rfl⟩ := hv
  obtain ⟨nm, hnm, -⟩ := wd_at2 d h0 h6
  have HW := Lib.hid fun W : World => weekdays_w W
  have HX := Lib.hid fun (g : Nat) (W : World) (h : StrsAt W g wdNames) => idx_wd d h0 h6 nm hnm g W h
  have HR := Lib.hid hR
  have hge : decide (0 ≤ d) = true := by simp; exact h0
  have hge2 : 0 ≤ d := h0
  rw [show wdNames[d.toNat]?.getD [] = nm by rw [hnm]; rfl]
  generalize (⟨nm.toArray⟩ : ByteArray) = s at *
  clear hR h0 h6 hnm
  go_enter Tryz.func85, Tryz.ntmps85
  go_wp2_with fail
  refine (HW.out _).mono ?_; rintro e w2 ⟨g, rfl, hst, -, -, hb2⟩
  have HR2 := Lib.hid (HR.out.ch hb2)
  have HC2 := Lib.hid (Ch.of_below (X := fun i => i = N) hb2 (Nat.le_refl _))
  have HST := Lib.hid hst
  clear hb2 hst
  go_wp2_with fail
  refine (HX.out _ _ HST.out).mono ?_; rintro e w3 ⟨rfl, hw3⟩
  subst hw3
  have hold := HR2.out.row.cell (i := 4) (by omega)
  have hfz := HR2.out.row.frozen 4
  go_wp2_with fail
  go_ret
  exact ⟨sl, rfl, HR2.out.set1 4 _ (fun j => by match j with | 0 | 1 | 2 | 3 | 4 | 5 | 6 | 7 => rfl | j + 8 => rfl) rfl rfl, HC2.out.trans (.set rfl)⟩
set_option maxRecDepth 100000 in
set_option maxHeartbeats 4000000 in
theorem part_till (t : Int) (v : List UInt8) (N : Nat) (o : Opt) (hu : Bool) (sl : Nat → Value) (w : World) (hv : Part.sval v (.till t)) (hR : RuleS w N o hu sl) (_hB : N + 1 < w.heap.size) :
    Calls Tryz.prog 85 #[.pointer (some ⟨N, 0, none⟩), .string ⟨#[85, 78, 84, 73, 76]⟩, .string ⟨v.toArray⟩] w fun e w' => GivesPart (.till t) N o hu w e w' := by
  obtain ⟨rfl, h0, h6⟩ := hv
  have HN := Lib.hid fun W : World => readDate_any t h0 h6 W
  have HR := Lib.hid hR
  generalize (⟨(dateL t).toArray⟩ : ByteArray) = s at *
  clear hR h0 h6
  go_enter Tryz.func85, Tryz.ntmps85
  go_wp2_with fail
  refine (HN.out _).mono ?_; rintro e w2 ⟨rfl, hb2⟩
  have HR2 := Lib.hid (HR.out.ch hb2)
  have HC2 := Lib.hid (Ch.of_below (X := fun i => i = N) hb2 (Nat.le_refl _))
  have hold := HR2.out.row.cell (i := 7) (by omega)
  have hfz := HR2.out.row.frozen 7
  have hold6 := HR2.out.row.cell (i := 6) (by omega)
  have hfz6 := HR2.out.row.frozen 6
  clear hb2
  go_wp2_with fail
  go_ret
  exact ⟨sl, rfl, (HR2.out.set1 (o' := { o with till := t }) (hu' := hu) 7 _ (fun j => by match j with | 0 | 1 | 2 | 3 | 4 | 5 | 6 | 7 => rfl | j + 8 => rfl) rfl rfl).set1 6 _ (fun j => by match j with | 0 | 1 | 2 | 3 | 4 | 5 | 6 | 7 => rfl | j + 8 => rfl) rfl rfl, (HC2.out.trans (.set rfl)).trans (.set rfl)⟩
set_option maxRecDepth 100000 in
set_option maxHeartbeats 4000000 in
theorem part_days (l : List (Int × Int)) (v : List UInt8) (N : Nat) (o : Opt) (hu : Bool) (sl : Nat → Value) (w : World) (hv : Part.sval v (.days l)) (hR : RuleS w N o hu sl) (hB : N + 1 < w.heap.size) :
    Calls Tryz.prog 85 #[.pointer (some ⟨N, 0, none⟩), .string ⟨#[66, 89, 68, 65, 89]⟩, .string ⟨v.toArray⟩] w fun e w' => GivesPart (.days l) N o hu w e w' := by
  obtain ⟨h1, h2, h3⟩ := hv
  have HN := Lib.hid fun W : World => sweekdays_any v _ l W (by omega) rfl h2 h3
  have HR := Lib.hid hR
  generalize (⟨v.toArray⟩ : ByteArray) = s at *
  clear hR h1 h2 h3
  go_enter Tryz.func85, Tryz.ntmps85
  go_wp2_with fail
  refine (HN.out _).mono ?_; rintro e w2 ⟨u, rfl, hown, hb2⟩
  obtain ⟨q, c, rfl, -⟩ := own_slice hown
  have HR2 := Lib.hid (HR.out.ch hb2)
  have HC2 := Lib.hid (Ch.of_below (X := fun i => i = N) hb2 (Nat.le_refl _))
  have HV := Lib.hid (hd_of_own hown hB)
  have hold := HR2.out.row.cell (i := 13) (by omega)
  have hfz := HR2.out.row.frozen 13
  clear hb2 hown
  go_wp2_with fail
  go_ret
  exact ⟨_, rfl, HR2.out.setD _ l HV.out, HC2.out.trans (.set rfl)⟩
set_option maxRecDepth 100000 in
set_option maxHeartbeats 4000000 in
theorem part_i17 (l : List Int) (v : List UInt8) (N : Nat) (o : Opt) (hu : Bool) (sl : Nat → Value) (w : World) (hv : Part.sval v (.i17 l)) (hR : RuleS w N o hu sl) (hB : N + 1 < w.heap.size) :
    Calls Tryz.prog 85 #[.pointer (some ⟨N, 0, none⟩), .string ⟨#[66, 89, 83, 69, 67, 79, 78, 68]⟩, .string ⟨v.toArray⟩] w fun e w' => GivesPart (.i17 l) N o hu w e w' := by
  obtain ⟨h1, h2, h3⟩ := hv
  have HN := Lib.hid fun W : World => numbers_any v _ l W (by omega) rfl h2 h3
  have HR := Lib.hid hR
  generalize (⟨v.toArray⟩ : ByteArray) = s at *
  clear hR h1 h2 h3
  go_enter Tryz.func85, Tryz.ntmps85
  go_wp2_with fail
  refine (HN.out _).mono ?_; rintro e w2 ⟨u, rfl, hown, hb2⟩
  obtain ⟨q, c, rfl, -⟩ := own_slice hown
  have HR2 := Lib.hid (HR.out.ch hb2)
  have HC2 := Lib.hid (Ch.of_below (X := fun i => i = N) hb2 (Nat.le_refl _))
  have HV := Lib.hid (hi_of_own hown hB)
  have hold := HR2.out.row.cell (i := 16) (by omega)
  have hfz := HR2.out.row.frozen 16
  clear hb2 hown
  go_wp2_with fail
  go_ret
  exact ⟨_, rfl, HR2.out.setL 16 _ l (by decide) (by decide) HV.out, HC2.out.trans (.set rfl)⟩
set_option maxRecDepth 100000 in
set_option maxHeartbeats 4000000 in
theorem part_i16 (l : List Int) (v : List UInt8) (N : Nat) (o : Opt) (hu : Bool) (sl : Nat → Value) (w : World) (hv : Part.sval v (.i16 l)) (hR : RuleS w N o hu sl) (hB : N + 1 < w.heap.size) :
    Calls Tryz.prog 85 #[.pointer (some ⟨N, 0, none⟩), .string ⟨#[66, 89, 77, 73, 78, 85, 84, 69]⟩, .string ⟨v.toArray⟩] w fun e w' => GivesPart (.i16 l) N o hu w e w' := by
  obtain ⟨h1, h2, h3⟩ := hv
  have HN := Lib.hid fun W : World => numbers_any v _ l W (by omega) rfl h2 h3
  have HR := Lib.hid hR
  generalize (⟨v.toArray⟩ : ByteArray) = s at *
  clear hR h1 h2 h3
  go_enter Tryz.func85, Tryz.ntmps85
  go_wp2_with fail
  refine (HN.out _).mono ?_; rintro e w2 ⟨u, rfl, hown, hb2⟩
  obtain ⟨q, c, rfl, -⟩ := own_slice hown
  have HR2 := Lib.hid (HR.out.ch hb2)
  have HC2 := Lib.hid (Ch.of_below (X := fun i => i = N) hb2 (Nat.le_refl _))
  have HV := Lib.hid (hi_of_own hown hB)
  have hold := HR2.out.row.cell (i := 15) (by omega)
  have hfz := HR2.out.row.frozen 15
  clear hb2 hown
  go_wp2_with fail
  go_ret
  exact ⟨_, rfl, HR2.out.setL 15 _ l (by decide) (by decide) HV.out, HC2.out.trans (.set rfl)⟩
set_option maxRecDepth 100000 in
set_option maxHeartbeats 4000000 in
theorem part_i15 (l : List Int) (v : List UInt8) (N : Nat) (o : Opt) (hu : Bool) (sl : Nat → Value) (w : World) (hv : Part.sval v (.i15 l)) (hR : RuleS w N o hu sl) (hB : N + 1 < w.heap.size) :
    Calls Tryz.prog 85 #[.pointer (some ⟨N, 0, none⟩), .string ⟨#[66, 89, 72, 79, 85, 82]⟩, .string ⟨v.toArray⟩] w fun e w' => GivesPart (.i15 l) N o hu w e w' := by
  obtain ⟨h1, h2, h3⟩ := hv
  have HN := Lib.hid fun W : World => numbers_any v _ l W (by omega) rfl h2 h3
  have HR := Lib.hid hR
  generalize (⟨v.toArray⟩ : ByteArray) = s at *
  clear hR h1 h2 h3
  go_enter Tryz.func85, Tryz.ntmps85
  go_wp2_with fail
  refine (HN.out _).mono ?_; rintro e w2 ⟨u, rfl, hown, hb2⟩
  obtain ⟨q, c, rfl, -⟩ := own_slice hown
  have HR2 := Lib.hid (HR.out.ch hb2)
  have HC2 := Lib.hid (Ch.of_below (X := fun i => i = N) hb2 (Nat.le_refl _))
  have HV := Lib.hid (hi_of_own hown hB)
  have hold := HR2.out.row.cell (i := 14) (by omega)
  have hfz := HR2.out.row.frozen 14
  clear hb2 hown
  go_wp2_with fail
  go_ret
  exact ⟨_, rfl, HR2.out.setL 14 _ l (by decide) (by decide) HV.out, HC2.out.trans (.set rfl)⟩
set_option maxRecDepth 100000 in
set_option maxHeartbeats 4000000 in
theorem part_i11 (l : List Int) (v : List UInt8) (N : Nat) (o : Opt) (hu : Bool) (sl : Nat → Value) (w : World) (hv : Part.sval v (.i11 l)) (hR : RuleS w N o hu sl) (hB : N + 1 < w.heap.size) :
    Calls Tryz.prog 85 #[.pointer (some ⟨N, 0, none⟩), .string ⟨#[66, 89, 77, 79, 78, 84, 72, 68, 65, 89]⟩, .string ⟨v.toArray⟩] w fun e w' => GivesPart (.i11 l) N o hu w e w' := by
  obtain ⟨h1, h2, h3⟩ := hv
  have HN := Lib.hid fun W : World => numbers_any v _ l W (by omega) rfl h2 h3
  have HR := Lib.hid hR
  generalize (⟨v.toArray⟩ : ByteArray) = s at *
  clear hR h1 h2 h3
  go_enter Tryz.func85, Tryz.ntmps85
  go_wp2_with fail
  refine (HN.out _).mono ?_; rintro e w2 ⟨u, rfl, hown, hb2⟩
  obtain ⟨q, c, rfl, -⟩ := own_slice hown
  have HR2 := Lib.hid (HR.out.ch hb2)
  have HC2 := Lib.hid (Ch.of_below (X := fun i => i = N) hb2 (Nat.le_refl _))
  have HV := Lib.hid (hi_of_own hown hB)
  have hold := HR2.out.row.cell (i := 10) (by omega)
  have hfz := HR2.out.row.frozen 10
  clear hb2 hown
  go_wp2_with fail
  go_ret
  exact ⟨_, rfl, HR2.out.setL 10 _ l (by decide) (by decide) HV.out, HC2.out.trans (.set rfl)⟩
set_option maxRecDepth 100000 in
set_option maxHeartbeats 4000000 in
theorem part_i12 (l : List Int) (v : List UInt8) (N : Nat) (o : Opt) (hu : Bool) (sl : Nat → Value) (w : World) (hv : Part.sval v (.i12 l)) (hR : RuleS w N o hu sl) (hB : N + 1 < w.heap.size) :
    Calls Tryz.prog 85 #[.pointer (some ⟨N, 0, none⟩), .string ⟨#[66, 89, 89, 69, 65, 82, 68, 65, 89]⟩, .string ⟨v.toArray⟩] w fun e w' => GivesPart (.i12 l) N o hu w e w' := by
  obtain ⟨h1, h2, h3⟩ := hv
  have HN := Lib.hid fun W : World => numbers_any v _ l W (by omega) rfl h2 h3
  have HR := Lib.hid hR
  generalize (⟨v.toArray⟩ : ByteArray) = s at *
  clear hR h1 h2 h3
  go_enter Tryz.func85, Tryz.ntmps85
  go_wp2_with fail
  refine (HN.out _).mono ?_; rintro e w2 ⟨u, rfl, hown, hb2⟩
  obtain ⟨q, c, rfl, -⟩ := own_slice hown
  have HR2 := Lib.hid (HR.out.ch hb2)
  have HC2 := Lib.hid (Ch.of_below (X := fun i => i = N) hb2 (Nat.le_refl _))
  have HV := Lib.hid (hi_of_own hown hB)
  have hold := HR2.out.row.cell (i := 11) (by omega)
  have hfz := HR2.out.row.frozen 11
  clear hb2 hown
  go_wp2_with fail
  go_ret
  exact ⟨_, rfl, HR2.out.setL 11 _ l (by decide) (by decide) HV.out, HC2.out.trans (.set rfl)⟩
set_option maxRecDepth 100000 in
set_option maxHeartbeats 4000000 in
theorem part_i13 (l : List Int) (v : List UInt8) (N : Nat) (o : Opt) (hu : Bool) (sl : Nat → Value) (w : World) (hv : Part.sval v (.i13 l)) (hR : RuleS w N o hu sl) (hB : N + 1 < w.heap.size) :
    Calls Tryz.prog 85 #[.pointer (some ⟨N, 0, none⟩), .string ⟨#[66, 89, 87, 69, 69, 75, 78, 79]⟩, .string ⟨v.toArray⟩] w fun e w' => GivesPart (.i13 l) N o hu w e w' := by
  obtain ⟨h1, h2, h3⟩ := hv
  have HN := Lib.hid fun W : World => numbers_any v _ l W (by omega) rfl h2 h3
  have HR := Lib.hid hR
  generalize (⟨v.toArray⟩ : ByteArray) = s at *
  clear hR h1 h2 h3
  go_enter Tryz.func85, Tryz.ntmps85
  go_wp2_with fail
  refine (HN.out _).mono ?_; rintro e w2 ⟨u, rfl, hown, hb2⟩
  obtain ⟨q, c, rfl, -⟩ := own_slice hown
  have HR2 := Lib.hid (HR.out.ch hb2)
  have HC2 := Lib.hid (Ch.of_below (X := fun i => i = N) hb2 (Nat.le_refl _))
  have HV := Lib.hid (hi_of_own hown hB)
  have hold := HR2.out.row.cell (i := 12) (by omega)
  have hfz := HR2.out.row.frozen 12
  clear hb2 hown
  go_wp2_with fail
  go_ret
  exact ⟨_, rfl, HR2.out.setL 12 _ l (by decide) (by decide) HV.out, HC2.out.trans (.set rfl)⟩
set_option maxRecDepth 100000 in
set_option maxHeartbeats 4000000 in
theorem part_i10 (l : List Int) (v : List UInt8) (N : Nat) (o : Opt) (hu : Bool) (sl : Nat → Value) (w : World) (hv : Part.sval v (.i10 l)) (hR : RuleS w N o hu sl) (hB : N + 1 < w.heap.size) :
    Calls Tryz.prog 85 #[.pointer (some ⟨N, 0, none⟩), .string ⟨#[66, 89, 77, 79, 78, 84, 72]⟩, .string ⟨v.toArray⟩] w fun e w' => GivesPart (.i10 l) N o hu w e w' := by
  obtain ⟨h1, h2, h3⟩ := hv
  have HN := Lib.hid fun W : World => numbers_any v _ l W (by omega) rfl h2 h3
  have HR := Lib.hid hR
  generalize (⟨v.toArray⟩ : ByteArray) = s at *
  clear hR h1 h2 h3
  go_enter Tryz.func85, Tryz.ntmps85
  go_wp2_with fail
  refine (HN.out _).mono ?_; rintro e w2 ⟨u, rfl, hown, hb2⟩
  obtain ⟨q, c, rfl, -⟩ := own_slice hown
  have HR2 := Lib.hid (HR.out.ch hb2)
  have HC2 := Lib.hid (Ch.of_below (X := fun i => i = N) hb2 (Nat.le_refl _))
  have HV := Lib.hid (hi_of_own hown hB)
  have hold := HR2.out.row.cell (i := 9) (by omega)
  have hfz := HR2.out.row.frozen 9
  clear hb2 hown
  go_wp2_with fail
  go_ret
  exact ⟨_, rfl, HR2.out.setL 9 _ l (by decide) (by decide) HV.out, HC2.out.trans (.set rfl)⟩
set_option maxRecDepth 100000 in
set_option maxHeartbeats 4000000 in
theorem part_i9 (l : List Int) (v : List UInt8) (N : Nat) (o : Opt) (hu : Bool) (sl : Nat → Value) (w : World) (hv : Part.sval v (.i9 l)) (hR : RuleS w N o hu sl) (hB : N + 1 < w.heap.size) :
    Calls Tryz.prog 85 #[.pointer (some ⟨N, 0, none⟩), .string ⟨#[66, 89, 83, 69, 84, 80, 79, 83]⟩, .string ⟨v.toArray⟩] w fun e w' => GivesPart (.i9 l) N o hu w e w' := by
  obtain ⟨h1, h2, h3⟩ := hv
  have HN := Lib.hid fun W : World => numbers_any v _ l W (by omega) rfl h2 h3
  have HR := Lib.hid hR
  generalize (⟨v.toArray⟩ : ByteArray) = s at *
  clear hR h1 h2 h3
  go_enter Tryz.func85, Tryz.ntmps85
  go_wp2_with fail
  refine (HN.out _).mono ?_; rintro e w2 ⟨u, rfl, hown, hb2⟩
  obtain ⟨q, c, rfl, -⟩ := own_slice hown
  have HR2 := Lib.hid (HR.out.ch hb2)
  have HC2 := Lib.hid (Ch.of_below (X := fun i => i = N) hb2 (Nat.le_refl _))
  have HV := Lib.hid (hi_of_own hown hB)
  have hold := HR2.out.row.cell (i := 8) (by omega)
  have hfz := HR2.out.row.frozen 8
  clear hb2 hown
  go_wp2_with fail
  go_ret
  exact ⟨_, rfl, HR2.out.setL 8 _ l (by decide) (by decide) HV.out, HC2.out.trans (.set rfl)⟩
set_option maxRecDepth 100000 in
set_option maxHeartbeats 4000000 in
theorem part_i18 (l : List Int) (v : List UInt8) (N : Nat) (o : Opt) (hu : Bool) (sl : Nat → Value) (w : World) (hv : Part.sval v (.i18 l)) (hR : RuleS w N o hu sl) (hB : N + 1 < w.heap.size) :
    Calls Tryz.prog 85 #[.pointer (some ⟨N, 0, none⟩), .string ⟨#[66, 89, 69, 65, 83, 84, 69, 82]⟩, .string ⟨v.toArray⟩] w fun e w' => GivesPart (.i18 l) N o hu w e w' := by
  obtain ⟨h1, h2, h3⟩ := hv
  have HN := Lib.hid fun W : World => numbers_any v _ l W (by omega) rfl h2 h3
  have HR := Lib.hid hR
  generalize (⟨v.toArray⟩ : ByteArray) = s at *
  clear hR h1 h2 h3
  go_enter Tryz.func85, Tryz.ntmps85
  go_wp2_with fail
  refine (HN.out _).mono ?_; rintro e w2 ⟨u, rfl, hown, hb2⟩
  obtain ⟨q, c, rfl, -⟩ := own_slice hown
  have HR2 := Lib.hid (HR.out.ch hb2)
  have HC2 := Lib.hid (Ch.of_below (X := fun i => i = N) hb2 (Nat.le_refl _))
  have HV := Lib.hid (hi_of_own hown hB)
  have hold := HR2.out.row.cell (i := 17) (by omega)
  have hfz := HR2.out.row.frozen 17
  clear hb2 hown
  go_wp2_with fail
  go_ret
  exact ⟨_, rfl, HR2.out.setL 17 _ l (by decide) (by decide) HV.out, HC2.out.trans (.set rfl)⟩
theorem part_any (p : Part) (v : List UInt8) (N : Nat) (o : Opt) (hu : Bool) (sl : Nat → Value) (w : World) (hv : p.sval v) (hR : RuleS w N o hu sl) (hB : N + 1 < w.heap.size) :
    Calls Tryz.prog 85 #[.pointer (some ⟨N, 0, none⟩), .string ⟨p.name.toArray⟩, .string ⟨v.toArray⟩] w fun e w' => GivesPart p N o hu w e w' := by
  cases p with
  | freq i => exact part_freq i v N o hu sl w hv hR hB
  | till t => exact part_till t v N o hu sl w hv hR hB
  | count n => exact part_count n v N o hu sl w hv hR hB
  | interval n => exact part_interval n v N o hu sl w hv hR hB
  | wkst d => exact part_wkst d v N o hu sl w hv hR hB
  | days l => exact part_days l v N o hu sl w hv hR hB
  | i17 l => exact part_i17 l v N o hu sl w hv hR hB
  | i16 l => exact part_i16 l v N o hu sl w hv hR hB
  | i15 l => exact part_i15 l v N o hu sl w hv hR hB
  | i11 l => exact part_i11 l v N o hu sl w hv hR hB
  | i12 l => exact part_i12 l v N o hu sl w hv hR hB
  | i13 l => exact part_i13 l v N o hu sl w hv hR hB
  | i10 l => exact part_i10 l v N o hu sl w hv hR hB
  | i9 l => exact part_i9 l v N o hu sl w hv hR hB
  | i18 l => exact part_i18 l v N o hu sl w hv hR hB
end Go.Proofs.YtnlpjncljbaapaaGreatDoor
