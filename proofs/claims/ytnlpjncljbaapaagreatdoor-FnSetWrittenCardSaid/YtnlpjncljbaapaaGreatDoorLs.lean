/- What the lines of a set say. -/
import Derived.Test.YtnlpjncljbaapaaGreatDoorRp
import Derived.Test.YtnlpjncljbaapaaGreatDoorMt3
namespace Go.Proofs.YtnlpjncljbaapaaGreatDoor
open Go.RowKit

/-- The function answers with an error. -/
def GivesErr (w : World) (e : Ending) (w' : World) : Prop := (∃ p, e = .returned (.tuple #[.pointer none, .iface 175 (.pointer (some p))])) ∧ Below w.heap.size w w'

def neverL : List UInt8 := [70, 82, 69, 81, 61, 78, 69, 86, 69, 82]
theorem never_split59 : splitL 59 (⟨neverL.toArray⟩ : ByteArray).data.toList = [neverL] := splitL_one (by decide)
theorem never_split61 : splitL 61 (⟨neverL.toArray⟩ : ByteArray).data.toList = [[70, 82, 69, 81], [78, 69, 86, 69, 82]] := by
  show splitL 61 ([70, 82, 69, 81] ++ 61 :: [78, 69, 86, 69, 82]) = _
  rw [splitL_app (by decide), splitL_one (by decide)]
theorem never_look : lookL ⟨#[78, 69, 86, 69, 82]⟩ freqKV = none := by decide
theorem never_clean : Clean neverL := ⟨by unfold ascii; decide, by decide, by decide⟩

set_option maxRecDepth 100000 in
set_option maxHeartbeats 8000000 in
theorem opt_never (w : World) (hG : Glob w) : Calls Tryz.prog 93 #[.string ⟨neverL.toArray⟩, .agg #[]] w fun e w' => GivesErr w e w' := by
  have HT := Lib.hid fun W (hG : Glob W) => trim_any neverL W hG never_clean (by decide)
  have S := fun W : World => zzSplit_any ⟨neverL.toArray⟩ 10 W (by rw [Lib.size_eq]; decide)
  rw [show splitL 10 (⟨neverL.toArray⟩ : ByteArray).data.toList = [neverL] from splitL_one (by decide)] at S
  have HS := Lib.hid S
  have HP := Lib.hid fun W : World => trimPrefix_any neverL W (by decide)
  have S2 := fun W : World => zzSplit_any ⟨neverL.toArray⟩ 59 W (by rw [Lib.size_eq]; decide)
  rw [never_split59] at S2
  have HS2 := Lib.hid S2
  have S3 := fun W : World => zzSplit_any ⟨neverL.toArray⟩ 61 W (by rw [Lib.size_eq]; decide)
  rw [never_split61] at S3
  have HS3 := Lib.hid S3
  have HC := Lib.hid fun W : World => strToFreq_no ⟨#[78, 69, 86, 69, 82]⟩ W (by decide) never_look
  have HGl := Lib.hid hG
  clear S S2 S3 hG
  generalize neverL = text at *
  go_enter Tryz.func93, Tryz.ntmps93
  go_wp2_with fail
  refine (HT.out _ (HGl.out.on (by exact below_a1))).mono ?_; rintro e w1 ⟨rfl, hb1⟩
  have hb2 : Below w.heap.size w w1 := below_a1.trans (hb1.mono (B' := w.heap.size) (by simp))
  have hz2 := hb2.size
  clear hb1
  go_wp2_with fail
  refine (HS.out _).mono ?_; rintro e w2 ⟨g, cap, rfl, hcap, hst, hg1, hg2, hb⟩
  have hc : w2.cell? ⟨g, 0, none⟩ = some (.string ⟨text.toArray⟩) := hst 0 _ rfl
  have hb3 : Below w.heap.size w w2 := hb2.trans (hb.mono (B' := w.heap.size) hz2)
  have hz3 := hb3.size
  have HB := Lib.hid hb3
  clear hst hb hb2 hb3
  go_wp2_with ((with_reducible refine gd_st 122 ?_); refine wpl_store_new rfl 122 _ _ rfl opt0 opt0 (by rfl) (by rfl) info122s rfl opt0_one ?_)
  refine (HP.out _).mono ?_; rintro e w3 ⟨rfl, rfl⟩
  have hrow := World.rowIs_alloc w2 opt0 122 (optCell {} fun _ => .slice none 0 0) opt0_cells
  have hb5 : Below w.heap.size w (w2.alloc (.cells opt0 122)) := HB.out.alloc hz3 _
  have HB5 := Lib.hid hb5
  have hz5 : w2.heap.size < (w2.alloc (.cells opt0 122)).heap.size := by simp
  have HR := Lib.hid hrow
  have hg2' : w.heap.size ≤ w2.heap.size := hz3
  clear hc hb5 hg1 hg2 hrow HB HP HT HS
  generalize w2.heap.size = G at *
  generalize w2.alloc (.cells opt0 122) = w5 at *
  go_wp2_with fail
  refine (HS2.out _).mono ?_; rintro e w4 ⟨g2, cap2, rfl, hcap2, hst2, hg3, hg4, hb4⟩
  have HR4 := Lib.hid (below_row HR.out hb4 HR.out.lt)
  have hc2 := hst2 0 _ rfl
  have HB6 := Lib.hid (HB5.out.trans (hb4.mono (B' := w.heap.size) (by omega)))
  clear hst2 hb4 HR HB5 hg3 HS2
  go_wp2_with fail
  go_loopw [10, 72] (fun b v wr => v = .int .i64 0 ∧ b = .bool false ∧ wr = w4) (fun _ v _ => 0)
  case atStart => exact ⟨rfl, rfl, rfl⟩
  case round =>
    obtain ⟨rfl, rfl, rfl⟩ := hrel
    go_wp2_with fail
    refine (HS3.out _).mono ?_; rintro e w6 ⟨g3, cap3, rfl, hcap3, hst3, hg5, hg6, hb6⟩
    have hn0 := hst3 0 _ rfl
    have hn1 := hst3 1 _ rfl
    have HR6 := Lib.hid (below_row HR4.out hb6 HR4.out.lt)
    have HB7 := Lib.hid (HB6.out.trans (hb6.mono (B' := w.heap.size) HB6.out.size))
    clear hst3 HR4 HB6 HS3 hg5 hb6
    have hi0 : (0 : Int) < ((2 : Nat) : Int) := by decide
    have hi1 : (1 : Int) < ((2 : Nat) : Int) := by decide
    go_wp2_with fail
    go_quiet (fail)
    go_wp2_with fail
    refine (HC.out _).mono ?_; rintro e w7 ⟨⟨p, rfl⟩, hb7⟩
    have hb7 : Below w6.heap.size w6 w7 := (pw_drewN (Below.refl _ w6) _).trans (hb7.mono (by simp))
    have hr7 := below_row HR6.out hb7 HR6.out.lt
    have HB8 := Lib.hid (HB7.out.trans (hb7.mono (B' := w.heap.size) HB7.out.size))
    have hk0 := hr7.cell (i := 0) (by decide)
    have hf0 := hr7.frozen 0
    clear HR6 HB7 hb7 hn0 hn1
    go_wp2_with fail
    go_ret2
    exact ⟨⟨_, rfl⟩, HB8.out.setCell hg2' _⟩
end Go.Proofs.YtnlpjncljbaapaaGreatDoor

namespace Go.Proofs.YtnlpjncljbaapaaGreatDoor
open Go.RowKit

/-- Options that are in bounds. -/
structure OptGood (o : Opt) : Prop where
  fr : 0 ≤ o.freq ∧ o.freq ≤ 6
  len : ∀ k, (o.l k).length ≤ 1000
  dlen : o.days.length ≤ 1000
  prod : max 1 (o.l 15).length * max 1 (o.l 16).length * max 1 (o.l 17).length ≤ 1000
  bd : ∀ k, k < 8 → ∀ x ∈ o.l (bCell k), inB x (bLo k) (bHi k) (bPm k)
  dbd : ∀ d ∈ o.days, -53 ≤ d.2 ∧ d.2 ≤ 53
  iv : 0 ≤ o.interval
def slP : Value → Option Addr
  | .slice p _ _ => p
  | _ => none
def slC : Value → Nat
  | .slice _ _ c => c
  | _ => 0
/-- The cells of options, with a start. -/
def optG (o : Opt) (t : Int) (sl : Nat → Value) : Nat → Value := optF o.freq t 0 o.interval o.wk 0 o.count o.till 0 (fun k => slP (sl k)) (fun k => if k = 14 then o.days.length else (o.l k).length) (fun k => slC (sl k))
theorem holdsI_row {w : World} {G : Nat} {v : Value} {l : List Int} (h : HoldsI w G v l) : RowI w (slP v) l.length l ∧ v = .slice (slP v) l.length (slC v) ∧ ∀ g, slP v = some ⟨g, 0, none⟩ → G < g := by
  rcases h with ⟨rfl, rfl⟩ | ⟨g, rfl, hi, hg, hz⟩
  · exact ⟨⟨rfl, fun i x hx => by simp at hx⟩, rfl, fun g h => by cases h⟩
  · exact ⟨⟨rfl, fun i x hx => ⟨g, rfl, hz, hi i x hx⟩⟩, rfl, fun g' h => by injection h with h; injection h with h; omega⟩
theorem holdsD_row {w : World} {G : Nat} {v : Value} {l : List (Int × Int)} (h : HoldsD w G v l) : RowD w (slP v) l.length l ∧ v = .slice (slP v) l.length (slC v) ∧ ∀ g, slP v = some ⟨g, 0, none⟩ → G < g := by
  rcases h with ⟨rfl, rfl⟩ | ⟨g, rfl, hi, hg, hz⟩
  · exact ⟨⟨rfl, fun i k n hx => by simp at hx⟩, rfl, fun g h => by cases h⟩
  · exact ⟨⟨rfl, fun i k n hx => ⟨g, rfl, hz, (hi i k n hx).1, (hi i k n hx).2⟩⟩, rfl, fun g' h => by injection h with h; injection h with h; omega⟩
theorem OptAt.cells {w : World} {G : Nat} {o : Opt} {sl : Nat → Value} (h : OptAt w G o sl) (k : Nat) : optCell o sl k = optG o 0 sl k := by
  match k with
  | 0 | 1 | 2 | 3 | 4 | 5 | 6 | 7 | 8 => rfl
  | k + 9 =>
    show sl (k + 9) = .slice (slP (sl (k + 9))) (if k + 9 = 14 then o.days.length else (o.l (k + 9)).length) (slC (sl (k + 9)))
    by_cases hk : k + 9 = 14
    · rw [if_pos hk, hk]; exact (holdsD_row h.day).2.1
    · rw [if_neg hk]; exact (holdsI_row (h.ints _ hk)).2.1
/-- Options' lists lie in rows outside of some blocks. -/
def OptRows (w : World) (o : Opt) (sl : Nat → Value) : Prop := (∀ k, 9 ≤ k → k < 19 → k ≠ 14 → RowI w (slP (sl k)) (o.l k).length (o.l k)) ∧ RowD w (slP (sl 14)) o.days.length o.days
theorem OptAt.rows {w : World} {G : Nat} {o : Opt} {sl : Nat → Value} (h : OptAt w G o sl) : OptRows w o sl := ⟨fun k _ _ h3 => (holdsI_row (h.ints k h3)).1, (holdsD_row h.day).1⟩
theorem OptRows.below {w w' : World} {o : Opt} {sl : Nat → Value} (h : OptRows w o sl) (hb : Below w.heap.size w w') : OptRows w' o sl := ⟨fun k h1 h2 h3 => (h.1 k h1 h2 h3).below hb, h.2.below hb⟩
theorem OptRows.ok {w : World} {o : Opt} {sl : Nat → Value} {t : Int} (h : OptRows w o sl) (hg : OptGood o) (ht : 0 ≤ t ∧ t < 315537897600) :
    OptOk w o.freq t o.interval o.wk 0 o.count o.till 0 (fun k => slP (sl k)) (fun k => if k = 14 then o.days.length else (o.l k).length) (fun k => slC (sl k)) o.l o.days where
  row k h1 h2 h3 := by rw [if_neg h3]; exact h.1 k h1 h2 h3
  day := by rw [if_pos rfl]; exact h.2
  fr := hg.fr
  t := ht
  len := hg.len
  dlen := hg.dlen
  prod := hg.prod
  bd := hg.bd
  dbd := hg.dbd
  iv := hg.iv
/-- No list of the options lies in this block. -/
def SlOff (sl : Nat → Value) (G : Nat) : Prop := ∀ k, 9 ≤ k → k < 19 → ∀ g, slP (sl k) = some ⟨g, 0, none⟩ → g ≠ G
theorem OptAt.off {w : World} {G G' : Nat} {o : Opt} {sl : Nat → Value} (h : OptAt w G o sl) (hG : G' ≤ G) : SlOff sl G' := fun k _ _ g hg => by
  by_cases hk : k = 14
  · subst hk; have := (holdsD_row h.day).2.2 g hg; omega
  · have := (holdsI_row (h.ints k hk)).2.2 g hg; omega

/-- What a line may say. -/
inductive Item where
  | rule (o : Opt)
  | dates (r : Bool) (ts : List Int)
  | bad
/-- A line has a name and a rest. -/
structure Named (s name r : ByteArray) : Prop where
  call : ∀ W, Glob W → Calls Tryz.prog 96 #[.string s] W fun e w' => e = .returned (.tuple #[.string name, .nilIface]) ∧ Below W.heap.size W w'
  size : name.size + 1 ≤ s.size
  top : s.size ≤ 1000000
  ext : s.extract (name.size + 1) s.size = r
def ruleB : ByteArray := ⟨#[82, 82, 85, 76, 69]⟩
def rdateB : ByteArray := ⟨#[82, 68, 65, 84, 69]⟩
def exdateB : ByteArray := ⟨#[69, 88, 68, 65, 84, 69]⟩
def dateB (r : Bool) : ByteArray := bif r then rdateB else exdateB
def LineIs (s : ByteArray) : Item → Prop
  | .rule o => OptGood o ∧ ∃ r, Named s ruleB r ∧ ∀ W, Glob W → Calls Tryz.prog 93 #[.string r, .agg #[]] W fun e w' => GivesOpt o W e w'
  | .dates b ts => ts.length ≤ 1000 ∧ ∃ r, Named s (dateB b) r ∧ ∀ W, Calls Tryz.prog 99 #[.string r, .agg #[]] W fun e w' => GivesTimes ts W e w'
  | .bad => (∀ W, Glob W → Calls Tryz.prog 96 #[.string s] W fun e w' => GivesNoStr W e w') ∨ (∃ r, Named s ruleB r ∧ ∀ W, Glob W → Calls Tryz.prog 93 #[.string r, .agg #[]] W fun e w' => GivesErr W e w') ∨
    (∃ b r, Named s (dateB b) r ∧ ∀ W, Calls Tryz.prog 99 #[.string r, .agg #[]] W fun e w' => GivesNoTimes W e w')
/-- The options' lists lie below this block. -/
def SlUnder (sl : Nat → Value) (M : Nat) : Prop := ∀ k, 9 ≤ k → k < 19 → ∀ g, slP (sl k) = some ⟨g, 0, none⟩ → g < M
/-- A set's rule; it lies off the blocks of D. -/
def RuleHas (w : World) (S : Nat) (D : Nat → Prop) (t : Int) (rp : Value) : Option Opt → Prop
  | none => rp = .pointer none
  | some o => ∃ G sl, rp = .pointer (some ⟨G, 0, none⟩) ∧ G ≠ S ∧ RuleAt w G (optG o t sl) (startOf t) ∧ OptRows w o sl ∧ (∀ X, X ≤ S → SlOff sl X) ∧ SlOff sl G ∧ SlUnder sl w.heap.size ∧ ∀ i, D i → i ≠ G ∧ SlOff sl i
/-- The blocks of two values. -/
def own2 (u v : Value) (i : Nat) : Prop := u.ownBlock = some i ∨ v.ownBlock = some i
structure SetAt (w : World) (S B : Nat) (t : Int) (rule : Option Opt) (rds exs : List Int) (rp rd ex : Value) : Prop where
  row : w.rowIs S 132 5 (setF t rp rd ex)
  rule : RuleHas w S (own2 rd ex) t rp rule
  rds : w.ownsRow B 109 2 rd rds.length (timeVs rds)
  exs : w.ownsRow B 109 2 ex exs.length (timeVs exs)
  apart : ∀ g, rd.ownBlock = some g → ex.ownBlock ≠ some g
  below : S < B
  high : B ≤ w.heap.size
theorem OptRows.chX {w w' : World} {o : Opt} {sl : Nat → Value} {X : Nat → Prop} (hr : OptRows w o sl) (hch : Ch X w w') (hX : ∀ i, X i → SlOff sl i) : OptRows w' o sl := by
  refine ⟨fun k a b c => ⟨(hr.1 k a b c).1, fun i x hx => ?_⟩, (hr.2).1, fun i k n hx => ?_⟩
  · obtain ⟨g, e, hg, hc⟩ := (hr.1 k a b c).2 i x hx
    exact ⟨g, e, Nat.lt_of_lt_of_le hg hch.size, (hch.cell hg (fun h => hX g h k a b _ e rfl)).trans hc⟩
  · obtain ⟨g, e, hg, hc, hc2⟩ := hr.2.2 i k n hx
    have hx : ¬ X g := fun h => hX g h 14 (by decide) (by decide) _ e rfl
    exact ⟨g, e, Nat.lt_of_lt_of_le hg hch.size, (hch.cell hg hx).trans hc, (hch.cell hg hx).trans hc2⟩
theorem RuleHas.ch {w w' : World} {S : Nat} {D D' : Nat → Prop} {t : Int} {rp : Value} {r : Option Opt} (h : RuleHas w S D t rp r) {X : Nat → Prop} (hc : Ch X w w') (hX : ∀ i, X i → i = S ∨ D i) (hD : ∀ i, D' i → D i ∨ w.heap.size ≤ i) : RuleHas w' S D' t rp r := by
  cases r with
  | none => exact h
  | some o =>
    obtain ⟨G, sl, h1, h2, h3, h4, h5, h6, h7, h8⟩ := h
    have hoff : ∀ i, X i → i ≠ G ∧ SlOff sl i := fun i hi => by
      rcases hX i hi with hs | hd
      · exact ⟨fun e => h2 (e.symm.trans hs), h5 i (Nat.le_of_eq hs)⟩
      · exact h8 i hd
    refine ⟨G, sl, h1, h2, h3.of_block (hc.block G h3.lt (fun hx => (hoff G hx).1 rfl)), h4.chX hc (fun i hi => (hoff i hi).2), h5, h6, fun k a b g e => Nat.lt_of_lt_of_le (h7 k a b g e) hc.size, fun i hi => ?_⟩
    rcases hD i hi with hd | hd
    · exact h8 i hd
    · exact ⟨fun e => by have := h3.lt; omega, fun k a b g e e2 => by have := h7 k a b g e; omega⟩
theorem SetAt.keep {w w' : World} {S B : Nat} {t : Int} {r : Option Opt} {rds exs : List Int} {rp rd ex : Value} (h : SetAt w S B t r rds exs rp rd ex) (hb : Below w.heap.size w w') : SetAt w' S B t r rds exs rp rd ex :=
  ⟨below_row h.row hb h.row.lt, h.rule.ch (X := fun _ => False) (.of_below hb (Nat.le_refl _)) (fun _ hx => hx.elim) (fun _ hi => .inl hi), own_below h.rds hb, own_below h.exs hb, h.apart, h.below, Nat.le_trans h.high hb.size⟩
theorem own_ch {w w' : World} {X : Nat → Prop} {base : Nat} {e : TypeId} {size n : Nat} {v : Value} {xs : List Value} (h : w.ownsRow base e size v n xs) (hc : Ch X w w') (hX : ∀ g, v.ownBlock = some g → ¬ X g) : w'.ownsRow base e size v n xs := by
  refine ⟨h.1, ?_⟩
  rcases h.2 with hn | ⟨g, cap, cur, rfl, hb, hgg, rest⟩
  · exact .inl hn
  · exact .inr ⟨g, cap, cur, rfl, hb, by rw [hc.block g (Array.getElem?_eq_some_iff.1 hgg).1 (hX g rfl)]; exact hgg, rest⟩
end Go.Proofs.YtnlpjncljbaapaaGreatDoor
