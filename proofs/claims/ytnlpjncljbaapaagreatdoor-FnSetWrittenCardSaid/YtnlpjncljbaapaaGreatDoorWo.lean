/- impl.set, walked: a set of the package's from one that impl tells. -/
import Derived.Test.YtnlpjncljbaapaaGreatDoorLs
import Derived.BigQuiet
import Derived.Deep.RegionHeld3
import Derived.Test.YtnlpjncljbaapaaGreatDoorWq
namespace Go.Proofs.YtnlpjncljbaapaaGreatDoor
open Go.RowKit

def set0 : Array Value := #[.int .i64 0, .int .i64 0, .pointer none, .slice none 0 0, .slice none 0 0]
theorem set0_row (w : World) : (w.alloc (.cells set0 132)).rowIs w.heap.size 132 5 (setF 0 (.pointer none) (.slice none 0 0) (.slice none 0 0)) :=
  World.rowIs_alloc w set0 132 _ fun i hi => by
    match i, hi with
    | 0, _ => rfl
    | 1, _ => rfl
    | 2, _ => rfl
    | 3, _ => rfl
    | 4, _ => rfl
    | i + 5, h => exact absurd h (by show ¬ i + 5 < 5; omega)
end Go.Proofs.YtnlpjncljbaapaaGreatDoor

namespace Go.Proofs.YtnlpjncljbaapaaGreatDoor
open Go.RowKit

/-- A rule as it comes in: its cells, its rows. -/
def RuleIn (w : World) (t : Int) (b : Bool) (f : Nat → Value) (sl : Nat → Value) : Option Opt → Prop
  | none => b = false ∧ f = zRuleF
  | some o => b = true ∧ ∃ v B, f = ruleF o t sl v ∧ IntRows w o sl ∧ w.ownsRow B 69 2 v o.days.length (dayVs o.days) ∧ OptGood o
/-- The rule while the set is made. -/
def RuleMid (w : World) (S : Nat) (t : Int) (rp : Value) (sl : Nat → Value) : Option Opt → Prop
  | none => rp = .pointer none
  | some o => ∃ G q c B, rp = .pointer (some ⟨G, 0, none⟩) ∧ S < G ∧ RuleAt w G (optG o t (slD sl (.slice q o.days.length c))) (startOf t) ∧ S < B ∧ w.ownsRow B 119 2 (.slice q o.days.length c) o.days.length (dayVs o.days)
theorem RuleMid.ch {w w' : World} {S : Nat} {t : Int} {rp : Value} {sl : Nat → Value} {r : Option Opt} (h : RuleMid w S t rp sl r) (hc : Ch (fun i => i = S) w w') : RuleMid w' S t rp sl r := by
  cases r with
  | none => exact h
  | some o =>
    obtain ⟨G, q, c, B, h1, h2, h3, h4, h5⟩ := h
    exact ⟨G, q, c, B, h1, h2, h3.of_block (hc.block G h3.lt (fun e => by omega)), h4, own_ch h5 hc (fun g hg e => by have := own_base h5 g hg; omega)⟩
/-- A set of the package's: its rule, its dates. -/
def RuleIs (w : World) (t : Int) (rp : Value) : Option Opt → Prop
  | none => rp = .pointer none
  | some o => ∃ G sl, rp = .pointer (some ⟨G, 0, none⟩) ∧ RuleAt w G (optG o t sl) (startOf t) ∧ OptRows w o sl
structure SetIs (w : World) (S : Nat) (t : Int) (r : Option Opt) (rds exs : List Int) (rp rd ex : Value) : Prop where
  row : w.rowIs S 132 5 (setF t rp rd ex)
  rule : RuleIs w t rp r
  rds : ∃ B, w.ownsRow B 109 2 rd rds.length (timeVs rds)
  exs : ∃ B, w.ownsRow B 109 2 ex exs.length (timeVs exs)
theorem RuleIs.below {w w' : World} {t : Int} {rp : Value} {r : Option Opt} (h : RuleIs w t rp r) (hb : Below w.heap.size w w') : RuleIs w' t rp r := by
  cases r with
  | none => exact h
  | some o =>
    obtain ⟨G, sl, h1, h2, h3⟩ := h
    exact ⟨G, sl, h1, h2.of_block (hb.block G h2.lt), h3.below hb⟩
theorem SetIs.below {w w' : World} {S : Nat} {t : Int} {r : Option Opt} {rds exs : List Int} {rp rd ex : Value} (h : SetIs w S t r rds exs rp rd ex) (hb : Below w.heap.size w w') : SetIs w' S t r rds exs rp rd ex :=
  ⟨below_row h.row hb h.row.lt, h.rule.below hb, let ⟨B, h1⟩ := h.rds; ⟨B, own_below h1 hb⟩, let ⟨B, h1⟩ := h.exs; ⟨B, own_below h1 hb⟩⟩
theorem OptRows.mk2 {w : World} {o : Opt} {sl : Nat → Value} {base : Nat} {e : TypeId} {q : Option Addr} {c : Nat} (h : IntRows w o sl) (hd : w.ownsRow base e 2 (.slice q o.days.length c) o.days.length (dayVs o.days)) : OptRows w o (slD sl (.slice q o.days.length c)) := by
  refine ⟨fun k h1 h2 h3 => ?_, rowD_of_own rfl hd⟩
  show RowI w (slP (if k = 14 then _ else sl k)) _ _
  rw [if_neg h3]
  exact h k h1 h2 h3
theorem Ch.grow2 {X X' : Nat → Prop} {w w1 w2 : World} (h : Ch X w w1) (hg : Ch X' w1 w2) (hr : ∀ i, X' i → X i ∨ w.heap.size ≤ i) : Ch X w w2 :=
  ⟨hg.os.trans h.os, hg.tape.trans h.tape, hg.output.trans h.output, Nat.le_trans h.size hg.size, fun i hi hx => (hg.block i (Nat.lt_of_lt_of_le hi h.size) (fun e => by rcases hr i e with e | e; exact hx e; omega)).trans (h.block i hi hx)⟩
def GivesMade (t : Int) (r : Option Opt) (rds exs : List Int) (w : World) (e : Ending) (w' : World) : Prop :=
  ∃ S rp rd ex, e = .returned (.tuple #[.pointer (some ⟨S, 0, none⟩), .bool true]) ∧ SetIs w' S t r rds exs rp rd ex ∧ Below w.heap.size w w'
theorem toldF_rule (t : Int) (b : Bool) (f : Nat → Value) (rd ex : Value) : rowA 18 (fun i => toldF t b f rd ex (2 + i)) = rowA 18 f := rowA_congr fun k hk => by
  unfold toldF
  rw [if_neg (by omega), if_neg (by omega), if_pos (by omega), Nat.add_sub_cancel_left]
theorem own_block_base {w : World} {base n : Nat} {e : TypeId} {size S : Nat} {v : Value} {xs : List Value} (h : w.ownsRow base e size v n xs) (hS : S < base) : v.ownBlock ≠ some S := fun e => by have := own_base h S e; omega
set_option maxRecDepth 100000 in
set_option maxHeartbeats 8000000 in
theorem made_any (t : Int) (b : Bool) (f : Nat → Value) (sl : Nat → Value) (r : Option Opt) (q1 q2 : Option Addr) (n1 c1 n2 c2 : Nat) (rds exs : List Int) (w : World) (ht : 0 < t ∧ t < 315537897600) (hr : RuleIn w t b f sl r) (h1 : RowO w q1 n1 rds) (h2 : RowO w q2 n2 exs) (hn1 : n1 ≤ 1000) (hn2 : n2 ≤ 1000) :
    Calls Tryz.prog 41 #[.agg (rowA 22 (toldF t b f (.slice q1 n1 c1) (.slice q2 n2 c2)))] w fun e w' => GivesMade t r rds exs w e w' := by
  have htb : (t == 0) = false := by have := ht.1; simp; omega
  have hN0 := World.rowIs_alloc w (rowA 22 (toldF t b f (.slice q1 n1 c1) (.slice q2 n2 c2))) 38 (toldF t b f (.slice q1 n1 c1) (.slice q2 n2 c2)) (fun i hi => rowA_get (by rwa [rowA_size] at hi))
  rw [rowA_size] at hN0
  have HF0 := Lib.hid (hN0.alloc (.cells set0 132))
  have HS0 := Lib.hid (show ((w.alloc (.cells (rowA 22 (toldF t b f (.slice q1 n1 c1) (.slice q2 n2 c2))) 38)).alloc (.cells set0 132)).rowIs (w.heap.size + 1) 132 5 (setF 0 (.pointer none) (.slice none 0 0) (.slice none 0 0)) from by have := set0_row (w.alloc (.cells (rowA 22 (toldF t b f (.slice q1 n1 c1) (.slice q2 n2 c2))) 38)); simpa using this)
  have HB0 := Lib.hid ((below_a1 (w := w) (o := .cells (rowA 22 (toldF t b f (.slice q1 n1 c1) (.slice q2 n2 c2))) 38)).alloc (by simp) (.cells set0 132))
  have HZ := Lib.hid (show ((w.alloc (.cells (rowA 22 (toldF t b f (.slice q1 n1 c1) (.slice q2 n2 c2))) 38)).alloc (.cells set0 132)).heap.size = w.heap.size + 2 by simp)
  have x0 : ((w.alloc (.cells (rowA 22 (toldF t b f (.slice q1 n1 c1) (.slice q2 n2 c2))) 38)).alloc (.cells set0 132)).cell? ⟨w.heap.size, 0, none⟩ = some (.int .i64 t) := HF0.out.cell (i := 0) (by decide)
  have HR := Lib.hid hr
  have HT := Lib.hid ht
  have H1 := Lib.hid h1
  have H2 := Lib.hid h2
  have HN := Lib.hid (And.intro hn1 hn2)
  obtain ⟨d6, hud⟩ := u36
  have HU := Lib.hid hud
  clear hr h1 h2 hN0 ht hn1 hn2 hud
  go_enter Tryz.func41, Tryz.ntmps41
  generalize hA : rowA 22 (toldF t b f (.slice q1 n1 c1) (.slice q2 n2 c2)) = A at *
  unfold set0 at *
  go_upto_region 2 with fail
  generalize (w.alloc (.cells A 38)).alloc (.cells #[_, _, _, _, _] 132) = w1 at *
  clear hA
  generalize hG : w.heap.size = N at *
  have hN1 : N < w1.heap.size := by have := HZ.out; omega
  have HX := Lib.hid fun (k : Nat) (hk : k < 22) (W : World) (hW : Below w1.heap.size w1 W) => (hW.cell (p := ⟨N, k, none⟩) hN1).trans (HF0.out.cell hk)
  have HXR := Lib.hid fun (W : World) (hW : Ch (fun i => i = N + 1) w1 W) => HF0.out.of_block (hW.block N hN1 (by omega))
  clear x0
  have x0 : w1.cell? ⟨N, 0, none⟩ = some (.int .i64 t) := HF0.out.cell (i := 0) (by decide)
  go_wp2_with fail
  refine (of_any t _).mono ?_; rintro e w2 ⟨rfl, hb⟩
  have HS2 := Lib.hid (below_row HS0.out hb HS0.out.lt)
  have HC2 := Lib.hid (Ch.of_below (X := fun i => i = N + 1) hb (Nat.le_refl _))
  clear hb x0
  go_wp2_with fail
  refine (sStart_any HS2.out).mono ?_; rintro e w3 ⟨rfl, hS3, hg3⟩
  have HS3 := Lib.hid hS3
  have HC3 := Lib.hid (HC2.out.trans (Ch.of_grown (X := fun i => i = N + 1) hg3 (fun g e => by injection e with e; exact e.symm)))
  clear hS3 hg3 HS2 HC2
  have x1 : w3.cell? ⟨N, 1, none⟩ = some (.bool b) := (HXR.out w3 HC3.out).cell (i := 1) (by decide)
  go_upto_if 18 with fail
  go_cut [5, 6] from 19 to 41 (fun v5 v6 wc => ∃ rp, wc.rowIs (N + 1) 132 5 (setF t rp (.slice none 0 0) (.slice none 0 0)) ∧ RuleMid wc (N + 1) t rp sl r ∧ Ch (fun i => i = N + 1) w1 wc)
  case first =>
    cases r with
    | none =>
      obtain ⟨rfl, rfl⟩ := HR.out
      go_wp2_with fail
      go_meet
      exact ⟨_, HS3.out, rfl, HC3.out⟩
    | some o =>
      obtain ⟨rfl, v, B, rfl, hI, hv, hg⟩ := HR.out
      have HI := Lib.hid hI
      have HV := Lib.hid hv
      have HG := Lib.hid hg
      have HF3 := Lib.hid (HXR.out w3 HC3.out)
      clear hI hv hg x1
      have hbw : Below N w w3 := HC3.out.below HB0.out (fun i hi => by omega) (by have := HZ.out; omega)
      rw [← hG] at hbw
      have HBW := Lib.hid hbw
      clear hbw
      go_wp2_with (with_reducible refine gd_load 36 ?_; refine wpl_load_row rfl 36 _ rfl N 2 38 22 18 _ rfl HF3.out (by decide) d6 HU.out.1 HU.out.2 info36s ?_; rw [toldF_rule])
      refine (option_any o t sl v B w3 (own_below HV.out HBW.out) HG.out.fr HG.out.dlen (by have := HT.out.1; omega)).mono ?_; rintro e w4 ⟨q, c, B4, rfl, hB4, ho4, hb4⟩
      have HO4 := Lib.hid ho4
      have HC4 := Lib.hid (HC3.out.trans (Ch.of_below (X := fun i => i = N + 1) hb4 (Nat.le_refl _)))
      have HS4 := Lib.hid (below_row HS3.out hb4 HS3.out.lt)
      have hS3 := HS3.out.lt
      have hBS : N + 1 < B4 := by omega
      have HB4 := Lib.hid (HBW.out.trans (hb4.mono HBW.out.size))
      have HR4 := Lib.hid (OptRows.mk2 (HI.out.below HB4.out) HO4.out)
      clear ho4 hb4
      go_wp2_with fail
      refine (new_any (HR4.out.ok HG.out (t := t) ⟨Int.le_of_lt HT.out.1, HT.out.2⟩)).mono ?_; rintro e w5 ⟨G, rfl, hA5, hG5, hb5⟩
      have HA5 := Lib.hid hA5
      have HC5 := Lib.hid (HC4.out.trans (Ch.of_below (X := fun i => i = N + 1) hb5 (Nat.le_refl _)))
      have HS5 := Lib.hid (below_row HS4.out hb5 HS4.out.lt)
      have HO5 := Lib.hid (own_below HO4.out hb5)
      have hS4 := HS4.out.lt
      have hSG : N + 1 < G := by omega
      have HGl := Lib.hid hG5
      clear hA5 hb5 hG5
      go_wp2_with fail
      refine (sRule_st HS5.out HA5.out (by have := HT.out.1; omega) (by omega)).mono ?_; rintro e w6 ⟨rfl, hS6, hA6, hc6⟩
      have HS6 := Lib.hid hS6
      have HA6 := Lib.hid hA6
      have hw4 := HC4.out.size
      have HC6 := Lib.hid (HC5.out.grow2 (X' := fun i => i = N + 1 ∨ i = G) hc6 (fun i hi => by rcases hi with h | h; exact .inl h; exact .inr (by have := HGl.out; omega)))
      have HO6 := Lib.hid (own_ch HO5.out hc6 (fun g hg e => by have := HO4.out.lt g hg; have := HGl.out; rcases e with e | e <;> omega))
      clear hS6 hA6 hc6
      go_wp2_with fail
      go_meet
      exact ⟨_, HS6.out, ⟨G, q, c, B4, rfl, hSG, HA6.out, hBS, HO6.out⟩, HC6.out⟩
  obtain ⟨rp, hS, hM, hC⟩ := hcut
  have HS := Lib.hid hS
  have HM := Lib.hid hM
  have HC := Lib.hid hC
  clear hS hM hC HS3 HC3 x1
  have hS1 : N + 1 < w1.heap.size := by have := HZ.out; omega
  have hS2 := HS.out.lt
  have x20 : wc.cell? ⟨N, 20, none⟩ = some (.slice q1 n1 c1) := (HXR.out wc HC.out).cell (i := 20) (by decide)
  have hbw : Below N w wc := HC.out.below HB0.out (fun i hi => by omega) (by have := HZ.out; omega)
  rw [← hG] at hbw
  have HBW := Lib.hid hbw
  clear hbw
  go_wp2_with fail
  refine (moments_any q1 n1 c1 rds wc (H1.out.below HBW.out) HN.out.1).mono ?_; rintro e w5 ⟨u1, rfl, ho5, hb5⟩
  have HO5 := Lib.hid ho5
  have HS5 := Lib.hid (below_row HS.out hb5 HS.out.lt)
  have HC5 := Lib.hid (HC.out.trans (Ch.of_below (X := fun i => i = N + 1) hb5 (Nat.le_refl _)))
  have HM5 := Lib.hid (HM.out.ch (Ch.of_below hb5 (Nat.le_refl _)))
  clear ho5 hb5 x20
  go_wp2_with fail
  refine (setRDates_any HS5.out HO5.out (H1.out.1).symm (own_block_base HO5.out hS2) HN.out.1).mono ?_; rintro e w6 ⟨u2, rfl, hS6, ho6, hc6⟩
  have HS6 := Lib.hid (show w6.rowIs (N + 1) 132 5 (setF t rp u2 (.slice none 0 0)) from hS6)
  have HO6 := Lib.hid ho6
  have HC6 := Lib.hid (HC5.out.trans hc6)
  have HM6 := Lib.hid (HM5.out.ch hc6)
  have hS5 := HS5.out.lt
  clear hS6 ho6 hc6
  have x21 : w6.cell? ⟨N, 21, none⟩ = some (.slice q2 n2 c2) := (HXR.out w6 HC6.out).cell (i := 21) (by decide)
  have hbw : Below N w w6 := HC6.out.below HB0.out (fun i hi => by omega) (by have := HZ.out; omega)
  rw [← hG] at hbw
  have HBW6 := Lib.hid hbw
  clear hbw
  go_wp2_with fail
  refine (moments_any q2 n2 c2 exs w6 (H2.out.below HBW6.out) HN.out.2).mono ?_; rintro e w7 ⟨u3, rfl, ho7, hb7⟩
  have HO7 := Lib.hid ho7
  have HS7 := Lib.hid (below_row HS6.out hb7 HS6.out.lt)
  have HC7 := Lib.hid (HC6.out.trans (Ch.of_below (X := fun i => i = N + 1) hb7 (Nat.le_refl _)))
  have HM7 := Lib.hid (HM6.out.ch (Ch.of_below hb7 (Nat.le_refl _)))
  have HO67 := Lib.hid (own_below HO6.out hb7)
  have hS6 := HS6.out.lt
  clear ho7 hb7 x21
  go_wp2_with fail
  refine (setExDates_any HS7.out HO7.out (H2.out.1).symm (own_block_base HO7.out hS6) HN.out.2).mono ?_; rintro e w8 ⟨u4, rfl, hS8, ho8, hc8⟩
  have HS8 := Lib.hid (show w8.rowIs (N + 1) 132 5 (setF t rp u2 u4) from hS8)
  have HO8 := Lib.hid ho8
  have HC8 := Lib.hid (HC7.out.trans hc8)
  have HM8 := Lib.hid (HM7.out.ch hc8)
  have HO68 := Lib.hid (own_ch HO67.out hc8 (fun g hg e => own_block_base HO67.out hS5 (e ▸ hg)))
  clear hS8 ho8 hc8
  go_wp2_with fail
  go_ret2
  have hbw : Below N w w8 := HC8.out.below HB0.out (fun i hi => by omega) (by have := HZ.out; omega)
  rw [← hG] at hbw
  refine ⟨N + 1, rp, u2, u4, rfl, ⟨HS8.out, ?_, ⟨_, HO68.out⟩, ⟨_, HO8.out⟩⟩, hbw⟩
  cases r with
  | none => exact HM8.out
  | some o =>
    obtain ⟨_, v, B, _, hI, hv, hg⟩ := HR.out
    obtain ⟨G, q, c, B4, h1, h2, h3, h4, h5⟩ := HM8.out
    exact ⟨G, _, h1, h3, OptRows.mk2 (hI.below hbw) h5⟩
end Go.Proofs.YtnlpjncljbaapaaGreatDoor
