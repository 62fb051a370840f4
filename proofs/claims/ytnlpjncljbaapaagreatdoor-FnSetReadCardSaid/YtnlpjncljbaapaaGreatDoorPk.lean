/- impl.ParseLines on lines that make a set. -/
import Derived.Test.YtnlpjncljbaapaaGreatDoorTo
import Derived.Test.YtnlpjncljbaapaaGreatDoorLw
namespace Go.Proofs.YtnlpjncljbaapaaGreatDoor
open Go.RowKit

set_option maxRecDepth 100000 in
set_option maxHeartbeats 4000000 in
theorem slice33_ok (v : Value) (t : Int) (its : List Item) (w : World) (h : ∀ W, Below w.heap.size w W → Calls Tryz.prog 55 #[v, .agg #[]] W fun e w' => GivesSet t its W e w') :
    Calls Tryz.prog 33 #[v] w fun e w' => GivesSet t its w e w' := by
  have HH := Lib.hid h
  clear h
  go_enter Tryz.func33, Tryz.ntmps33
  go_wp2_with fail
  refine (utc_any _).mono ?_; rintro e w1 ⟨rfl, hb1⟩
  go_wp2_with fail
  refine (HH.out _ hb1).mono ?_; rintro e w2 ⟨S, B, rp, rd, ex, rfl, hS, hz, hb⟩
  have HS := Lib.hid hS
  clear hS
  go_wp2_with fail
  go_ret2
  exact ⟨S, B, rp, rd, ex, rfl, HS.out, Nat.le_trans hb1.size hz, hb1.trans (hb.mono hb1.size)⟩
/-- A set that ParseLines hands over. -/
def GivesSet2 (t : Int) (r : Option Opt) (rds exs : List Int) (w : World) (e : Ending) (w' : World) : Prop :=
  ∃ S b f rd ex, e = .returned (.tuple #[.agg (rowA 22 (toldF t b f rd ex)), .bool true]) ∧ RuleTold w' S w.heap.size t b f r ∧ w'.ownsRow w.heap.size 2 1 rd rds.length (intVs rds) ∧ w'.ownsRow w.heap.size 2 1 ex exs.length (intVs exs) ∧ Below w.heap.size w w'
theorem OptRows.grown {w w' : World} {o : Opt} {sl : Nat → Value} {X : Nat} (h : OptRows w o sl) (hs : SlOff sl X) (hg : w.grownBy w' (some X)) : OptRows w' o sl :=
  h.ch (S := X) hs ⟨hg.os, hg.tape, hg.output, hg.size, fun i hi hx => hg.block i hi fun e => hx (by cases e; rfl)⟩
theorem RuleTold.grown {w w' : World} {S B B' X : Nat} {t : Int} {b : Bool} {f : Nat → Value} {r : Option Opt} (h : RuleTold w S B t b f r) (hB : B' ≤ B) (hX : X ≤ S) (hXB : X < B) (hg : w.grownBy w' (some X)) : RuleTold w' S B' t b f r := by
  cases r with
  | none => exact h
  | some o =>
    obtain ⟨h1, sl, v, h2, h3, h4, h5⟩ := h
    exact ⟨h1, sl, v, h2, h3.grown (h4 X hX) hg, h4, Joins.ownsRow_le (own_grown h5 hg hXB) hB⟩
theorem RuleTold.one {w : World} {S B : Nat} {t : Int} {b : Bool} {f : Nat → Value} {r : Option Opt} (h : RuleTold w S B t b f r) (j : Nat) (hj : j < 18) : (f j).oneCell' = true := by
  cases r with
  | none =>
    obtain ⟨_, rfl⟩ := h
    exact zRuleF_one j hj
  | some o =>
    obtain ⟨_, sl, v, rfl, _, _, h5⟩ := h
    obtain ⟨q, c, rfl, -⟩ := own_slice h5
    exact ruleF_one _ _ _ _ rfl j
set_option maxRecDepth 100000 in
set_option maxHeartbeats 4000000 in
theorem parseLines_ok (v : Value) (t : Int) (its : List Item) (w : World) (h : ∀ W, Below w.heap.size w W → Calls Tryz.prog 55 #[v, .agg #[]] W fun e w' => GivesSet t its W e w')
    (hr : ∀ o, ruleIn its = some o → (0 ≤ o.freq ∧ o.freq ≤ 6) ∧ o.days.length ≤ 1000) (h1 : (datesOf true its).length ≤ 1000) (h2 : (datesOf false its).length ≤ 1000) :
    Calls Tryz.prog 12 #[v] w fun e w' => GivesSet2 t (ruleIn its) (datesOf true its) (datesOf false its) w e w' := by
  have hB := below_a1 (w := w) (o := .cells zSet 38)
  have hR := zSet_at w
  have H33 := Lib.hid fun (W : World) (hW : Below w.heap.size w W) => slice33_ok v t its W fun W2 h2 => h W2 (hW.trans (h2.mono hW.size))
  obtain ⟨d, hd⟩ := u38
  have HU := Lib.hid hd
  clear h hd
  go_enter Tryz.func12, Tryz.ntmps12
  unfold zSet at *
  go_upto_region 1 with fail
  generalize hw1 : w.alloc (.cells #[_, _, _, _, _, _, _, _, _, _, _, _, _, _, _, _, _, _, _, _, _, _] 38) = w1 at *
  have HB := Lib.hid hB
  have HR := Lib.hid hR
  clear hw1 hB hR
  go_wp2_with fail
  refine (H33.out _ HB.out).mono ?_; rintro e w2 ⟨S, B, rp, rd, ex, rfl, hS, hSz, hb⟩
  have HB2 := Lib.hid (HB.out.trans (hb.mono HB.out.size))
  have HR2 := Lib.hid (below_row HR.out hb HR.out.lt)
  have HTO := Lib.hid (told_any S B t (ruleIn its) _ _ rp rd ex w2 hS hr h1 h2)
  have hw1l : w.heap.size < w1.heap.size := HR.out.lt
  have hw12 : w1.heap.size ≤ w2.heap.size := hb.size
  clear hb hS H33 hr h1 h2
  go_wp2_with fail
  refine HTO.out.mono ?_; rintro e w3 ⟨b, f, u1, u2, rfl, hrt, ho1, ho2, hb3⟩
  obtain ⟨q1, c1, rfl, -⟩ := own_slice ho1
  obtain ⟨q2, c2, rfl, -⟩ := own_slice ho2
  have HB3 := Lib.hid (HB2.out.trans (hb3.mono HB2.out.size))
  have HR3 := Lib.hid (below_row HR2.out hb3 HR2.out.lt)
  have HRT := Lib.hid hrt
  have HO1 := Lib.hid ho1
  have HO2 := Lib.hid ho2
  clear hb3 hrt ho1 ho2 HTO
  go_wp2_with ((with_reducible refine gd_store 38 ?_); refine wpl_store_row rfl 38 _ _ rfl w.heap.size 0 38 22 _ (rowA 22 (toldF t b f (.slice q1 (datesOf true its).length c1) (.slice q2 (datesOf false its).length c2))) rfl rfl HR3.out (by simp [rowA_size]) (by rw [info38s, rowA_size]) (rowA_all fun i hi => toldF_one t b f HRT.out.one rfl rfl i hi) ?_; intro w4 hR4 hg4)
  refine bodyPost_ret (results_row2 rfl _ w.heap.size 38 22 _ (by rfl) hR4 d HU.out.1 HU.out.2 info38s) rfl ?_
  rw [updR_all]
  exact ⟨S, b, f, _, _, rfl, HRT.out.grown (by omega) (by omega) (by omega) hg4, Joins.ownsRow_le (own_grown HO1.out hg4 (by omega)) (by omega), Joins.ownsRow_le (own_grown HO2.out hg4 (by omega)) (by omega), HB3.out.grown hg4 HB3.out.size (fun k hk => by cases hk; exact Nat.le_refl _)⟩
end Go.Proofs.YtnlpjncljbaapaaGreatDoor
