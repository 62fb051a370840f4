/- A rule's text with its parts in any order; a set's lines with an order; textWhole, StrToRRuleSet, ParseSet. -/
import Derived.Test.YtnlpjncljbaapaaGreatDoorTo
import Derived.Test.YtnlpjncljbaapaaGreatDoorLw
import Derived.Test.YtnlpjncljbaapaaGreatDoorAg
import Derived.Test.YtnlpjncljbaapaaGreatDoorAw
import Derived.Test.YtnlpjncljbaapaaGreatDoorTsx
import Derived.Test.YtnlpjncljbaapaaGreatDoorRu
import Derived.Sort.Row
namespace Go.Proofs.YtnlpjncljbaapaaGreatDoor
open Go.RowKit

set_option maxRecDepth 100000 in
set_option maxHeartbeats 4000000 in
theorem slice33_ok (v : Value) (t : Int) (its : List Item) (w : World) (h : ∀ W, Below w.heap.size w W → Calls Tryz.prog 55 #[v, .agg #[]] W fun e w' => GivesSet t its W e w') :
    Calls Tryz.prog 33 #[v] w fun e w' => GivesSet t its w e w' := by
  have HH := Lib.hid h
  clear h
  go_enter Tryz.func33, Tryz.ntmps33
  go_wp2_with fail
  refine (utc_any _).mono ?_; rintro e w1 ⟨rfl, hb1⟩
  go_wp2_with fail
  refine (HH.out _ hb1).mono ?_; rintro e w2 ⟨S, B, rp, rd, ex, rfl, hS, hz, hb⟩
  have HS := Lib.hid hS
  clear hS
  go_wp2_with fail
  go_ret2
  exact ⟨S, B, rp, rd, ex, rfl, HS.out, Nat.le_trans hb1.size hz, hb1.trans (hb.mono hb1.size)⟩
/-- A set that ParseLines hands over. -/
def GivesSet2 (t : Int) (r : Option Opt) (rds exs : List Int) (w : World) (e : Ending) (w' : World) : Prop :=
  ∃ S b f rd ex, e = .returned (.tuple #[.agg (rowA 22 (toldF t b f rd ex)), .bool true]) ∧ RuleTold w' S w.heap.size t b f r ∧ w'.ownsRow w.heap.size 2 1 rd rds.length (intVs rds) ∧ w'.ownsRow w.heap.size 2 1 ex exs.length (intVs exs) ∧ Below w.heap.size w w'
theorem OptRows.grown {w w' : World} {o : Opt} {sl : Nat → Value} {X : Nat} (h : OptRows w o sl) (hs : SlOff sl X) (hg : w.grownBy w' (some X)) : OptRows w' o sl :=
  h.ch (S := X) hs ⟨hg.os, hg.tape, hg.output, hg.size, fun i hi hx => hg.block i hi fun e => hx (by cases e; rfl)⟩
theorem RuleTold.grown {w w' : World} {S B B' X : Nat} {t : Int} {b : Bool} {f : Nat → Value} {r : Option Opt} (h : RuleTold w S B t b f r) (hB : B' ≤ B) (hX : X ≤ S) (hXB : X < B) (hg : w.grownBy w' (some X)) : RuleTold w' S B' t b f r := by
  cases r with
  | none => exact h
  | some o =>
    obtain ⟨h1, sl, v, h2, h3, h4, h5⟩ := h
    exact ⟨h1, sl, v, h2, h3.grown (h4 X hX) hg, h4, Joins.ownsRow_le (own_grown h5 hg hXB) hB⟩
theorem RuleTold.one {w : World} {S B : Nat} {t : Int} {b : Bool} {f : Nat → Value} {r : Option Opt} (h : RuleTold w S B t b f r) (j : Nat) (hj : j < 18) : (f j).oneCell' = true := by
  cases r with
  | none =>
    obtain ⟨_, rfl⟩ := h
    exact zRuleF_one j hj
  | some o =>
    obtain ⟨_, sl, v, rfl, _, _, h5⟩ := h
    obtain ⟨q, c, rfl, -⟩ := own_slice h5
    exact ruleF_one _ _ _ _ rfl j
end Go.Proofs.YtnlpjncljbaapaaGreatDoor

namespace Go.Proofs.YtnlpjncljbaapaaGreatDoor
open Go.RowKit

theorem wpl_wanted {P : Program} {ops : Array Oper} {rest : List Oper} {o : Oper} {a : Act} {Q : Exit → Act → World → Prop} {w : World} (hw : Region.wanted o (yielded ops a.tmps) = true) (h : wpList P ops Q ({ o with guard := none } :: rest) a w) : wpList P ops Q (o :: rest) a w := by
  unfold wpList at h ⊢
  rw [if_pos hw]
  rw [if_pos (by simp [Region.wanted])] at h
  exact h
theorem RuleTold.below {w w' : World} {S B : Nat} {t : Int} {b : Bool} {f : Nat → Value} {r : Option Opt} (h : RuleTold w S B t b f r) (hb : Below w.heap.size w w') : RuleTold w' S B t b f r := by
  cases r with
  | none => exact h
  | some o =>
    obtain ⟨h1, sl, v, h2, h3, h4, h5⟩ := h
    exact ⟨h1, sl, v, h2, h3.below hb, h4, own_below h5 hb⟩
theorem str_ne_nil {a : List UInt8} (h : 0 < a.length) : ((⟨a.toArray⟩ : ByteArray).toList == []) = false := by
  rw [beq_eq_false_iff_ne]
  intro e
  have := congrArg List.length e
  rw [show (⟨a.toArray⟩ : ByteArray).toList = a from by rw [Lib.toList_data]] at this
  simp at this
  subst this
  simp at h
/-- One of two. -/
def pk {α : Type} (a b : α) (k : Nat) : α := if k = 0 then a else b
section
variable {t : Int} {hr : Bool} {fr : Nat} {hs : Bool} {st iv wk ct : Int} {hu : Bool} {un : Int} {p : Nat → Option Addr} {n c : Nat → Nat} {pr : Option Addr} {nr cr : Nat} {px : Option Addr} {nx cx : Nat} {l : Nat → List Int} {dl : List (Int × Int)} {rds exs : List Int} {f : Nat → Value}
end
end Go.Proofs.YtnlpjncljbaapaaGreatDoor

namespace Go.Proofs.YtnlpjncljbaapaaGreatDoor
open Go.RowKit Go.Sort

/-- Bytes in a row that came in. -/
def RowB (w : World) (p : Option Addr) (n : Nat) (l : List Int) : Prop := n = l.length ∧ ∀ (i : Nat) x, l[i]? = some x → (0 ≤ x ∧ x ≤ 255) ∧ ∃ g o, p = some ⟨g, o, none⟩ ∧ g < w.heap.size ∧ w.cell? ⟨g, o + i, none⟩ = some (.int .u8 x)
def swapL {α : Type} [Inhabited α] (aa : List α) (i j : Nat) : List α := (aa.set i (aa.getD j default)).set j (aa.getD i default)
/-- One turn of a text's parts: the k-th part comes to the end. -/
def turn {α : Type} [Inhabited α] (k : Nat) (aa : List α) : List α := (swapL aa 1 k).take 1 ++ (swapL aa 1 k).drop 2 ++ [(swapL aa 1 k).getD 1 default]
end Go.Proofs.YtnlpjncljbaapaaGreatDoor

namespace Go.Proofs.YtnlpjncljbaapaaGreatDoor
open Go.RowKit

/-- Which part it is. -/
def Part.key : Part → Nat
  | .freq _ => 10
  | .till _ => 11
  | .count _ => 12
  | .interval _ => 13
  | .wkst _ => 14
  | .days _ => 15
  | .i17 _ => 0
  | .i16 _ => 1
  | .i15 _ => 2
  | .i11 _ => 3
  | .i12 _ => 4
  | .i13 _ => 5
  | .i10 _ => 6
  | .i9 _ => 7
  | .i18 _ => 8
instance : Inhabited Part := ⟨.freq 0⟩
theorem RowB.below {w w' : World} {p : Option Addr} {n : Nat} {l : List Int} (h : RowB w p n l) (hb : Below w.heap.size w w') : RowB w' p n l :=
  ⟨h.1, fun i x hx => by obtain ⟨hx2, g, o, e, hg, hc⟩ := h.2 i x hx; exact ⟨hx2, g, o, e, Nat.lt_of_lt_of_le hg hb.size, (hb.cell hg).trans hc⟩⟩
section
variable {t : Int} {hr : Bool} {fr : Nat} {hs : Bool} {st iv wk ct : Int} {hu : Bool} {un : Int} {p : Nat → Option Addr} {n c : Nat → Nat} {pr : Option Addr} {nr cr : Nat} {px : Option Addr} {nx cx : Nat} {l : Nat → List Int} {dl : List (Int × Int)} {rds exs : List Int} {f : Nat → Value}
end
set_option maxRecDepth 100000 in
set_option maxHeartbeats 4000000 in
theorem set40_ok (text : List UInt8) (ls : List (List UInt8)) (t : Int) (its : List Item) (w : World) (hG : Glob w) (hc : Clean text) (h0 : 0 < text.length) (hlen : text.length ≤ 1000000) (hsp : splitL 10 text = ls)
    (h : ∀ g cap W, Glob W → StrsAt W g ls → g < W.heap.size → ls.length ≤ cap → Calls Tryz.prog 55 #[.slice (some ⟨g, 0, none⟩) ls.length cap, .agg #[]] W fun e w' => GivesSet t its W e w') :
    Calls Tryz.prog 40 #[.string ⟨text.toArray⟩] w fun e w' => GivesSet t its w e w' := by
  have HT := Lib.hid (trim_any text w hG hc hlen)
  have S := fun W : World => zzSplit_any ⟨text.toArray⟩ 10 W (by rw [Lib.size_eq]; simp; omega)
  rw [show splitL 10 (⟨text.toArray⟩ : ByteArray).data.toList = ls from hsp] at S
  have HS := Lib.hid S
  have H33 := Lib.hid fun (g cap : Nat) (W : World) (hW : Below w.heap.size w W) (a : StrsAt W g ls) (b : g < W.heap.size) (c : ls.length ≤ cap) => slice33_ok (.slice (some ⟨g, 0, none⟩) ls.length cap) t its W fun W2 h2 => h g cap W2 ((hG.on hW).on h2) (a.below h2 b) (Nat.lt_of_lt_of_le b h2.size) c
  have hne := str_ne_nil h0
  obtain ⟨tb, htb⟩ : ∃ tb : ByteArray, tb = ⟨text.toArray⟩ := ⟨_, rfl⟩
  rw [← htb] at hne HT HS ⊢
  have hne2 : ¬ tb.toList = [] := by rw [← ne_eq, ← beq_eq_false_iff_ne]; exact hne
  clear h S htb hG hc
  go_enter Tryz.func40, Tryz.ntmps40
  go_wp2_with fail
  refine HT.out.mono ?_; rintro e w1 ⟨rfl, hb1⟩
  have HB1 := Lib.hid hb1
  clear hb1
  go_wp2_with fail
  refine (HS.out _).mono ?_; rintro e w2 ⟨g, cap, rfl, hcap, hst, hg1, hg2, hb2⟩
  have HB2 := Lib.hid (HB1.out.trans (hb2.mono HB1.out.size))
  have HC := Lib.hid (H33.out g cap w2 HB2.out hst hg2 hcap)
  clear hb2 hst
  go_wp2_with fail
  refine HC.out.mono ?_; rintro e w3 ⟨S, B, rp, rd, ex, rfl, hS, hz, hb⟩
  have HSS := Lib.hid hS
  have HB3 := Lib.hid (HB2.out.trans (hb.mono HB2.out.size))
  have hz3 := Nat.le_trans HB2.out.size hz
  clear hS hb
  go_wp2_with fail
  go_ret2
  exact ⟨S, B, rp, rd, ex, rfl, HSS.out, hz3, HB3.out⟩
set_option maxRecDepth 100000 in
set_option maxHeartbeats 4000000 in
theorem parseSet_ok (v : Value) (t : Int) (its : List Item) (w : World) (h : ∀ W, Below w.heap.size w W → Calls Tryz.prog 40 #[v] W fun e w' => GivesSet t its W e w')
    (hr : ∀ o, ruleIn its = some o → (0 ≤ o.freq ∧ o.freq ≤ 6) ∧ o.days.length ≤ 1000) (h1 : (datesOf true its).length ≤ 1000) (h2 : (datesOf false its).length ≤ 1000) :
    Calls Tryz.prog 18 #[v] w fun e w' => GivesSet2 t (ruleIn its) (datesOf true its) (datesOf false its) w e w' := by
  have hB := below_a1 (w := w) (o := .cells zSet 38)
  have hR := zSet_at w
  have H33 := Lib.hid fun (W : World) (hW : Below w.heap.size w W) => h W hW
  obtain ⟨d, hd⟩ := u38
  have HU := Lib.hid hd
  clear h hd
  go_enter Tryz.func18, Tryz.ntmps18
  unfold zSet at *
  go_upto_region 1 with fail
  generalize hw1 : w.alloc (.cells #[_, _, _, _, _, _, _, _, _, _, _, _, _, _, _, _, _, _, _, _, _, _] 38) = w1 at *
  have HB := Lib.hid hB
  have HR := Lib.hid hR
  clear hw1 hB hR
  go_wp2_with fail
  refine (H33.out _ HB.out).mono ?_; rintro e w2 ⟨S, B, rp, rd, ex, rfl, hS, hSz, hb⟩
  have HB2 := Lib.hid (HB.out.trans (hb.mono HB.out.size))
  have HR2 := Lib.hid (below_row HR.out hb HR.out.lt)
  have HTO := Lib.hid (told_any S B t (ruleIn its) _ _ rp rd ex w2 hS hr h1 h2)
  have hw1l : w.heap.size < w1.heap.size := HR.out.lt
  have hw12 : w1.heap.size ≤ w2.heap.size := hb.size
  clear hb hS H33 hr h1 h2
  go_wp2_with fail
  refine HTO.out.mono ?_; rintro e w3 ⟨b, f, u1, u2, rfl, hrt, ho1, ho2, hb3⟩
  obtain ⟨q1, c1, rfl, -⟩ := own_slice ho1
  obtain ⟨q2, c2, rfl, -⟩ := own_slice ho2
  have HB3 := Lib.hid (HB2.out.trans (hb3.mono HB2.out.size))
  have HR3 := Lib.hid (below_row HR2.out hb3 HR2.out.lt)
  have HRT := Lib.hid hrt
  have HO1 := Lib.hid ho1
  have HO2 := Lib.hid ho2
  clear hb3 hrt ho1 ho2 HTO
  go_wp2_with ((with_reducible refine gd_store 38 ?_); refine wpl_store_row rfl 38 _ _ rfl w.heap.size 0 38 22 _ (rowA 22 (toldF t b f (.slice q1 (datesOf true its).length c1) (.slice q2 (datesOf false its).length c2))) rfl rfl HR3.out (by simp [rowA_size]) (by rw [info38s, rowA_size]) (rowA_all fun i hi => toldF_one t b f HRT.out.one rfl rfl i hi) ?_; intro w4 hR4 hg4)
  refine bodyPost_ret (results_row2 rfl _ w.heap.size 38 22 _ (by rfl) hR4 d HU.out.1 HU.out.2 info38s) rfl ?_
  rw [updR_all]
  exact ⟨S, b, f, _, _, rfl, HRT.out.grown (by omega) (by omega) (by omega) hg4, Joins.ownsRow_le (own_grown HO1.out hg4 (by omega)) (by omega), Joins.ownsRow_le (own_grown HO2.out hg4 (by omega)) (by omega), HB3.out.grown hg4 HB3.out.size (fun k hk => by cases hk; exact Nat.le_refl _)⟩
end Go.Proofs.YtnlpjncljbaapaaGreatDoor

/- laws.FnSetRead, walked. -/
namespace Go.Proofs.YtnlpjncljbaapaaGreatDoor
open Go.RowKit

/-- The lines of a set can be seen, each of its signs. -/
theorem lines_vis (t : Int) (hr : Bool) (tx : List UInt8) (rds exs : List Int) (h : hr = true → ∀ c ∈ tx, vis c) : ∀ x ∈ setLines t hr tx rds exs, (∀ c ∈ x, vis c) ∧ x ≠ [] := fun x hx => by
  unfold setLines at hx
  simp only [List.mem_append, List.mem_map, List.mem_singleton] at hx
  rcases hx with ((hx | hx) | ⟨y, _, rfl⟩) | ⟨y, _, rfl⟩
  · subst hx
    exact ⟨vis_line (name := [68, 84, 83, 84, 65, 82, 84]) (by unfold vis; decide) fun c h => vis_pc (pc_date t c h), by simp [dtL]⟩
  · cases hr with
    | false => simp [opt1] at hx
    | true =>
      have hx : x = rrL tx := by simpa [opt1] using hx
      subst hx
      exact ⟨vis_line (name := [82, 82, 85, 76, 69]) (by unfold vis; decide) (h rfl), by simp [rrL]⟩
  · exact ⟨vis_line (name := [82, 68, 65, 84, 69]) (by unfold vis; decide) fun c h => vis_pc (pc_date y c h), by simp [rdL]⟩
  · exact ⟨vis_line (name := [69, 88, 68, 65, 84, 69]) (by unfold vis; decide) fun c h => vis_pc (pc_date y c h), by simp [exL]⟩
theorem lines_short (t : Int) (hr : Bool) (tx : List UInt8) (rds exs : List Int) (h : hr = true → tx.length ≤ 10000) : ∀ x ∈ setLines t hr tx rds exs, x.length ≤ 20000 := fun x hx => by
  unfold setLines at hx
  simp only [List.mem_append, List.mem_map, List.mem_singleton] at hx
  rcases hx with ((hx | hx) | ⟨y, _, rfl⟩) | ⟨y, _, rfl⟩
  · subst hx
    simp [dtL, dateL_len]
  · cases hr with
    | false => simp [opt1] at hx
    | true =>
      have hx : x = rrL tx := by simpa [opt1] using hx
      subst hx
      have := h rfl
      simp [rrL]
      omega
  · simp [rdL, dateL_len]
  · simp [exL, dateL_len]
theorem whole_clean (xs : List (List UInt8)) (h : ∀ x ∈ xs, (∀ c ∈ x, vis c) ∧ x ≠ []) (h0 : xs ≠ []) : Clean (joinC 10 xs) := by
  have hsp : ∀ x ∈ xs, ∀ c ∈ x, Lib.isSp c = false := fun x hx c hc => vis_sp ((h x hx).1 c hc)
  refine ⟨fun b hb => ?_, fun b hb => ?_, fun b hb => ?_⟩
  · rcases joinC_mem 10 xs b hb with h1 | ⟨x, hx, h1⟩
    · subst h1; decide
    · exact ((h x hx).1 b h1).2
  · cases xs with
    | nil => exact absurd rfl h0
    | cons a r =>
      obtain ⟨q, hq⟩ := joinC_head 10 a r
      rw [hq] at hb
      have ha := (h a (by simp)).2
      cases a with
      | nil => exact absurd rfl ha
      | cons c a =>
        simp at hb
        subst hb
        exact hsp (c :: a) (by simp) c (by simp)
  · obtain ⟨ys, a, rfl⟩ : ∃ ys a, xs = ys ++ [a] := ⟨xs.dropLast, xs.getLast h0, (List.dropLast_concat_getLast h0).symm⟩
    have ha := (h a (by simp)).2
    have key : (joinC 10 (ys ++ [a])).getLast? = a.getLast? := by
      rw [joinC_snoc]
      split
      · rfl
      · cases a with
        | nil => exact absurd rfl ha
        | cons c r =>
          rw [List.getLast?_append, List.getLast?_cons_cons]
          cases hl : (c :: r).getLast? with
          | none => simp at hl
          | some z => rfl
    rw [key] at hb
    exact hsp a (by simp) b (List.mem_of_getLast? hb)
theorem whole_split (xs : List (List UInt8)) (h : ∀ x ∈ xs, (∀ c ∈ x, vis c) ∧ x ≠ []) (h0 : xs ≠ []) : splitL 10 (joinC 10 xs) = xs :=
  splitL_joinC 10 xs h0 fun x hx hc => absurd ((h x hx).1 10 hc) (by unfold vis; decide)
theorem whole_len (xs : List (List UInt8)) (h : ∀ x ∈ xs, x.length ≤ 20000) (hn : xs.length ≤ 27) : (joinC 10 xs).length ≤ 1000000 := by
  have := joinC_len 10 20000 xs h
  omega
theorem whole_pos (xs : List (List UInt8)) (h : ∀ x ∈ xs, (∀ c ∈ x, vis c) ∧ x ≠ []) (h0 : xs ≠ []) : 0 < (joinC 10 xs).length := by
  cases xs with
  | nil => exact absurd rfl h0
  | cons a r =>
    obtain ⟨q, hq⟩ := joinC_head 10 a r
    have ha := (h a (by simp)).2
    rw [hq, List.length_append]
    have : 0 < a.length := by cases a with | nil => exact absurd rfl ha | cons _ _ => simp
    omega
theorem itsOf_ruleIn (hr : Bool) (o : Opt) (rds exs : List Int) : ruleIn (itsOf hr o rds exs) = if hr then some o else none := by
  cases hr with
  | false => exact ruleIn_none fun o' h => by simp [itsOf, ruleIt] at h
  | true => rfl
theorem itsOf_datesOf (hr : Bool) (o : Opt) (rds exs : List Int) : datesOf true (itsOf hr o rds exs) = rds ∧ datesOf false (itsOf hr o rds exs) = exs := by
  have hm : ∀ (b c : Bool) (l : List Int), datesOf b (l.map (fun x => Item.dates c [x])) = bif c == b then l else [] := fun b c l => by
    induction l with
    | nil => cases b <;> cases c <;> rfl
    | cons a r ih =>
      have : datesOf b ((a :: r).map (fun x => Item.dates c [x])) = (bif c == b then [a] else []) ++ datesOf b (r.map (fun x => Item.dates c [x])) := rfl
      rw [this, ih]
      cases b <;> cases c <;> rfl
  have happ : ∀ (b : Bool) (l m : List Item), datesOf b (l ++ m) = datesOf b l ++ datesOf b m := fun b l m => by simp [datesOf]
  have hru : ∀ b, datesOf b (ruleIt hr o) = [] := fun b => by cases hr <;> rfl
  unfold itsOf
  refine ⟨?_, ?_⟩
  · rw [happ, happ, hm, hm, hru]; simp
  · rw [happ, happ, hm, hm, hru]; simp
theorem itsOf_first (hr : Bool) (o : Opt) (rds exs : List Int) (k : Nat) (o' : Opt) (h : (itsOf hr o rds exs)[k]? = some (.rule o')) : k = 0 :=
  rule_first (bad := []) (fun _ h => by simp at h) k o' (by rw [List.append_nil]; exact h)
end Go.Proofs.YtnlpjncljbaapaaGreatDoor
