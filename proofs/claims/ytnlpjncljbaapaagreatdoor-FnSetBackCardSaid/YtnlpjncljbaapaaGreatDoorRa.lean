/- A set that was written by the package and read again, and the set itself: laws.sameSet holds of them. -/
import Derived.Test.YtnlpjncljbaapaaGreatDoorAg
import Derived.Test.YtnlpjncljbaapaaGreatDoorLr
import Derived.Test.YtnlpjncljbaapaaGreatDoorWq
namespace Go.Proofs.YtnlpjncljbaapaaGreatDoor
open Go.RowKit

theorem raw_nil (fr : Nat) (un ct iv : Int) (l : Nat → List Int) (dl : List (Int × Int)) (wk : Int) (k : Nat) (h : k < 9 ∨ k = 14 ∨ 18 < k) : (rawOf fr un ct iv l dl wk).l k = [] := by
  show optL l k = []
  match k with
  | 0 | 1 | 2 | 3 | 4 | 5 | 6 | 7 | 8 | 14 => rfl
  | 9 | 10 | 11 | 12 | 13 | 15 | 16 | 17 | 18 => omega
  | k + 19 => simp [optL]
theorem raw_good {fr : Nat} {hs : Bool} {st iv wk ct : Int} {hu : Bool} {un : Int} {l : Nat → List Int} {dl : List (Int × Int)} (h : CleanOk fr hs st iv wk ct hu un l dl) (un' : Int) : OptGood (rawOf fr un' ct iv l dl wk) :=
  have g := clean_good h un'
  { fr := g.fr, len := g.len, dlen := g.dlen, prod := g.prod, bd := g.bd, dbd := g.dbd, iv := h.h_iv.1 }
theorem raw_small {fr : Nat} {hs : Bool} {st iv wk ct : Int} {hu : Bool} {un : Int} {l : Nat → List Int} {dl : List (Int × Int)} (h : CleanOk fr hs st iv wk ct hu un l dl) : OptSmall (rawOf fr (unOf hu un) ct iv l dl wk) where
  fr := (raw_good h 0).fr
  iv := h.h_iv
  wk := h.h_wk
  ct := h.h_ct
  un := by
    show 0 ≤ unOf hu un ∧ unOf hu un < 315537897600
    cases hu with
    | false => exact ⟨by simp [unOf], by simp [unOf]⟩
    | true => have := h.h_un rfl; have := h.h_st; rw [unOf_at rfl]; omega
  l := fun k h1 h2 h3 => by
    have hk : k = 9 ∨ k = 10 ∨ k = 11 ∨ k = 12 ∨ k = 13 ∨ k = 15 ∨ k = 16 ∨ k = 17 ∨ k = 18 := by omega
    rcases hk with e | e | e | e | e | e | e | e | e <;> subst e
    · exact ⟨h.h_l8.1, fun x hx => by have := h.h_l8.2 x hx; omega⟩
    · exact ⟨h.h_l9.1, fun x hx => by have := h.h_l9.2 x hx; omega⟩
    · exact ⟨h.h_l10.1, fun x hx => by have := h.h_l10.2 x hx; omega⟩
    · exact ⟨h.h_l11.1, fun x hx => by have := h.h_l11.2 x hx; omega⟩
    · exact ⟨h.h_l12.1, fun x hx => by have := h.h_l12.2 x hx; omega⟩
    · exact ⟨h.h_l14.1, fun x hx => by have := h.h_l14.2 x hx; omega⟩
    · exact ⟨h.h_l15.1, fun x hx => by have := h.h_l15.2 x hx; omega⟩
    · exact ⟨h.h_l16.1, fun x hx => by have := h.h_l16.2 x hx; omega⟩
    · exact ⟨h.h_l17.1, fun x hx => by have := h.h_l17.2 x hx; omega⟩
  dl := ⟨h.h_dl.1, fun d hd => ⟨(h.h_dl.2 d hd).1, by have := (h.h_dl.2 d hd).2; omega⟩⟩
/-- The options of a set's rule, with nothing left out. -/
def rwOf (fr : Nat) (hu : Bool) (un ct iv : Int) (l : Nat → List Int) (dl : List (Int × Int)) (wk : Int) : Opt := rawOf fr (unOf hu un) ct iv l dl wk
section
variable {t : Int} {hr : Bool} {fr : Nat} {hs : Bool} {st iv wk ct : Int} {hu : Bool} {un : Int} {p : Nat → Option Addr} {n c : Nat → Nat} {pr : Option Addr} {nr cr : Nat} {px : Option Addr} {nx cx : Nat} {l : Nat → List Int} {dl : List (Int × Int)} {rds exs : List Int} {f : Nat → Value}
theorem says_raw (h : TextSays t hr fr hs st iv wk ct hu un p n c pr nr cr px nx cx l dl rds exs f) : LinesAre (restL hr (rrTx (rwOf fr hu un ct iv l dl wk)) rds exs) (itsOf hr (rwOf fr hu un ct iv l dl wk) rds exs) := by
  refine rest_are (fun hb => ?_) (says_dates h).1 (says_dates h).2
  obtain ⟨hc, _, _⟩ := h.2.2.2.2.1 hb
  exact rrTx_line (raw_small hc) (raw_good hc _) (raw_nil _ _ _ _ _ _ _)
end
section
variable {t : Int} {hr : Bool} {fr : Nat} {hs : Bool} {st iv wk ct : Int} {hu : Bool} {un : Int} {p : Nat → Option Addr} {n c : Nat → Nat} {pr : Option Addr} {nr cr : Nat} {px : Option Addr} {nx cx : Nat} {l : Nat → List Int} {dl : List (Int × Int)} {rds exs : List Int} {F : Nat → Value}
theorem agree_raw {w : World} {sl : Nat → Value} {q : Option Addr} (hb : hr = true) (h : TextSays t hr fr hs st iv wk ct hu un p n c pr nr cr px nx cx l dl rds exs F) (hin : SetIn w p n c pr nr cr px nx cx l dl rds exs)
    (ho : OptRows w (rwOf fr hu un ct iv l dl wk) sl) (hd : RowDO w q dl.length dl) : Agree w (rwOf fr hu un ct iv l dl wk) sl q fr iv wk ct hu (unOf hu un) p n := by
  obtain ⟨hc, hu0, -⟩ := h.2.2.2.2.1 hb
  have hS := clean_small (wk := wk) hc (unOf hu un) fun e => unOf_at e
  have hg := raw_good (wk := wk) hc (unOf hu un)
  have el : ∀ k, 8 ≤ k → k < 18 → k ≠ 13 → (rwOf fr hu un ct iv l dl wk).l (k + 1) = l k := fun k h1 h2 h3 => by
    have h9 : k = 8 ∨ k = 9 ∨ k = 10 ∨ k = 11 ∨ k = 12 ∨ k = 14 ∨ k = 15 ∨ k = 16 ∨ k = 17 := by omega
    rcases h9 with h | h | h | h | h | h | h | h | h <;> subst h <;> rfl
  refine { fr := rfl, iv := rfl, wk := rfl, ct := rfl, hu := ?_, un := rfl, ra := fun k h1 h2 h3 => ?_, rb := fun k h1 h2 h3 => ?_, da := hd, db := hin.rd, len := hg.len, dlen := by have := hS.dl.1; show dl.length ≤ 1000; omega }
  · show (!(decide (unOf hu un = 0))) = hu
    cases hu with
    | false => rfl
    | true => simp [unOf, hu0 rfl]
  · obtain ⟨e, hrow⟩ := ho.1 (k + 1) (by omega) (by omega) (by omega)
    refine ⟨rfl, fun i x hx => ?_⟩
    obtain ⟨g, e1, e2, e3⟩ := hrow i x hx
    exact ⟨g, 0, e1, e2, by rw [Nat.zero_add]; exact e3⟩
  · rw [el k h1 h2 h3]
    exact hin.ro k h1 h2 h3
theorem sameSet_raw {w : World} {S B B1 B2 : Nat} {b : Bool} {f : Nat → Value} {rd ex : Value} {r1 r2 : List Int} (h : TextSays t hr fr hs st iv wk ct hu un p n c pr nr cr px nx cx l dl rds exs F) (hin : SetIn w p n c pr nr cr px nx cx l dl rds exs)
    (hrt : RuleTold w S B t b f (if hr then some (rwOf fr hu un ct iv l dl wk) else none)) (ho1 : w.ownsRow B1 2 1 rd r1.length (intVs r1)) (ho2 : w.ownsRow B2 2 1 ex r2.length (intVs r2)) (e1 : r1.Perm rds) (e2 : r2.Perm exs) :
    Calls Tryz.prog 15 #[.agg (rowA 22 (toldF t b f rd ex)), .agg (rowA 22 F)] w fun e w' => e = .returned (.bool true) ∧ Below w.heap.size w w' := by
  obtain ⟨q1, c1, rfl, -⟩ := own_slice ho1
  obtain ⟨q2, c2, rfl, -⟩ := own_slice ho2
  have hl1 : rds.length ≤ 1000 := by have := hin.rr.1; have := h.2.1; omega
  have hl2 : exs.length ≤ 1000 := by have := hin.rx.1; have := h.2.2.1; omega
  have ht := (says_start h).1
  cases hr with
  | false =>
    obtain ⟨rfl, rfl⟩ := hrt
    rw [rowA_congr (h.2.2.2.2.2 rfl)]
    exact sameSet_walk t false 0 0 0 0 false 0 _ _ _ pr nr cr px nx cx zRuleF q1 c1 q2 c2 r1 r2 rds exs w ht (rowO_of_own ho1) (rowO_of_own ho2) hin.rr hin.rx e1 e2 hl1 hl2 (fun e => by cases e)
  | true =>
    obtain ⟨rfl, sl, v, rfl, hrows, -, hdo⟩ := hrt
    obtain ⟨q, m, rfl, -⟩ := own_slice hdo
    rw [rowA_congr (h.2.2.2.2.1 rfl).2.2]
    refine sameSet_walk t true fr iv wk ct hu (unOf hu un) p n c pr nr cr px nx cx _ q1 c1 q2 c2 r1 r2 rds exs w ht (rowO_of_own ho1) (rowO_of_own ho2) hin.rr hin.rx e1 e2 hl1 hl2 (fun _ => ⟨_, sl, q, m, rfl, agree_raw rfl h hin hrows (rowDO_of_own rfl hdo)⟩)
/-- The lines of a set, its rule's text as the package writes it. -/
theorem raw_len (h : TextSays t hr fr hs st iv wk ct hu un p n c pr nr cr px nx cx l dl rds exs F) (hb : hr = true) : (rrTx (rwOf fr hu un ct iv l dl wk)).length ≤ 10000 :=
  (rrTx_ok (raw_small (h.2.2.2.2.1 hb).1)).len
theorem raw_vis (h : TextSays t hr fr hs st iv wk ct hu un p n c pr nr cr px nx cx l dl rds exs F) (hb : hr = true) : ∀ c ∈ rrTx (rwOf fr hu un ct iv l dl wk), vis c :=
  (rrTx_ok (raw_small (h.2.2.2.2.1 hb).1)).vis
theorem raw_says (h : TextSays t hr fr hs st iv wk ct hu un p n c pr nr cr px nx cx l dl rds exs F) (o : Opt) (ho : (if hr then some (rwOf fr hu un ct iv l dl wk) else none) = some o) : OptGood o ∧ OptSmall o := by
  cases hr with
  | false => cases ho
  | true =>
    cases ho
    exact ⟨raw_good (h.2.2.2.2.1 rfl).1 _, raw_small (h.2.2.2.2.1 rfl).1⟩
end
end Go.Proofs.YtnlpjncljbaapaaGreatDoor
