/- The rule that the specification read, and the set's rule: laws.textSame holds of them. -/
import Derived.Test.YtnlpjncljbaapaaGreatDoorAg
import Derived.Test.YtnlpjncljbaapaaGreatDoorLr
import Derived.Test.YtnlpjncljbaapaaGreatDoorWq
import Derived.Test.YtnlpjncljbaapaaGreatDoorWs
import Derived.Test.YtnlpjncljbaapaaGreatDoorWz
import Derived.Test.YtnlpjncljbaapaaGreatDoorRl
import Derived.Test.YtnlpjncljbaapaaGreatDoorWl
namespace Go.Proofs.YtnlpjncljbaapaaGreatDoor
open Go.RowKit

theorem raw_nil (fr : Nat) (un ct iv : Int) (l : Nat → List Int) (dl : List (Int × Int)) (wk : Int) (k : Nat) (h : k < 9 ∨ k = 14 ∨ 18 < k) : (rawOf fr un ct iv l dl wk).l k = [] := by
  show optL l k = []
  match k with
  | 0 | 1 | 2 | 3 | 4 | 5 | 6 | 7 | 8 | 14 => rfl
  | 9 | 10 | 11 | 12 | 13 | 15 | 16 | 17 | 18 => omega
  | k + 19 => simp [optL]
theorem raw_good {fr : Nat} {hs : Bool} {st iv wk ct : Int} {hu : Bool} {un : Int} {l : Nat → List Int} {dl : List (Int × Int)} (h : CleanOk fr hs st iv wk ct hu un l dl) (un' : Int) : OptGood (rawOf fr un' ct iv l dl wk) :=
  have g := clean_good h un'
  { fr := g.fr, len := g.len, dlen := g.dlen, prod := g.prod, bd := g.bd, dbd := g.dbd, iv := h.h_iv.1 }
theorem raw_small {fr : Nat} {hs : Bool} {st iv wk ct : Int} {hu : Bool} {un : Int} {l : Nat → List Int} {dl : List (Int × Int)} (h : CleanOk fr hs st iv wk ct hu un l dl) : OptSmall (rawOf fr (unOf hu un) ct iv l dl wk) where
  fr := (raw_good h 0).fr
  iv := h.h_iv
  wk := h.h_wk
  ct := h.h_ct
  un := by
    show 0 ≤ unOf hu un ∧ unOf hu un < 315537897600
    cases hu with
    | false => exact ⟨by simp [unOf], by simp [unOf]⟩
    | true => have := h.h_un rfl; have := h.h_st; rw [unOf_at rfl]; omega
  l := fun k h1 h2 h3 => by
    have hk : k = 9 ∨ k = 10 ∨ k = 11 ∨ k = 12 ∨ k = 13 ∨ k = 15 ∨ k = 16 ∨ k = 17 ∨ k = 18 := by omega
    rcases hk with e | e | e | e | e | e | e | e | e <;> subst e
    · exact ⟨h.h_l8.1, fun x hx => by have := h.h_l8.2 x hx; omega⟩
    · exact ⟨h.h_l9.1, fun x hx => by have := h.h_l9.2 x hx; omega⟩
    · exact ⟨h.h_l10.1, fun x hx => by have := h.h_l10.2 x hx; omega⟩
    · exact ⟨h.h_l11.1, fun x hx => by have := h.h_l11.2 x hx; omega⟩
    · exact ⟨h.h_l12.1, fun x hx => by have := h.h_l12.2 x hx; omega⟩
    · exact ⟨h.h_l14.1, fun x hx => by have := h.h_l14.2 x hx; omega⟩
    · exact ⟨h.h_l15.1, fun x hx => by have := h.h_l15.2 x hx; omega⟩
    · exact ⟨h.h_l16.1, fun x hx => by have := h.h_l16.2 x hx; omega⟩
    · exact ⟨h.h_l17.1, fun x hx => by have := h.h_l17.2 x hx; omega⟩
  dl := ⟨h.h_dl.1, fun d hd => ⟨(h.h_dl.2 d hd).1, by have := (h.h_dl.2 d hd).2; omega⟩⟩
/-- The options of a set's rule, with nothing left out. -/
def rwOf (fr : Nat) (hu : Bool) (un ct iv : Int) (l : Nat → List Int) (dl : List (Int × Int)) (wk : Int) : Opt := rawOf fr (unOf hu un) ct iv l dl wk
section
variable {t : Int} {hr : Bool} {fr : Nat} {hs : Bool} {st iv wk ct : Int} {hu : Bool} {un : Int} {p : Nat → Option Addr} {n c : Nat → Nat} {pr : Option Addr} {nr cr : Nat} {px : Option Addr} {nx cx : Nat} {l : Nat → List Int} {dl : List (Int × Int)} {rds exs : List Int} {f : Nat → Value}
end
section
variable {t : Int} {hr : Bool} {fr : Nat} {hs : Bool} {st iv wk ct : Int} {hu : Bool} {un : Int} {p : Nat → Option Addr} {n c : Nat → Nat} {pr : Option Addr} {nr cr : Nat} {px : Option Addr} {nx cx : Nat} {l : Nat → List Int} {dl : List (Int × Int)} {rds exs : List Int} {F : Nat → Value}
theorem raw_says (h : TextSays t hr fr hs st iv wk ct hu un p n c pr nr cr px nx cx l dl rds exs F) (o : Opt) (ho : (if hr then some (rwOf fr hu un ct iv l dl wk) else none) = some o) : OptGood o ∧ OptSmall o := by
  cases hr with
  | false => cases ho
  | true =>
    cases ho
    exact ⟨raw_good (h.2.2.2.2.1 rfl).1 _, raw_small (h.2.2.2.2.1 rfl).1⟩
end
end Go.Proofs.YtnlpjncljbaapaaGreatDoor

namespace Go.Proofs.YtnlpjncljbaapaaGreatDoor
open Go.RowKit

theorem zero_good : OptGood (rawOf 0 0 0 0 (fun _ => []) [] 0) where
  fr := by decide
  len := fun k => by
    show (optL (fun _ => []) k).length ≤ 1000
    match k with
    | 0 | 1 | 2 | 3 | 4 | 5 | 6 | 7 | 8 | 9 | 10 | 11 | 12 | 13 | 14 | 15 | 16 | 17 | 18 => exact Nat.zero_le _
    | k + 19 => simp [optL]
  dlen := by decide
  prod := by decide
  bd := fun k hk x hx => by
    have hk : k = 0 ∨ k = 1 ∨ k = 2 ∨ k = 3 ∨ k = 4 ∨ k = 5 ∨ k = 6 ∨ k = 7 := by omega
    rcases hk with e | e | e | e | e | e | e | e <;> subst e <;> cases hx
  dbd := fun d hd => by cases hd
  iv := by decide
section
variable {t : Int} {hr : Bool} {fr : Nat} {hs : Bool} {st iv wk ct : Int} {hu : Bool} {un : Int} {p : Nat → Option Addr} {n c : Nat → Nat} {pr : Option Addr} {nr cr : Nat} {px : Option Addr} {nx cx : Nat} {l : Nat → List Int} {dl : List (Int × Int)} {rds exs : List Int} {f : Nat → Value}
/-- toTextSet of the set that was asked. -/
theorem toText_says (w : World) (h : TextSays t hr fr hs st iv wk ct hu un p n c pr nr cr px nx cx l dl rds exs f) (hin : SetIn w p n c pr nr cr px nx cx l dl rds exs) :
    Calls Tryz.prog 21 #[.agg (rowA 22 f)] w fun e w' => ∃ f' sl q1 c1 q2 c2, e = .returned (.agg (rowA 22 (toldF t hr f' (.slice q1 nr c1) (.slice q2 nx c2)))) ∧ RuleIn w' t hr f' sl (if hr then some (rwOf fr hu un ct iv l dl wk) else none) ∧ RowO w' q1 nr rds ∧ RowO w' q2 nx exs ∧ Below w.heap.size w w' := by
  have ht := (says_start h).1
  have h12 := h.2.1
  have h13 := h.2.2.1
  cases hr with
  | false =>
    have e : rowA 22 f = sSetC t false 0 false 0 0 0 0 false 0 (fun _ => none) (fun _ => 0) (fun _ => 0) pr nr cr px nx cx := by
      rw [rowA_congr (h.2.2.2.2.2 rfl), sSetF_row]
    rw [e]
    refine (toTextSet_any t false 0 0 0 0 false 0 (fun _ => none) (fun _ => 0) (fun _ => 0) pr nr cr px nx cx (fun _ => []) [] rds exs w (fun e => by cases e) hin.rr hin.rx (by omega) (fun e => by cases e) (fun _ => rfl) (fun e => by cases e) (by omega) (by omega)).mono ?_
    rintro e w' ⟨f', sl, q1, c1, q2, c2, he, hri, h1, h2, hb⟩
    exact ⟨f', sl, q1, c1, q2, c2, he, hri zero_good, h1, h2, hb⟩
  | true =>
    obtain ⟨hc, hu0, he⟩ := h.2.2.2.2.1 rfl
    have e : rowA 22 f = sSetC t true fr false 0 iv wk ct hu (unOf hu un) p n c pr nr cr px nx cx := by
      rw [rowA_congr he, sSetF_row]; rfl
    rw [e]
    have hS := raw_small (wk := wk) hc
    refine (toTextSet_any t true fr iv wk ct hu (unOf hu un) p n c pr nr cr px nx cx l dl rds exs w (fun _ => hin) hin.rr hin.rx (by omega) (fun _ => ?_) (fun e => by cases e) (fun _ k h1 h2 => ?_) (by omega) (by omega)).mono ?_
    · cases hu with
      | false => rfl
      | true => simp [unOf, hu0 rfl]
    · by_cases hk : k = 13
      · subst hk
        have := hin.rd.1
        have := hc.h_dl.1
        omega
      · have h3 := (hin.ro k h1 h2 hk).1
        have h4 : (l k).length ≤ 12 := by
          have h9 : k = 8 ∨ k = 9 ∨ k = 10 ∨ k = 11 ∨ k = 12 ∨ k = 14 ∨ k = 15 ∨ k = 16 ∨ k = 17 := by omega
          rcases h9 with e | e | e | e | e | e | e | e | e <;> subst e
          · exact hc.h_l8.1
          · exact hc.h_l9.1
          · exact hc.h_l10.1
          · exact hc.h_l11.1
          · exact hc.h_l12.1
          · exact hc.h_l14.1
          · exact hc.h_l15.1
          · exact hc.h_l16.1
          · exact hc.h_l17.1
        omega
    · rintro e w' ⟨f', sl, q1, c1, q2, c2, he, hri, h1, h2, hb⟩
      exact ⟨f', sl, q1, c1, q2, c2, he, hri (raw_good hc _), h1, h2, hb⟩
end
end Go.Proofs.YtnlpjncljbaapaaGreatDoor

namespace Go.Proofs.YtnlpjncljbaapaaGreatDoor
open Go.RowKit

def ruIt : Option Opt → List SIt
  | none => []
  | some o => [.ru o (oParts o)]
/-- What the lines of a set say, to the specification. -/
def sIts (t : Int) (r : Option Opt) (rds exs : List Int) : List SIt := [.st t] ++ ruIt r ++ rds.map .rd ++ exs.map .ex
def LSays (ls : List (List UInt8)) (its : List SIt) : Prop := ls.length = its.length ∧ ∀ (k : Nat) l it, ls[k]? = some l → its[k]? = some it → it.says l
theorem LSays.nil : LSays [] [] := ⟨rfl, fun k l it h => by simp at h⟩
theorem LSays.one {l : List UInt8} {it : SIt} (h : it.says l) : LSays [l] [it] := ⟨rfl, fun k l' it' h1 h2 => by
  cases k with
  | zero => simp at h1 h2; subst h1; subst h2; exact h
  | succ k => simp at h1⟩
theorem LSays.app {la lb : List (List UInt8)} {ia ib : List SIt} (h : LSays la ia) (k : LSays lb ib) : LSays (la ++ lb) (ia ++ ib) := ⟨by rw [List.length_append, List.length_append, h.1, k.1], fun i l it h1 h2 => by
  by_cases hi : i < la.length
  · rw [List.getElem?_append_left hi] at h1
    rw [List.getElem?_append_left (by rw [← h.1]; exact hi)] at h2
    exact h.2 i l it h1 h2
  · rw [List.getElem?_append_right (by omega)] at h1
    rw [List.getElem?_append_right (by rw [← h.1]; omega), ← h.1] at h2
    exact k.2 _ l it h1 h2⟩
theorem LSays.map {f : Int → List UInt8} {g : Int → SIt} : ∀ {l : List Int}, (∀ x ∈ l, (g x).says (f x)) → LSays (l.map f) (l.map g)
  | [], _ => .nil
  | x :: l, h => (LSays.one (h x (by simp))).app (LSays.map fun y hy => h y (by simp [hy]))
theorem sIts_says {t : Int} {r : Option Opt} {rds exs : List Int} (ht : 0 ≤ t ∧ t < 315537897600) (hr : ∀ o, r = some o → OptSmall o) (h1 : DateOk rds) (h2 : DateOk exs) : LSays (wLines t r rds exs) (sIts t r rds exs) := by
  unfold wLines sIts
  refine ((?_ : LSays ([dtL t] ++ rLine r) ([.st t] ++ ruIt r)).app (.map (f := rdL) (g := SIt.rd) fun x hx => ⟨rfl, h1 x hx⟩)).app (.map (f := exL) (g := SIt.ex) fun x hx => ⟨rfl, h2 x hx⟩)
  refine (LSays.one (l := dtL t) (it := .st t) ⟨rfl, ht⟩).app ?_
  cases r with
  | none => exact .nil
  | some o => exact .one (l := rrL (rrTx o)) (it := .ru o (oParts o)) ⟨rfl, rrTx_58 (hr o rfl), rrTx_len2 (hr o rfl), fun W => rrTx_read (hr o rfl) W⟩
theorem foldl_rd : ∀ (l : List Int) (s : SS), (l.map SIt.rd).foldl SIt.put s = { s with rds := s.rds ++ l }
  | [], s => by cases s; simp
  | x :: l, s => by
    rw [List.map_cons, List.foldl_cons, foldl_rd l]
    simp [SIt.put]
theorem foldl_ex : ∀ (l : List Int) (s : SS), (l.map SIt.ex).foldl SIt.put s = { s with exs := s.exs ++ l }
  | [], s => by cases s; simp
  | x :: l, s => by
    rw [List.map_cons, List.foldl_cons, foldl_ex l]
    simp [SIt.put]
/-- The rule that the specification reads. -/
def ruOf : Option Opt → Option (Opt × Bool)
  | none => none
  | some o => some (putS o1 (oParts o), huS false (oParts o))
theorem putI_sIts (t : Int) (r : Option Opt) (rds exs : List Int) : putI (sIts t r rds exs) = { start := t, started := true, rule := ruOf r, rds := rds, exs := exs } := by
  unfold putI sIts
  rw [List.foldl_append, List.foldl_append, foldl_rd, foldl_ex]
  cases r with
  | none => simp [ruIt, ruOf, SIt.put]
  | some o => simp [ruIt, ruOf, SIt.put]
theorem sIts_ok (t : Int) (r : Option Opt) (rds exs : List Int) (k : Nat) (it : SIt) (h : (sIts t r rds exs)[k]? = some it) : it.ok (putI ((sIts t r rds exs).take k)) := by
  have key : ∀ X : List SIt, (∀ x ∈ X, (∃ y, x = .rd y) ∨ ∃ y, x = .ex y) → ∀ (k : Nat) (it : SIt), X[k]? = some it → ∀ s : SS, it.ok s := fun X hX k it h s => by
    rcases hX it (List.mem_of_getElem? h) with ⟨y, rfl⟩ | ⟨y, rfl⟩ <;> trivial
  have hX : ∀ x ∈ rds.map SIt.rd ++ exs.map SIt.ex, (∃ y, x = SIt.rd y) ∨ ∃ y, x = SIt.ex y := fun x hx => by
    rw [List.mem_append, List.mem_map, List.mem_map] at hx
    rcases hx with ⟨y, _, rfl⟩ | ⟨y, _, rfl⟩
    · exact .inl ⟨y, rfl⟩
    · exact .inr ⟨y, rfl⟩
  unfold sIts at h ⊢
  rw [List.append_assoc] at h ⊢
  cases r with
  | none =>
    cases k with
    | zero => simp at h; subst h; rfl
    | succ k =>
      simp only [ruIt, List.append_nil, List.cons_append, List.nil_append, List.getElem?_cons_succ] at h
      exact key _ hX k it h _
  | some o =>
    cases k with
    | zero => simp at h; subst h; rfl
    | succ k =>
      cases k with
      | zero => simp [ruIt] at h; subst h; exact ⟨rfl, rfl, rfl⟩
      | succ k =>
        simp only [ruIt, List.cons_append, List.nil_append, List.getElem?_cons_succ] at h
        exact key _ hX k it h _
/-- The package's lines, read. -/
theorem readLines_any (t : Int) (r : Option Opt) (rds exs : List Int) (g cap m : Nat) (w : World) (hst : StrsAt w g (wLines t r rds exs)) (hm : (wLines t r rds exs).length = m) (hg : g < w.heap.size) (ht : 0 ≤ t ∧ t < 315537897600) (hr : ∀ o, r = some o → OptSmall o) (h1 : DateOk rds) (h2 : DateOk exs) (hn1 : rds.length ≤ 12) (hn2 : exs.length ≤ 12) :
    Calls Tryz.prog 23 #[.slice (some ⟨g, 0, none⟩) m cap] w fun e w' => GivesSetS { start := t, started := true, rule := ruOf r, rds := rds, exs := exs } w e w' := by
  have hs := sIts_says ht hr h1 h2
  have hl := (wLines_len t r rds exs hn1 hn2).2
  have := readSet_any (wLines t r rds exs) (sIts t r rds exs) g cap w hst hg hs.1 (by omega) hs.2 (sIts_ok t r rds exs)
  rw [putI_sIts, hm] at this
  exact this
end Go.Proofs.YtnlpjncljbaapaaGreatDoor

namespace Go.Proofs.YtnlpjncljbaapaaGreatDoor
open Go.RowKit

theorem LB.rowO {w : World} {N Bs : Nat} {v : Value} {l : List Int} (h : LB w N Bs v l) (hB : Bs ≤ w.heap.size) : RowO w (slP v) l.length l ∧ v = .slice (slP v) l.length (slC v) := by
  rcases h with ⟨rfl, rfl⟩ | ⟨g, c, rfl, hi, h1, h2⟩
  · exact ⟨⟨rfl, fun i x hx => by simp at hx⟩, rfl⟩
  · exact ⟨⟨rfl, fun i x hx => ⟨g, 0, rfl, by omega, by rw [Nat.zero_add]; exact hi i x hx⟩⟩, rfl⟩
theorem DB.rowDO {w : World} {N Bs : Nat} {v : Value} {l : List (Int × Int)} (h : DB w N Bs v l) (hB : Bs ≤ w.heap.size) : RowDO w (slP v) l.length l ∧ v = .slice (slP v) l.length (slC v) := by
  rcases h with ⟨rfl, rfl⟩ | ⟨g, c, rfl, hi, h1, h2⟩
  · exact ⟨⟨rfl, fun i x y hx => by simp at hx⟩, rfl⟩
  · exact ⟨⟨rfl, fun i x y hx => ⟨g, 0, rfl, by omega, by rw [Nat.zero_add]; exact (hi i x y hx).1, by rw [Nat.zero_add]; exact (hi i x y hx).2⟩⟩, rfl⟩
/-- The options that the specification reads out of the package's text. -/
def rdOf (o : Opt) : Opt := { o with interval := if o.interval = 0 then 1 else o.interval }
section
variable {t : Int} {hr : Bool} {fr : Nat} {hs : Bool} {st iv wk ct : Int} {hu : Bool} {un : Int} {p : Nat → Option Addr} {n c : Nat → Nat} {pr : Option Addr} {nr cr : Nat} {px : Option Addr} {nx cx : Nat} {l : Nat → List Int} {dl : List (Int × Int)} {rds exs : List Int} {F : Nat → Value}
theorem same_read {w : World} {N Bs : Nat} {b : Bool} {f : Nat → Value} (hb : hr = true) (h : TextSays t hr fr hs st iv wk ct hu un p n c pr nr cr px nx cx l dl rds exs F) (hin : SetIn w p n c pr nr cr px nx cx l dl rds exs) (hR : RB w N Bs b f (ruOf (some (rwOf fr hu un ct iv l dl wk)))) (hB : Bs ≤ w.heap.size) :
    Calls Tryz.prog 24 #[.agg (rowA 18 f), .agg (rowA 18 fun i => F (2 + i))] w fun e w' => e = .returned (.bool true) ∧ Below w.heap.size w w' := by
  subst hb
  obtain ⟨hc, hu0, hF⟩ := h.2.2.2.2.1 rfl
  obtain ⟨-, sl, rfl, hL, hD⟩ := hR
  have e0 : putS o1 (oParts (rwOf fr hu un ct iv l dl wk)) = rdOf (rwOf fr hu un ct iv l dl wk) := putS_opt _ (raw_nil _ _ _ _ _ _ _)
  have e1 : huS false (oParts (rwOf fr hu un ct iv l dl wk)) = hu := by
    rw [huS_oParts]
    show decide (unOf hu un ≠ 0) = hu
    cases hu with
    | false => rfl
    | true => simp [unOf, hu0 rfl]
  rw [e0] at hL hD
  rw [e0, e1]
  have hS := raw_small (wk := wk) hc
  have el : ∀ k, 8 ≤ k → k < 18 → k ≠ 13 → (rdOf (rwOf fr hu un ct iv l dl wk)).l (k + 1) = l k := fun k h1 h2 h3 => by
    have h9 : k = 8 ∨ k = 9 ∨ k = 10 ∨ k = 11 ∨ k = 12 ∨ k = 14 ∨ k = 15 ∨ k = 16 ∨ k = 17 := by omega
    rcases h9 with h | h | h | h | h | h | h | h | h <;> subst h <;> rfl
  have hrow : ∀ k, 8 ≤ k → k < 18 → k ≠ 13 → RowO w (slP (sl k)) (l k).length (l k) ∧ sl k = .slice (slP (sl k)) (l k).length (slC (sl k)) := fun k h1 h2 h3 => by
    have := (hL (k + 1) (by omega)).rowO hB
    rw [Nat.add_sub_cancel, el k h1 h2 h3] at this
    exact this
  have hday : RowDO w (slP (sl 13)) dl.length dl ∧ sl 13 = .slice (slP (sl 13)) dl.length (slC (sl 13)) := hD.rowDO hB
  have hA : rowA 18 (sF (rdOf (rwOf fr hu un ct iv l dl wk)) hu sl) = sRuleC fr false 0 (if iv = 0 then 1 else iv) wk ct hu (unOf hu un) (fun k => slP (sl k)) (fun k => if k = 13 then dl.length else (l k).length) (fun k => slC (sl k)) := by
    have q : ∀ k, 8 ≤ k → k < 18 → k ≠ 13 → sl k = .slice (slP (sl k)) (l k).length (slC (sl k)) := fun k h1 h2 h3 => (hrow k h1 h2 h3).2
    have q8 := q 8 (by omega) (by omega) (by omega)
    have q9 := q 9 (by omega) (by omega) (by omega)
    have q10 := q 10 (by omega) (by omega) (by omega)
    have q11 := q 11 (by omega) (by omega) (by omega)
    have q12 := q 12 (by omega) (by omega) (by omega)
    have q13 := hday.2
    have q14 := q 14 (by omega) (by omega) (by omega)
    have q15 := q 15 (by omega) (by omega) (by omega)
    have q16 := q 16 (by omega) (by omega) (by omega)
    have q17 := q 17 (by omega) (by omega) (by omega)
    show (#[Value.int .u8 (fr : Int), .bool false, .int .i64 0, .int .i64 (if iv = 0 then 1 else iv), .int .i64 wk, .int .i64 ct, .bool hu, .int .i64 (unOf hu un), sl 8, sl 9, sl 10, sl 11, sl 12, sl 13, sl 14, sl 15, sl 16, sl 17] : Array Value) = #[.int .u8 (fr : Int), .bool false, .int .i64 0, .int .i64 (if iv = 0 then 1 else iv), .int .i64 wk, .int .i64 ct, .bool hu, .int .i64 (unOf hu un), .slice (slP (sl 8)) (l 8).length (slC (sl 8)), .slice (slP (sl 9)) (l 9).length (slC (sl 9)), .slice (slP (sl 10)) (l 10).length (slC (sl 10)), .slice (slP (sl 11)) (l 11).length (slC (sl 11)), .slice (slP (sl 12)) (l 12).length (slC (sl 12)), .slice (slP (sl 13)) dl.length (slC (sl 13)), .slice (slP (sl 14)) (l 14).length (slC (sl 14)), .slice (slP (sl 15)) (l 15).length (slC (sl 15)), .slice (slP (sl 16)) (l 16).length (slC (sl 16)), .slice (slP (sl 17)) (l 17).length (slC (sl 17))]
    rw [← q8, ← q9, ← q10, ← q11, ← q12, ← q13, ← q14, ← q15, ← q16, ← q17]
  have hA2 : rowA 18 (fun i => F (2 + i)) = sRuleC fr false 0 iv wk ct hu (unOf hu un) p n c := by
    rw [rowA_congr (g := fun i => sSetF t true fr false 0 iv wk ct hu (unOf hu un) p n c pr nr cr px nx cx (2 + i)) fun i hi => hF (2 + i) (by omega)]
    exact sSetF_rule _ _ _ _ _ _ _ _ _ _ _ _ _ _ _ _ _ _ _
  rw [hA, hA2]
  have hl12 : ∀ k, 8 ≤ k → k < 18 → k ≠ 13 → (l k).length ≤ 12 := fun k h1 h2 h3 => by
    have := (hS.l (k + 1) (by omega) (by omega) (by omega)).1
    have e := el k h1 h2 h3
    rw [← e]; exact this
  refine textSame_any fr _ iv wk ct hu (unOf hu un) _ _ _ p n c l dl w ⟨fun k h1 h2 h3 => ?_, hin.ro, ?_, hin.rd⟩ (fun k h1 h2 => ?_) ?_
  · show RowO w (slP (sl k)) (if k = 13 then dl.length else (l k).length) (l k)
    rw [if_neg h3]; exact (hrow k h1 h2 h3).1
  · exact hday.1
  · show (if k = 13 then dl.length else (l k).length) ≤ _
    by_cases h3 : k = 13
    · rw [if_pos h3]; have := hc.h_dl.1; omega
    · rw [if_neg h3]; have := hl12 k h1 h2 h3; omega
  · have := hc.h_iv.1
    split <;> omega
end
end Go.Proofs.YtnlpjncljbaapaaGreatDoor
