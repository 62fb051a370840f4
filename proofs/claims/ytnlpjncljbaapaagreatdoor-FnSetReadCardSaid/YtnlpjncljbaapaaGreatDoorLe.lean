/- The lines of a clean set: what SetTexts gives, and what they say. -/
import Derived.Test.YtnlpjncljbaapaaGreatDoorLd
import Derived.Test.YtnlpjncljbaapaaGreatDoorTx
namespace Go.Proofs.YtnlpjncljbaapaaGreatDoor
open Go.RowKit

theorem step_load_row {P : Program} {ops : Array Oper} {o : Oper} {a : Act} {w : World} {K : Act → World → Prop} {Q : Exit → Act → World → Prop} {E : Prop} (hgd : o.guard = none) (ty : TypeId) (x : Operand) (ho : o.op = .load ty x) (b t N : Nat) (f : Nat → Value) (hx : a.eval x = .pointer (some ⟨b, 0, none⟩)) (h : w.rowIs b t N f)
    (d : TypeDesc) (hu : P.underlying ty = some d) (hd : d.isRow = true) (hi : (P.info? ty).map (·.size) = some N) (hK : K (a.put o.dst (.agg (rowA N f))) w) :
    if Region.wanted o (yielded ops a.tmps) = true then Oper.wp P o a w K Q else E := by
  have hw : Region.wanted o (yielded ops a.tmps) = true := by simp [Region.wanted, hgd]
  rw [if_pos hw]
  refine wp_load_mid ty x ho b 0 hx _ d (rowIs_range h 0 N (by omega)) hu hd (by rw [hi]; simp) ?_
  simp only [Nat.zero_add]
  exact hK
/-- A whole struct is stored into the block that was made last. -/
theorem step_store_last {P : Program} {ops : Array Oper} {o : Oper} {a : Act} {W : World} {K : Act → World → Prop} {Q : Exit → Act → World → Prop} {E : Prop} (hgd : o.guard = none) (t : TypeId) (m x : Operand) (hop : o.op = Op.store t m x) (c c' : Array Value)
    (hm : a.eval m = .pointer (some ⟨W.heap.size, 0, none⟩)) (hx : a.eval x = .agg c') (hi : (P.info? t).map (·.size) = some c'.size) (ho : c.size = c'.size) (h1 : c'.all (·.oneCell') = true)
    (hK : K (a.put o.dst undef) (W.alloc (.cells c' t))) : if Region.wanted o (yielded ops a.tmps) = true then Oper.wp P o a (W.alloc (.cells c t)) K Q else E := by
  have hw : Region.wanted o (yielded ops a.tmps) = true := by simp [Region.wanted, hgd]
  rw [if_pos hw]
  have hrun := run_storeAt_new (P := P) W t c c' hi ho h1
  unfold Oper.wp
  simp [execOp, hop, hm, hx, hrun, Result.andThen]
  exact hK
theorem news1 {W : World} {N : Nat} {v : Value} (h : W.cell? ⟨N, 0, none⟩ = some v) : ∀ (j : Nat) u, [v][j]? = some u → W.cell? ((⟨N, 0, none⟩ : Addr).add j) = some u := fun j u hu => by
  cases j with
  | zero => simp at hu; subst hu; rw [add_plain]; exact h
  | succ j => simp at hu
theorem own_top {w : World} {base : Nat} {e : TypeId} {size n : Nat} {v : Value} {xs : List Value} (h : w.ownsRow base e size v n xs) (hn : 0 < n) : base ≤ w.heap.size := by
  rcases h.2 with ⟨_, h0⟩ | ⟨g, cap, cur, _, hg, hh, _⟩
  · omega
  · exact Nat.le_of_lt (Nat.lt_of_le_of_lt hg (Array.getElem?_eq_some_iff.1 hh).1)
/-- A set as it comes in. -/
structure SetIn (w : World) (p : Nat → Option Addr) (n c : Nat → Nat) (pr : Option Addr) (nr cr : Nat) (px : Option Addr) (nx cx : Nat) (l : Nat → List Int) (dl : List (Int × Int)) (rds exs : List Int) : Prop where
  ro : ∀ k, 8 ≤ k → k < 18 → k ≠ 13 → RowO w (p k) (n k) (l k)
  rd : RowDO w (p 13) (n 13) dl
  nc : ∀ k, 8 ≤ k → k < 18 → n k ≤ c k
  rr : RowO w pr nr rds
  rx : RowO w px nx exs
  px : px = none → cx = 0
theorem SetIn.below {w w' : World} {p : Nat → Option Addr} {n c : Nat → Nat} {pr : Option Addr} {nr cr : Nat} {px : Option Addr} {nx cx : Nat} {l : Nat → List Int} {dl : List (Int × Int)} {rds exs : List Int} (h : SetIn w p n c pr nr cr px nx cx l dl rds exs) (hb : Below w.heap.size w w') :
    SetIn w' p n c pr nr cr px nx cx l dl rds exs := ⟨fun k a b e => (h.ro k a b e).below hb, h.rd.below hb, h.nc, h.rr.below hb, h.rx.below hb, h.px⟩
def LinesAre (ls : List (List UInt8)) (its : List Item) : Prop := ls.length = its.length ∧ ∀ (k : Nat) l it, ls[k]? = some l → its[k]? = some it → LineIs ⟨l.toArray⟩ it
theorem LinesAre.nil : LinesAre [] [] := ⟨rfl, fun k l it h => by simp at h⟩
theorem LinesAre.one {l : List UInt8} {it : Item} (h : LineIs ⟨l.toArray⟩ it) : LinesAre [l] [it] := ⟨rfl, fun k l' it' h1 h2 => by
  cases k with
  | zero => simp at h1 h2; subst h1; subst h2; exact h
  | succ k => simp at h1⟩
theorem LinesAre.app {la lb : List (List UInt8)} {ia ib : List Item} (h : LinesAre la ia) (k : LinesAre lb ib) : LinesAre (la ++ lb) (ia ++ ib) := ⟨by rw [List.length_append, List.length_append, h.1, k.1], fun i l it h1 h2 => by
  by_cases hi : i < la.length
  · rw [List.getElem?_append_left hi] at h1
    rw [List.getElem?_append_left (by rw [← h.1]; exact hi)] at h2
    exact h.2 i l it h1 h2
  · rw [List.getElem?_append_right (by omega)] at h1
    rw [List.getElem?_append_right (by rw [← h.1]; omega), ← h.1] at h2
    exact k.2 _ l it h1 h2⟩
theorem LinesAre.map {xs : List Int} {f : Int → List UInt8} {g : Int → Item} (h : ∀ x ∈ xs, LineIs ⟨(f x).toArray⟩ (g x)) : LinesAre (xs.map f) (xs.map g) := ⟨by simp, fun k l it h1 h2 => by
  rw [List.getElem?_map, Option.map_eq_some_iff] at h1 h2
  obtain ⟨x, hx, rfl⟩ := h1
  obtain ⟨y, hy, rfl⟩ := h2
  obtain rfl := Option.some.inj (hx.symm.trans hy)
  exact h x (List.mem_of_getElem? hx)⟩
def restL (hr : Bool) (tx : List UInt8) (rds exs : List Int) : List (List UInt8) := opt1 hr (rrL tx) ++ rds.map rdL ++ exs.map exL
theorem setLines_cons (t : Int) (hr : Bool) (tx : List UInt8) (rds exs : List Int) : setLines t hr tx rds exs = dtL t :: restL hr tx rds exs := by simp [setLines, restL]
def ruleIt (hr : Bool) (o : Opt) : List Item := if hr then [.rule o] else []
def itsOf (hr : Bool) (o : Opt) (rds exs : List Int) : List Item := ruleIt hr o ++ rds.map (fun x => .dates true [x]) ++ exs.map (fun x => .dates false [x])
theorem rest_are {hr : Bool} {o : Opt} {tx : List UInt8} {rds exs : List Int} (h : hr = true → LineIs ⟨(rrL tx).toArray⟩ (.rule o)) (h1 : DateOk rds) (h2 : DateOk exs) : LinesAre (restL hr tx rds exs) (itsOf hr o rds exs) := by
  refine ((?_ : LinesAre (opt1 hr (rrL tx)) (ruleIt hr o)).app (.map fun x hx => date_line x (h1 x hx) true)).app (.map fun x hx => date_line x (h2 x hx) false)
  cases hr with
  | false => exact .nil
  | true => exact .one (h rfl)
theorem rule_first {hr : Bool} {o : Opt} {rds exs : List Int} {bad : List Item} (hb : ∀ o', Item.rule o' ∉ bad) (k : Nat) (o' : Opt) (h : (itsOf hr o rds exs ++ bad)[k]? = some (.rule o')) : k = 0 := by
  have key : ∀ X : List Item, (∀ o', Item.rule o' ∉ X) → ∀ k o', (ruleIt hr o ++ X)[k]? = some (.rule o') → k = 0 := fun X hX k o' h => by
    cases hr with
    | false => exact absurd (List.mem_of_getElem? h) (hX o')
    | true =>
      cases k with
      | zero => rfl
      | succ k => exact absurd (List.mem_of_getElem? (show X[k]? = some (.rule o') from h)) (hX o')
  refine key (rds.map (fun x => .dates true [x]) ++ exs.map (fun x => .dates false [x]) ++ bad) (fun o' hm => ?_) k o' (by simpa [itsOf] using h)
  simp at hm
  exact hb o' hm
theorem itsOf_good (hr : Bool) (o : Opt) (rds exs : List Int) : Item.bad ∉ itsOf hr o rds exs := by
  cases hr <;> simp [itsOf, ruleIt]
theorem restL_len (hr : Bool) (tx : List UInt8) (rds exs : List Int) : (restL hr tx rds exs).length ≤ 1 + rds.length + exs.length := by
  have := opt1_len hr (rrL tx)
  simp [restL]
  omega
/-- The until as the set hands it back. -/
def unOf (hu : Bool) (un : Int) : Int := if hu then un else 0
def txOf (fr : Nat) (hu : Bool) (un ct iv : Int) (l : Nat → List Int) (dl : List (Int × Int)) (wk : Int) : List UInt8 := ruleTx fr hu (unOf hu un) ct iv l dl wk
def opOf (fr : Nat) (hu : Bool) (un ct iv : Int) (l : Nat → List Int) (dl : List (Int × Int)) (wk : Int) : Opt := optOf fr hu (unOf hu un) ct iv l dl wk
theorem unOf_at {hu : Bool} {un : Int} (h : hu = true) : unOf hu un = un := by rw [unOf, if_pos h]
section
variable {t : Int} {hr : Bool} {fr : Nat} {hs : Bool} {st iv wk ct : Int} {hu : Bool} {un : Int} {p : Nat → Option Addr} {n c : Nat → Nat} {pr : Option Addr} {nr cr : Nat} {px : Option Addr} {nx cx : Nat} {l : Nat → List Int} {dl : List (Int × Int)} {rds exs : List Int} {f : Nat → Value}
theorem span_ok {l : List Int} (h : ∀ x ∈ l, inSpan x = true) : DateOk l := fun x hx => by
  have := h x hx
  simp [inSpan] at this
  omega
theorem says_dates (h : TextSays t hr fr hs st iv wk ct hu un p n c pr nr cr px nx cx l dl rds exs f) : DateOk rds ∧ DateOk exs :=
  ⟨span_ok fun x hx => h.2.2.2.1 x (by simp [hx]), span_ok fun x hx => h.2.2.2.1 x (by simp [hx])⟩
theorem says_rest (h : TextSays t hr fr hs st iv wk ct hu un p n c pr nr cr px nx cx l dl rds exs f) : LinesAre (restL hr (txOf fr hu un ct iv l dl wk) rds exs) (itsOf hr (opOf fr hu un ct iv l dl wk) rds exs) := by
  refine rest_are (fun hb => ?_) (says_dates h).1 (says_dates h).2
  obtain ⟨hc, _, _⟩ := h.2.2.2.2.1 hb
  have hS := clean_small hc (unOf hu un) fun e => unOf_at e
  have := rule_line hS (by rw [putAll_parts]; exact clean_good hc _)
  rw [putAll_parts] at this
  exact this
theorem gCell_at (j : Nat) (h : j < 9) : 8 ≤ gCell j ∧ gCell j < 18 ∧ gCell j ≠ 13 := by
  have h : j = 0 ∨ j = 1 ∨ j = 2 ∨ j = 3 ∨ j = 4 ∨ j = 5 ∨ j = 6 ∨ j = 7 ∨ j = 8 := by omega
  rcases h with h | h | h | h | h | h | h | h | h <;> subst h <;> decide
theorem tx_len (h : TextSays t hr fr hs st iv wk ct hu un p n c pr nr cr px nx cx l dl rds exs f) (hb : hr = true) : (txOf fr hu un ct iv l dl wk).length ≤ 10000 :=
  (ruleTx_ok (clean_small (h.2.2.2.2.1 hb).1 (unOf hu un) fun e => unOf_at e)).len
theorem texts_any (w : World) (hG : Glob w) (hin : SetIn w p n c pr nr cr px nx cx l dl rds exs) (h : TextSays t hr fr hs st iv wk ct hu un p n c pr nr cr px nx cx l dl rds exs f) :
    Calls Tryz.prog 13 #[.agg (rowA 22 f), .slice none 0 0] w fun e w' => GivesOwn (setLines t hr (txOf fr hu un ct iv l dl wk) rds exs) w e w' := by
  have hd := says_dates h
  cases hr with
  | false =>
    have e : rowA 22 f = sSetC t false 0 false 0 0 0 0 false 0 (fun _ => none) (fun _ => 0) (fun _ => 0) pr nr cr px nx cx := by
      rw [rowA_congr (h.2.2.2.2.2 rfl), sSetF_row]
    rw [e]
    exact setTexts_nil t false 0 false 0 0 0 0 false 0 (fun _ => none) (fun _ => 0) (fun _ => 0) pr nr cr px nx cx [] rds exs w hG (by have := h.1; omega) (fun e => by cases e) (by simp) hin.rr hin.rx h.2.1 h.2.2.1 hd.1 hd.2
  | true =>
    obtain ⟨hc, hu0, he⟩ := h.2.2.2.2.1 rfl
    have e : rowA 22 f = sSetC t true fr false 0 iv wk ct hu (unOf hu un) p n c pr nr cr px nx cx := by
      rw [rowA_congr he, sSetF_row]; rfl
    rw [e]
    have hS := clean_small (wk := wk) hc (unOf hu un) fun e => unOf_at e
    refine setTexts_nil t true fr false 0 iv wk ct hu (unOf hu un) p n c pr nr cr px nx cx (txOf fr hu un ct iv l dl wk) rds exs w hG (by have := h.1; omega) (fun _ W hW => ?_) (by have := tx_len h rfl; omega) hin.rr hin.rx h.2.1 h.2.2.1 hd.1 hd.2
    refine text_nil fr false 0 iv wk ct hu (unOf hu un) p n c (partsL fr hu (unOf hu un) ct iv l dl wk) W (fun W2 h2 => ?_) (fun x hx => ?_) (parts_len _ _ _ _ _ _ _ _)
    · have hin2 := (hin.below hW).below h2
      have i64 : ∀ x : Int, -10000 < x → x < 10000 → int64 x := fun x a b => by unfold int64; omega
      exact parts_any fr false 0 iv wk ct hu (unOf hu un) p n c W2 ((hG.on hW).on h2) hS.fr hS.un (i64 _ (by have := hS.ct; omega) (by have := hS.ct; omega)) (i64 _ (by have := hS.iv; omega) (by have := hS.iv; omega)) l
        (fun j hj => hin2.ro _ (gCell_at j hj).1 (gCell_at j hj).2.1 (gCell_at j hj).2.2) (fun j hj => by have := (hS.l j hj).1; omega) (fun j hj x hx => i64 x ((hS.l j hj).2 x hx).1 ((hS.l j hj).2 x hx).2) dl hin2.rd (by have := hS.dl.1; omega)
        (fun x hx => ⟨i64 _ (hS.dl.2 x hx).2.1 (hS.dl.2 x hx).2.2, (hS.dl.2 x hx).1.1, (hS.dl.2 x hx).1.2⟩) hS.wk
    · obtain ⟨q, hq⟩ := good_of (says_parts hS) x hx
      have := hq.len
      omega
/-- The start's line. -/
theorem says_start (h : TextSays t hr fr hs st iv wk ct hu un p n c pr nr cr px nx cx l dl rds exs f) : 0 < t ∧ t < 315537897600 := by have := h.1; omega
end
end Go.Proofs.YtnlpjncljbaapaaGreatDoor
