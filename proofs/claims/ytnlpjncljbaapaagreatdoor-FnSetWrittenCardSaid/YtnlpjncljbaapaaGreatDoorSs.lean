/- laws.ofRule, walked. -/
import Derived.Test.YtnlpjncljbaapaaGreatDoorTsx
import Derived.Test.YtnlpjncljbaapaaGreatDoorLs
import Derived.Test.YtnlpjncljbaapaaGreatDoorRu
import Derived.Test.YtnlpjncljbaapaaGreatDoorSa
namespace Go.Proofs.YtnlpjncljbaapaaGreatDoor
open Go.RowKit

end Go.Proofs.YtnlpjncljbaapaaGreatDoor

/- impl.told, walked. -/
namespace Go.Proofs.YtnlpjncljbaapaaGreatDoor
open Go.RowKit

theorem OptRows.ch {w w' : World} {o : Opt} {sl : Nat → Value} {S : Nat} (h : OptRows w o sl) (hs : SlOff sl S) (hc : Ch (fun i => i = S) w w') : OptRows w' o sl := by
  have key : ∀ g x, g ≠ S → g < w.heap.size → w'.cell? ⟨g, x, none⟩ = w.cell? ⟨g, x, none⟩ := fun g x h1 h2 => World.cell?_of_block (hc.block g h2 h1)
  refine ⟨fun k h1 h2 h3 => ⟨(h.1 k h1 h2 h3).1, fun i x hx => ?_⟩, h.2.1, fun i a b hx => ?_⟩
  · obtain ⟨g, e, hg, hcx⟩ := (h.1 k h1 h2 h3).2 i x hx
    exact ⟨g, e, Nat.lt_of_lt_of_le hg hc.size, (key g _ (hs k h1 h2 g e) hg).trans hcx⟩
  · obtain ⟨g, e, hg, hc1, hc2⟩ := h.2.2 i a b hx
    exact ⟨g, e, Nat.lt_of_lt_of_le hg hc.size, (key g _ (hs 14 (by omega) (by omega) g e) hg).trans hc1, (key g _ (hs 14 (by omega) (by omega) g e) hg).trans hc2⟩
def toldF (t : Int) (b : Bool) (f : Nat → Value) (rd ex : Value) (i : Nat) : Value := if i = 0 then .int .i64 t else if i = 1 then .bool b else if i < 20 then f (i - 2) else if i = 20 then rd else ex
def toldC (t : Int) (u1 u2 : Value) : Array Value := #[.int .i64 t, .bool false, .int .u8 0, .bool false, .int .i64 0, .int .i64 0, .int .i64 0, .int .i64 0, .bool false, .int .i64 0, .slice none 0 0, .slice none 0 0, .slice none 0 0, .slice none 0 0, .slice none 0 0, .slice none 0 0, .slice none 0 0, .slice none 0 0, .slice none 0 0, .slice none 0 0, u1, u2]
theorem toldC_at (t : Int) (u1 u2 : Value) (i : Nat) (hi : i < 22) : (toldC t u1 u2)[i]? = some (toldF t false zRuleF u1 u2 i) := by
  have h22 : i = 0 ∨ i = 1 ∨ i = 2 ∨ i = 3 ∨ i = 4 ∨ i = 5 ∨ i = 6 ∨ i = 7 ∨ i = 8 ∨ i = 9 ∨ i = 10 ∨ i = 11 ∨ i = 12 ∨ i = 13 ∨ i = 14 ∨ i = 15 ∨ i = 16 ∨ i = 17 ∨ i = 18 ∨ i = 19 ∨ i = 20 ∨ i = 21 := by omega
  rcases h22 with h | h | h | h | h | h | h | h | h | h | h | h | h | h | h | h | h | h | h | h | h | h <;> subst h <;> simp [toldC, toldF, zRuleF, zRule]
theorem zRuleF_one (j : Nat) (h : j < 18) : (zRuleF j).oneCell' = true := by
  have h18 : j = 0 ∨ j = 1 ∨ j = 2 ∨ j = 3 ∨ j = 4 ∨ j = 5 ∨ j = 6 ∨ j = 7 ∨ j = 8 ∨ j = 9 ∨ j = 10 ∨ j = 11 ∨ j = 12 ∨ j = 13 ∨ j = 14 ∨ j = 15 ∨ j = 16 ∨ j = 17 := by omega
  rcases h18 with h | h | h | h | h | h | h | h | h | h | h | h | h | h | h | h | h | h <;> subst h <;> rfl
theorem toldF_one (t : Int) (b : Bool) (f : Nat → Value) (hf : ∀ j, j < 18 → (f j).oneCell' = true) {rd ex : Value} (h1 : rd.oneCell' = true) (h2 : ex.oneCell' = true) (i : Nat) (hi : i < 22) : (toldF t b f rd ex i).oneCell' = true := by
  unfold toldF
  split
  · rfl
  split
  · rfl
  split
  · exact hf _ (by omega)
  split
  · exact h1
  · exact h2
theorem own_ne {w w' : World} {base r : Nat} {e : TypeId} {size n : Nat} {v : Value} {xs : List Value} (h : w.ownsRow base e size v n xs) (hg : w.grownBy w' (some r)) (hr : v.ownBlock ≠ some r) : w'.ownsRow base e size v n xs := by
  obtain ⟨h1, h2⟩ := h
  refine ⟨h1, ?_⟩
  rcases h2 with h2 | ⟨g, cap, cur, rfl, hge, hh, h3⟩
  · exact Or.inl h2
  · exact Or.inr ⟨g, cap, cur, rfl, hge, (hg.block g (Array.getElem?_eq_some_iff.1 hh).1 (fun e => hr (by rw [← e]; rfl))).trans hh, h3⟩
/-- What told says of a set's rule. -/
def RuleTold (w : World) (S B : Nat) (t : Int) (b : Bool) (f : Nat → Value) : Option Opt → Prop
  | none => b = false ∧ f = zRuleF
  | some o => b = true ∧ ∃ sl v, f = ruleF o t sl v ∧ OptRows w o sl ∧ (∀ X, X ≤ S → SlOff sl X) ∧ w.ownsRow B 69 2 v o.days.length (dayVs o.days)
end Go.Proofs.YtnlpjncljbaapaaGreatDoor

namespace Go.Proofs.YtnlpjncljbaapaaGreatDoor
open Go.RowKit

theorem rowDO_of_own {w : World} {base : Nat} {e : TypeId} {q : Option Addr} {n c : Nat} {l : List (Int × Int)} (hnl : n = l.length) (h : w.ownsRow base e 2 (.slice q n c) n (dayVs l)) : RowDO w q n l := by
  refine ⟨hnl, fun i a b hx => ?_⟩
  have hi : i < l.length := (List.getElem?_eq_some_iff.1 hx).1
  rcases h.2 with ⟨_, h0⟩ | ⟨g, cap, cur, hv, hb, hh, hnc, hcm, hcs, ht⟩
  · omega
  · cases hv
    have key : ∀ (l : List (Int × Int)) (i : Nat) (a b : Int), l[i]? = some (a, b) → (dayVs l)[i * 2]? = some (.int .i64 a) ∧ (dayVs l)[i * 2 + 1]? = some (.int .i64 b) := by
      intro l
      induction l with
      | nil => intro i a b h; simp at h
      | cons d r ih =>
        intro i a b h
        cases i with
        | zero => simp at h; subst h; exact ⟨rfl, rfl⟩
        | succ i =>
          have := ih i a b (by simpa using h)
          have e1 : dayVs (d :: r) = .int .i64 d.1 :: .int .i64 d.2 :: dayVs r := rfl
          rw [e1, show (i + 1) * 2 = i * 2 + 1 + 1 by omega, show i * 2 + 1 + 1 + 1 = (i * 2 + 1) + 1 + 1 by omega]
          simp only [List.getElem?_cons_succ]
          exact this
    have hcell : ∀ j, j < n * 2 → w.cell? ⟨g, j, none⟩ = (dayVs l)[j]? := fun j hj => by
      rw [← ht, List.getElem?_take_of_lt hj]
      simp only [World.cell?, hh]
      simp
    exact ⟨g, 0, rfl, (Array.getElem?_eq_some_iff.1 hh).1, by rw [Nat.zero_add, hcell _ (by omega)]; exact (key l i a b hx).1, by rw [Nat.zero_add, hcell _ (by omega)]; exact (key l i a b hx).2⟩
theorem info98 : (Tryz.prog.info? 98).map (fun i => (i.zero, i.size, i.bytes)) = some (some (.agg #[.int .i64 0, .int .i64 0]), 2, 16) := by kernel_rfl
end Go.Proofs.YtnlpjncljbaapaaGreatDoor

/- laws.sameSet on sets that agree, walked. -/
namespace Go.Proofs.YtnlpjncljbaapaaGreatDoor
open Go.RowKit

theorem rowA_at (ty : TypeId) (N : Nat) (f : Nat → Value) (W : World) : (W.alloc (.cells (rowA N f) ty)).rowIs W.heap.size ty N f := by
  have h := World.rowIs_alloc W (rowA N f) ty f fun i hi => by rw [rowA_size] at hi; exact rowA_get hi
  rw [rowA_size] at h
  exact h
/-- A rule as impl tells it, and a rule of the specification: they agree. -/
structure Agree (w : World) (o : Opt) (sl : Nat → Value) (q : Option Addr) (fr : Nat) (iv wk ct : Int) (hu : Bool) (un : Int) (p : Nat → Option Addr) (n : Nat → Nat) : Prop where
  fr : o.freq = fr
  iv : max o.interval 1 = max iv 1
  wk : o.wk = wk
  ct : o.count = ct
  hu : (!(decide (o.till = 0))) = hu
  un : o.till = un
  ra : ∀ k, 8 ≤ k → k < 18 → k ≠ 13 → RowO w (slP (sl (k + 1))) (o.l (k + 1)).length (o.l (k + 1))
  rb : ∀ k, 8 ≤ k → k < 18 → k ≠ 13 → RowO w (p k) (n k) (o.l (k + 1))
  da : RowDO w q o.days.length o.days
  db : RowDO w (p 13) (n 13) o.days
  len : ∀ k, (o.l k).length ≤ 1000
  dlen : o.days.length ≤ 1000
theorem Agree.below {w w' : World} {o : Opt} {sl : Nat → Value} {q : Option Addr} {fr : Nat} {iv wk ct : Int} {hu : Bool} {un : Int} {p : Nat → Option Addr} {n : Nat → Nat} (h : Agree w o sl q fr iv wk ct hu un p n) (hb : Below w.heap.size w w') : Agree w' o sl q fr iv wk ct hu un p n :=
  { h with ra := fun k a b c => (h.ra k a b c).below hb, rb := fun k a b c => (h.rb k a b c).below hb, da := h.da.below hb, db := h.db.below hb }
def pA (sl : Nat → Value) (q : Option Addr) (k : Nat) : Option Addr := if k = 13 then q else slP (sl (k + 1))
def nA (o : Opt) (k : Nat) : Nat := if k = 13 then o.days.length else (o.l (k + 1)).length
def cA (sl : Nat → Value) (c : Nat) (k : Nat) : Nat := if k = 13 then c else slC (sl (k + 1))
def lA (o : Opt) (k : Nat) : List Int := o.l (k + 1)
theorem Agree.rows {w W : World} {o : Opt} {sl : Nat → Value} {q q' : Option Addr} {fr : Nat} {iv wk ct : Int} {hu : Bool} {un : Int} {p : Nat → Option Addr} {n : Nat → Nat} (h : Agree w o sl q fr iv wk ct hu un p n) (hb : Below w.heap.size w W) (hq : RowDO W q' o.days.length o.days) : SameRows W (pA sl q') (nA o) p n (lA o) o.days where
  a k h1 h2 h3 := by unfold pA nA; rw [if_neg h3, if_neg h3]; exact (h.below hb).ra k h1 h2 h3
  b k h1 h2 h3 := (h.below hb).rb k h1 h2 h3
  ad := hq
  bd := (h.below hb).db
theorem Agree.small {w : World} {o : Opt} {sl : Nat → Value} {q : Option Addr} {fr : Nat} {iv wk ct : Int} {hu : Bool} {un : Int} {p : Nat → Option Addr} {n : Nat → Nat} (h : Agree w o sl q fr iv wk ct hu un p n) : SmallN (nA o) := fun k _ _ => by
  unfold nA
  have h1 := h.len (k + 1)
  have h2 := h.dlen
  split <;> omega
theorem Agree.cells {w : World} {o : Opt} {sl : Nat → Value} {q : Option Addr} {fr : Nat} {iv wk ct : Int} {hu : Bool} {un : Int} {p : Nat → Option Addr} {n : Nat → Nat} (h : Agree w o sl q fr iv wk ct hu un p n) (t : Int) (q' : Option Addr) (c' : Nat) (F : Nat → Value)
    (hF : ∀ j, j < 18 → F j = if j = 2 then .int .i64 0 else if j = 1 then .bool false else ruleF o t sl (.slice q' o.days.length c') j) : rowA 18 F = sRuleC fr false 0 o.interval wk ct hu un (pA sl q') (nA o) (cA sl c') := by
  rw [← sRuleF_row]
  refine rowA_congr fun j hj => ?_
  rw [hF j hj]
  have h0 := h.fr
  have h4 := h.wk
  have h5 := h.ct
  have h6 := h.hu
  have h7 := h.un
  subst h4 h5 h6 h7
  have h18 : j = 0 ∨ j = 1 ∨ j = 2 ∨ j = 3 ∨ j = 4 ∨ j = 5 ∨ j = 6 ∨ j = 7 ∨ j = 8 ∨ j = 9 ∨ j = 10 ∨ j = 11 ∨ j = 12 ∨ j = 13 ∨ j = 14 ∨ j = 15 ∨ j = 16 ∨ j = 17 := by omega
  rcases h18 with h | h | h | h | h | h | h | h | h | h | h | h | h | h | h | h | h | h <;> subst h <;> simp [ruleF, sRuleF, sRuleC, pA, nA, cA, h0]
end Go.Proofs.YtnlpjncljbaapaaGreatDoor
