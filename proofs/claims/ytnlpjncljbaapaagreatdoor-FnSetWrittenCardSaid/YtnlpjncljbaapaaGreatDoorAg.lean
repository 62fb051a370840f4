/- Plain laws: dates on one line. -/
import Derived.Test.YtnlpjncljbaapaaGreatDoorLd
import Derived.Test.YtnlpjncljbaapaaGreatDoorTsx
import Derived.Test.YtnlpjncljbaapaaGreatDoorSs
namespace Go.Proofs.YtnlpjncljbaapaaGreatDoor
open Go.RowKit

/-- A set as it comes in. -/
structure SetIn (w : World) (p : Nat → Option Addr) (n c : Nat → Nat) (pr : Option Addr) (nr cr : Nat) (px : Option Addr) (nx cx : Nat) (l : Nat → List Int) (dl : List (Int × Int)) (rds exs : List Int) : Prop where
  ro : ∀ k, 8 ≤ k → k < 18 → k ≠ 13 → RowO w (p k) (n k) (l k)
  rd : RowDO w (p 13) (n 13) dl
  nc : ∀ k, 8 ≤ k → k < 18 → n k ≤ c k
  rr : RowO w pr nr rds
  rx : RowO w px nx exs
  px : px = none → cx = 0
theorem SetIn.below {w w' : World} {p : Nat → Option Addr} {n c : Nat → Nat} {pr : Option Addr} {nr cr : Nat} {px : Option Addr} {nx cx : Nat} {l : Nat → List Int} {dl : List (Int × Int)} {rds exs : List Int} (h : SetIn w p n c pr nr cr px nx cx l dl rds exs) (hb : Below w.heap.size w w') :
    SetIn w' p n c pr nr cr px nx cx l dl rds exs := ⟨fun k a b e => (h.ro k a b e).below hb, h.rd.below hb, h.nc, h.rr.below hb, h.rx.below hb, h.px⟩
def LinesAre (ls : List (List UInt8)) (its : List Item) : Prop := ls.length = its.length ∧ ∀ (k : Nat) l it, ls[k]? = some l → its[k]? = some it → LineIs ⟨l.toArray⟩ it
theorem LinesAre.nil : LinesAre [] [] := ⟨rfl, fun k l it h => by simp at h⟩
theorem LinesAre.one {l : List UInt8} {it : Item} (h : LineIs ⟨l.toArray⟩ it) : LinesAre [l] [it] := ⟨rfl, fun k l' it' h1 h2 => by
  cases k with
  | zero => simp at h1 h2; subst h1; subst h2; exact h
  | succ k => simp at h1⟩
theorem LinesAre.app {la lb : List (List UInt8)} {ia ib : List Item} (h : LinesAre la ia) (k : LinesAre lb ib) : LinesAre (la ++ lb) (ia ++ ib) := ⟨by rw [List.length_append, List.length_append, h.1, k.1], fun i l it h1 h2 => by
  by_cases hi : i < la.length
  · rw [List.getElem?_append_left hi] at h1
    rw [List.getElem?_append_left (by rw [← h.1]; exact hi)] at h2
    exact h.2 i l it h1 h2
  · rw [List.getElem?_append_right (by omega)] at h1
    rw [List.getElem?_append_right (by rw [← h.1]; omega), ← h.1] at h2
    exact k.2 _ l it h1 h2⟩
theorem LinesAre.map {xs : List Int} {f : Int → List UInt8} {g : Int → Item} (h : ∀ x ∈ xs, LineIs ⟨(f x).toArray⟩ (g x)) : LinesAre (xs.map f) (xs.map g) := ⟨by simp, fun k l it h1 h2 => by
  rw [List.getElem?_map, Option.map_eq_some_iff] at h1 h2
  obtain ⟨x, hx, rfl⟩ := h1
  obtain ⟨y, hy, rfl⟩ := h2
  obtain rfl := Option.some.inj (hx.symm.trans hy)
  exact h x (List.mem_of_getElem? hx)⟩
/-- The until as the set hands it back. -/
def unOf (hu : Bool) (un : Int) : Int := if hu then un else 0
theorem unOf_at {hu : Bool} {un : Int} (h : hu = true) : unOf hu un = un := by rw [unOf, if_pos h]
section
variable {t : Int} {hr : Bool} {fr : Nat} {hs : Bool} {st iv wk ct : Int} {hu : Bool} {un : Int} {p : Nat → Option Addr} {n c : Nat → Nat} {pr : Option Addr} {nr cr : Nat} {px : Option Addr} {nx cx : Nat} {l : Nat → List Int} {dl : List (Int × Int)} {rds exs : List Int} {f : Nat → Value}
theorem span_ok {l : List Int} (h : ∀ x ∈ l, inSpan x = true) : DateOk l := fun x hx => by
  have := h x hx
  simp [inSpan] at this
  omega
theorem says_dates (h : TextSays t hr fr hs st iv wk ct hu un p n c pr nr cr px nx cx l dl rds exs f) : DateOk rds ∧ DateOk exs :=
  ⟨span_ok fun x hx => h.2.2.2.1 x (by simp [hx]), span_ok fun x hx => h.2.2.2.1 x (by simp [hx])⟩
/-- The start's line. -/
theorem says_start (h : TextSays t hr fr hs st iv wk ct hu un p n c pr nr cr px nx cx l dl rds exs f) : 0 < t ∧ t < 315537897600 := by have := h.1; omega
end
end Go.Proofs.YtnlpjncljbaapaaGreatDoor

namespace Go.Proofs.YtnlpjncljbaapaaGreatDoor
open Go.RowKit

section
variable {t : Int} {hr : Bool} {fr : Nat} {hs : Bool} {st iv wk ct : Int} {hu : Bool} {un : Int} {p : Nat → Option Addr} {n c : Nat → Nat} {pr : Option Addr} {nr cr : Nat} {px : Option Addr} {nx cx : Nat} {l : Nat → List Int} {dl : List (Int × Int)} {rds exs : List Int} {f : Nat → Value}
end
end Go.Proofs.YtnlpjncljbaapaaGreatDoor

/- A set that ParseLines tells and the set that its lines say: laws.sameSet holds of them. -/
namespace Go.Proofs.YtnlpjncljbaapaaGreatDoor
open Go.RowKit

section
variable {t : Int} {hr : Bool} {fr : Nat} {hs : Bool} {st iv wk ct : Int} {hu : Bool} {un : Int} {p : Nat → Option Addr} {n c : Nat → Nat} {pr : Option Addr} {nr cr : Nat} {px : Option Addr} {nx cx : Nat} {l : Nat → List Int} {dl : List (Int × Int)} {rds exs : List Int} {F : Nat → Value}
end
end Go.Proofs.YtnlpjncljbaapaaGreatDoor
