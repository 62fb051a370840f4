/- Words that the walks share: a row of the call's own that is appended to; texts in a row. -/
import Derived.Test.YtnlpjncljbaapaaGreatDoorZu
import Derived.Test.YtnlpjncljbaapaaGreatDoorShelf
import Derived.Maps.AppendAt
import Derived.Deep.AppendLies
import Derived.Lib.PathFns
import Derived.Lib.Strings
import Derived.WalkSmall
import Derived.OneCell
import Derived.Deep.Draws
import Derived.Laws.OwnMore
namespace Go.Proofs.YtnlpjncljbaapaaGreatDoor
open Go.RowKit

theorem add_plain (g j : Nat) : (⟨g, 0, none⟩ : Addr).add j = ⟨g, j, none⟩ := by unfold Addr.add; split <;> simp_all
theorem add_off (g o j : Nat) : (⟨g, o, none⟩ : Addr).add j = ⟨g, o + j, none⟩ := by unfold Addr.add; split <;> simp_all

section
variable {P : Program} {ops : Array Oper} {rest : List Oper} {o : Oper} {a : Act} {Q : Exit → Act → World → Prop}
/-- 'append(v, x)' onto a row of the call's own; x, of one cell or several, lies in the box that the call has just made. -/
theorem app_own {W : World} (base : Nat) (hgd : o.guard = none) (s x : Operand) (t e : TypeId) (z : Value) (size bytes : Nat)
    (ho : o.op = .call { callee := .builtin .append, args := #[s, x], argTypes := #[t, t] })
    (ht : P.underlying t = some (.slice e)) (hinfo : (P.info? e).map (fun i => (i.zero, i.size, i.bytes)) = some (some z, size, bytes)) (hz : z.cells.size = size) (hsz : 0 < size) (hb0 : 0 < bytes)
    (v : Value) (n : Nat) (xs : List Value) (ys : List Value) (hs : a.eval s = v) (hx : a.eval x = .slice (some ⟨W.heap.size, 0, none⟩) 1 1) (hys : ys.length = size) (h1 : ∀ u ∈ ys, u.oneCell' = true)
    (HO : W.ownsRow base e size v n xs) (hbase : base ≤ W.heap.size) (hl : (n + 1) * bytes ≤ 140737488355328)
    (h : ∀ g cap w1, w1.ownsRow base e size (.slice (some ⟨g, 0, none⟩) (n + 1) cap) (n + 1) (xs ++ ys) → base ≤ g → g < w1.heap.size → n + 1 ≤ cap → W.grownBy w1 v.ownBlock → (some g = v.ownBlock ∨ W.heap.size ≤ g) → wpList P ops Q rest (a.put o.dst (.slice (some ⟨g, 0, none⟩) (n + 1) cap)) w1) :
    wpList P ops Q (o :: rest) a (W.alloc (.cells ys.toArray e)) := by
  obtain ⟨i0, hi, hzz⟩ := Option.map_eq_some_iff.1 hinfo
  simp only [Prod.mk.injEq] at hzz
  obtain ⟨hz0, hz1, hz2⟩ := hzz
  have hlen : n + 1 ≤ 140737488355328 := Nat.le_trans (Nat.le_mul_of_pos_right _ hb0) hl
  refine wpList_append_own_at (w := W.alloc (.cells ys.toArray e)) hgd s x t ho base e i0 z size bytes ht hi hz0 hz1 hz2 hz hsz v n xs hs (HO.alloc _) ⟨W.heap.size, 0, none⟩ 1 1 ys hx (by omega)
    (World.news_of_block (cs := ys.toArray) (t := e) (fr := (0, 0)) (heap_alloc_new W _)) h1 (by simp only [maxLen]; omega) hl (by simp; omega) ?_
  intro v1 w1 hown hg _ hat
  rcases hown.2 with ⟨_, h0⟩ | ⟨g, cap, cur, rfl, hb, hh, hcap, _⟩
  · omega
  have hlt : g < w1.heap.size := (Array.getElem?_eq_some_iff.1 hh).1
  refine h g cap w1 hown hb hlt hcap (World.grownBy.trans (World.grownBy_alloc W _ _) hg) ?_
  rcases hat with hat | hat
  · exact .inl hat
  · refine .inr ?_
    simp [Value.ownBlock] at hat
    omega
end

/-- Texts in a row of memory. -/
def StrsAt (w : World) (g : Nat) (xs : List (List UInt8)) : Prop := ∀ j x, xs[j]? = some x → w.cell? ⟨g, j, none⟩ = some (.string ⟨x.toArray⟩)
theorem StrsAt.keep {w w' : World} {g : Nat} {xs : List (List UInt8)} (h : StrsAt w g xs) (hk : ∀ j, w'.cell? ⟨g, j, none⟩ = w.cell? ⟨g, j, none⟩) : StrsAt w' g xs := fun j x hx => (hk j).trans (h j x hx)
theorem StrsAt.below {w w' : World} {g B : Nat} {xs : List (List UInt8)} (h : StrsAt w g xs) (hb : Below B w w') (hg : g < B) : StrsAt w' g xs := h.keep fun _ => hb.cell hg
def strV (x : List UInt8) : Value := .string ⟨x.toArray⟩
def strVs (xs : List (List UInt8)) : List Value := xs.map strV
theorem strVs_snoc (xs : List (List UInt8)) (x : List UInt8) : strVs (xs ++ [x]) = strVs xs ++ [.string ⟨x.toArray⟩] := by simp [strVs, strV]
theorem StrsAt.of_own {w : World} {base g cap n : Nat} {e : TypeId} {xs : List (List UInt8)} (h : w.ownsRow base e 1 (.slice (some ⟨g, 0, none⟩) n cap) n (strVs xs)) : StrsAt w g xs := fun j x hx => by
  have := h.cells (g := g) rfl j (.string ⟨x.toArray⟩) (by simp [strVs, strV, hx])
  rwa [add_plain] at this

/-- A call hands back new texts in a row. -/
def GivesStrs (xs : List (List UInt8)) (w : World) (e : Ending) (w' : World) : Prop :=
  ∃ g cap, e = .returned (.slice (some ⟨g, 0, none⟩) xs.length cap) ∧ xs.length ≤ cap ∧ StrsAt w' g xs ∧ w.heap.size ≤ g ∧ g < w'.heap.size ∧ Below w.heap.size w w'

theorem own_nil (W : World) (base : Nat) (e : TypeId) (size : Nat) : W.ownsRow base e size (.slice none 0 0) 0 [] := ⟨by simp, .inl ⟨rfl, rfl⟩⟩
theorem own_base {w : World} {base : Nat} {e : TypeId} {size n : Nat} {v : Value} {xs : List Value} (h : w.ownsRow base e size v n xs) (k : Nat) (hk : v.ownBlock = some k) : base ≤ k := (h.lt k hk).1
theorem info9 : (Tryz.prog.info? 9).map (fun i => (i.zero, i.size, i.bytes)) = some (some (.string ⟨#[]⟩), 1, 16) := by kernel_rfl
theorem info3 : (Tryz.prog.info? 3).map (fun i => (i.zero, i.size, i.bytes)) = some (some (.int .i64 0), 1, 8) := by kernel_rfl
theorem info2 : (Tryz.prog.info? 2).map (fun i => (i.zero, i.size, i.bytes)) = some (some (.int .i64 0), 1, 8) := by kernel_rfl
end Go.Proofs.YtnlpjncljbaapaaGreatDoor
