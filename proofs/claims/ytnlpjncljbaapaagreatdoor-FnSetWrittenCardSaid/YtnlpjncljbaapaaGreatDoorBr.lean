/- buildRRule, walked. -/
import Derived.Test.YtnlpjncljbaapaaGreatDoorSt
import Derived.Test.YtnlpjncljbaapaaGreatDoorRo
import Derived.Deep.RegionLaw
import Derived.Deep.RegionHeld3
namespace Go.Proofs.YtnlpjncljbaapaaGreatDoor
open Go.RowKit
def optF (fr t t2 iv wk wn ct un u2 : Int) (p : Nat → Option Addr) (n c : Nat → Nat) : Nat → Value
  | 0 => .int .i64 fr
  | 1 => .int .i64 t
  | 2 => .int .i64 t2
  | 3 => .int .i64 iv
  | 4 => .int .i64 wk
  | 5 => .int .i64 wn
  | 6 => .int .i64 ct
  | 7 => .int .i64 un
  | 8 => .int .i64 u2
  | k => .slice (p k) (n k) (c k)
theorem optF_sl (fr t t2 iv wk wn ct un u2 : Int) (p : Nat → Option Addr) (n c : Nat → Nat) (k : Nat) (h : 9 ≤ k) : optF fr t t2 iv wk wn ct un u2 p n c k = .slice (p k) (n k) (c k) := by
  match k, h with
  | k + 9, _ => rfl
theorem optV_row (fr t t2 iv wk wn ct un u2 : Int) (p : Nat → Option Addr) (n c : Nat → Nat) : optV fr t t2 iv wk wn ct un u2 p n c = .agg (rowA 19 (optF fr t t2 iv wk wn ct un u2 p n c)) := rfl
theorem optF_one (fr t t2 iv wk wn ct un u2 : Int) (p : Nat → Option Addr) (n c : Nat → Nat) (k : Nat) : (optF fr t t2 iv wk wn ct un u2 p n c k).oneCell' = true := by
  match k with
  | 0 | 1 | 2 | 3 | 4 | 5 | 6 | 7 | 8 => rfl
  | k + 9 => rfl
def zF (k : Nat) : Value := if k < 9 ∨ (19 ≤ k ∧ k < 28) ∨ (38 ≤ k ∧ k < 46) ∨ 59 ≤ k then .int .i64 0 else .slice none 0 0
theorem zF_one (k : Nat) : (zF k).oneCell' = true := by unfold zF; split <;> rfl
def zA : Array Value := #[.int .i64 0, .int .i64 0, .int .i64 0, .int .i64 0, .int .i64 0, .int .i64 0, .int .i64 0, .int .i64 0, .int .i64 0, .slice none 0 0, .slice none 0 0, .slice none 0 0, .slice none 0 0, .slice none 0 0, .slice none 0 0, .slice none 0 0, .slice none 0 0, .slice none 0 0, .slice none 0 0, .int .i64 0, .int .i64 0, .int .i64 0, .int .i64 0, .int .i64 0, .int .i64 0, .int .i64 0, .int .i64 0, .int .i64 0, .slice none 0 0, .slice none 0 0, .slice none 0 0, .slice none 0 0, .slice none 0 0, .slice none 0 0, .slice none 0 0, .slice none 0 0, .slice none 0 0, .slice none 0 0, .int .i64 0, .int .i64 0, .int .i64 0, .int .i64 0, .int .i64 0, .int .i64 0, .int .i64 0, .int .i64 0, .slice none 0 0, .slice none 0 0, .slice none 0 0, .slice none 0 0, .slice none 0 0, .slice none 0 0, .slice none 0 0, .slice none 0 0, .slice none 0 0, .slice none 0 0, .slice none 0 0, .slice none 0 0, .slice none 0 0, .int .i64 0]
theorem zA_row : zA = rowA 60 zF := by rfl
theorem zA_one : zA.all (·.oneCell') = true := by rw [zA_row]; exact rowA_all fun i _ => zF_one i
theorem build124 (ρ : Operand → Value) (w : World) : (execOp ρ { dst := some 14, op := Op.build 124 #[], type := 124, pos := "rrule.go:165", after := #[], guard := none }).run Tryz.prog w = .ok (.value (.agg zA)) w := by kernel_rfl
theorem alloc124 (ρ : Operand → Value) (w : World) : (execOp ρ { dst := some 3, op := Op.alloc 124, type := 0, pos := "rrule.go:165", after := #[], guard := none }).run Tryz.prog w = .ok (.value (.pointer (some ⟨w.heap.size, 0, none⟩))) (w.alloc (.cells zA 124)) := by kernel_rfl
theorem info122s : (Tryz.prog.info? 122).map (·.size) = some 19 := by kernel_rfl
theorem info124s : (Tryz.prog.info? 124).map (·.size) = some 60 := by kernel_rfl
theorem info124z : (Tryz.prog.info? 124).map (·.size) = some zA.size := by rw [zA_row, rowA_size]; exact info124s
theorem zA_rowIs (W : World) : (W.alloc (.cells zA 124)).rowIs W.heap.size 124 60 zF := by
  have := World.rowIs_alloc W zA 124 zF (fun i hi => by rw [zA_row] at hi ⊢; rw [rowA_size] at hi; exact rowA_get hi)
  rwa [zA_row, rowA_size, ← zA_row] at this
theorem le_rowA (o m N : Nat) (f : Nat → Value) (h : o + m ≤ N) : o + (rowA m f).size ≤ N := by rw [rowA_size]; exact h
theorem info122r (f : Nat → Value) : (Tryz.prog.info? 122).map (·.size) = some (rowA 19 f).size := by rw [rowA_size]; exact info122s
theorem info124r (f : Nat → Value) : (Tryz.prog.info? 124).map (·.size) = some (rowA 60 f).size := by rw [rowA_size]; exact info124s
theorem u124 : ∃ d, Tryz.prog.underlying 124 = some d ∧ d.isRow = true := ⟨_, Tryz.underlying124, rfl⟩
theorem u122 : ∃ d, Tryz.prog.underlying 122 = some d ∧ d.isRow = true := ⟨_, Tryz.underlying122, rfl⟩
/-- A rule that is made of options: these come first, then its start. -/
def GivesRule (arg : Nat → Value) (s : Int) (w : World) (e : Ending) (w' : World) : Prop :=
  ∃ f : Nat → Value, e = .returned (.agg (rowA 60 f)) ∧ (∀ k, k < 19 → f k = arg k) ∧ f 39 = .int .i64 s ∧ f 40 = .int .i64 0 ∧ (∀ k, (f k).oneCell' = true) ∧ Below w.heap.size w w'
structure Bq (arg : Nat → Value) (A C : Nat) (w3 w : World) (f1 f3 : Nat → Value) : Prop where
  bs : BS A 122 19 C 124 60 f1 f3 w3 w
  a : ∀ k, 9 ≤ k → k < 19 → f1 k = arg k
  i : ∀ k, k < 9 → ∃ x, f1 k = .int .i64 x
  c : ∀ k, k < 19 → f3 k = arg k
  z : ∀ k, (k = 48 ∨ k = 49 ∨ k = 52 ∨ k = 53) → f3 k = .slice none 0 0
theorem Bq.setA {arg : Nat → Value} {A C : Nat} {w3 w : World} {f1 f3 : Nat → Value} (h : Bq arg A C w3 w f1 f3) (hne : A ≠ C) (k : Nat) (x : Int) (hk : k < 9) : Bq arg A C w3 (w.setCell ⟨A, k, none⟩ (.int .i64 x)) (upd f1 k (.int .i64 x)) f3 :=
  ⟨h.bs.setA hne k _ rfl, fun j h1 h2 => by rw [upd_ne (by omega)]; exact h.a j h1 h2, fun j hj => by
    by_cases e : j = k
    · subst e; exact ⟨x, upd_self _ _ _⟩
    · rw [upd_ne e]; exact h.i j hj, h.c, h.z⟩
theorem Bq.setC {arg : Nat → Value} {A C : Nat} {w3 w : World} {f1 f3 : Nat → Value} (h : Bq arg A C w3 w f1 f3) (hne : A ≠ C) (k : Nat) (v : Value) (hv : v.oneCell' = true) (hk : 19 ≤ k) (hz : k ≠ 48 ∧ k ≠ 49 ∧ k ≠ 52 ∧ k ≠ 53) : Bq arg A C w3 (w.setCell ⟨C, k, none⟩ v) f1 (upd f3 k v) :=
  ⟨h.bs.setC hne k v hv, h.a, h.i, fun j hj => by rw [upd_ne (by omega)]; exact h.c j hj, fun j hj => by rw [upd_ne (by omega)]; exact h.z j hj⟩
theorem Bq.below {arg : Nat → Value} {A C : Nat} {w3 w w' : World} {f1 f3 : Nat → Value} (h : Bq arg A C w3 w f1 f3) (hb : Below w.heap.size w w') : Bq arg A C w3 w' f1 f3 := ⟨h.bs.below hb, h.a, h.i, h.c, h.z⟩
/-- The rule's rows of days are laid. -/
structure Be (arg : Nat → Value) (fr s : Int) (A C : Nat) (w3 w : World) (f1 f3 : Nat → Value) : Prop where
  bs : BS A 122 19 C 124 60 f1 f3 w3 w
  a : ∀ k, (k = 15 ∨ k = 16 ∨ k = 17) → f1 k = arg k
  sl : ∀ k, 9 ≤ k → k < 19 → ∃ p n c, f1 k = .slice p n c
  c : ∀ k, k < 19 → f3 k = arg k
  z : ∀ k, (k = 48 ∨ k = 49 ∨ k = 52 ∨ k = 53) → f3 k = .slice none 0 0
  e38 : f3 38 = .int .i64 fr
  e39 : f3 39 = .int .i64 s
  e40 : f3 40 = .int .i64 0
  d : ∃ (p : Option Addr) (n c : Nat) (l : List Int), f1 11 = .slice p n c ∧ RowIx A C w p n l ∧ l.length ≤ 1000
  y : ∃ (p : Option Addr) (n c : Nat) (l : List (Int × Int)), f1 14 = .slice p n c ∧ RowDx A C w p n l ∧ l.length ≤ 1000
theorem Be.step {arg : Nat → Value} {fr s : Int} {A C : Nat} {w3 w w' : World} {f1 f3 : Nat → Value} (h : Be arg fr s A C w3 w f1 f3) (hb : BS A 122 19 C 124 60 f1 f3 w3 w') (ht : Tw A C w w') : Be arg fr s A C w3 w' f1 f3 :=
  ⟨hb, h.a, h.sl, h.c, h.z, h.e38, h.e39, h.e40, by
    obtain ⟨p, n, c, l, h1, h2, h3⟩ := h.d
    exact ⟨p, n, c, l, h1, h2.tw ht, h3⟩, by
    obtain ⟨p, n, c, l, h1, h2, h3⟩ := h.y
    exact ⟨p, n, c, l, h1, h2.tw ht, h3⟩⟩
theorem Be.below {arg : Nat → Value} {fr s : Int} {A C : Nat} {w3 w w' : World} {f1 f3 : Nat → Value} (h : Be arg fr s A C w3 w f1 f3) (hb : Below w.heap.size w w') : Be arg fr s A C w3 w' f1 f3 := h.step (h.bs.below hb) (.of_below hb (Nat.le_refl _))
theorem Be.alloc {arg : Nat → Value} {fr s : Int} {A C : Nat} {w3 w : World} {f1 f3 : Nat → Value} (h : Be arg fr s A C w3 w f1 f3) (o : Obj) : Be arg fr s A C w3 (w.alloc o) f1 f3 := h.step (h.bs.alloc o) (.alloc o)
theorem Be.setM {arg : Nat → Value} {fr s : Int} {A C : Nat} {w3 w : World} {f1 f3 : Nat → Value} (h : Be arg fr s A C w3 w f1 f3) (hne : A ≠ C) (p : Option Addr) (n c : Nat) : Be arg fr s A C w3 (w.setCell ⟨A, 10, none⟩ (.slice p n c)) (upd f1 10 (.slice p n c)) f3 :=
  ⟨h.bs.setA hne 10 _ rfl, fun k hk => by rw [upd_ne (by omega)]; exact h.a k hk, fun k h1 h2 => by
    by_cases e : k = 10
    · subst e; exact ⟨_, _, _, upd_self _ _ _⟩
    · rw [upd_ne e]; exact h.sl k h1 h2, h.c, h.z, h.e38, h.e39, h.e40, by
    obtain ⟨p, n, c, l, h1, h2, h3⟩ := h.d
    exact ⟨p, n, c, l, (upd_ne (by decide)).trans h1, h2.tw (.setA _ _), h3⟩, by
    obtain ⟨p, n, c, l, h1, h2, h3⟩ := h.y
    exact ⟨p, n, c, l, (upd_ne (by decide)).trans h1, h2.tw (.setA _ _), h3⟩⟩
theorem Be.setD {arg : Nat → Value} {fr s : Int} {A C : Nat} {w3 w : World} {f1 f3 : Nat → Value} (h : Be arg fr s A C w3 w f1 f3) (hne : A ≠ C) (p : Option Addr) (n c : Nat) (l : List Int) (hr : RowIx A C w p n l) (hl : l.length ≤ 1000) : Be arg fr s A C w3 (w.setCell ⟨A, 11, none⟩ (.slice p n c)) (upd f1 11 (.slice p n c)) f3 :=
  ⟨h.bs.setA hne 11 _ rfl, fun k hk => by rw [upd_ne (by omega)]; exact h.a k hk, fun k h1 h2 => by
    by_cases e : k = 11
    · subst e; exact ⟨_, _, _, upd_self _ _ _⟩
    · rw [upd_ne e]; exact h.sl k h1 h2, h.c, h.z, h.e38, h.e39, h.e40, ⟨p, n, c, l, upd_self _ _ _, hr.tw (.setA _ _), hl⟩, by
    obtain ⟨p, n, c, l, h1, h2, h3⟩ := h.y
    exact ⟨p, n, c, l, (upd_ne (by decide)).trans h1, h2.tw (.setA _ _), h3⟩⟩
theorem Be.setY {arg : Nat → Value} {fr s : Int} {A C : Nat} {w3 w : World} {f1 f3 : Nat → Value} (h : Be arg fr s A C w3 w f1 f3) (hne : A ≠ C) (p : Option Addr) (n c : Nat) (l : List (Int × Int)) (hr : RowDx A C w p n l) (hl : l.length ≤ 1000) : Be arg fr s A C w3 (w.setCell ⟨A, 14, none⟩ (.slice p n c)) (upd f1 14 (.slice p n c)) f3 :=
  ⟨h.bs.setA hne 14 _ rfl, fun k hk => by rw [upd_ne (by omega)]; exact h.a k hk, fun k h1 h2 => by
    by_cases e : k = 14
    · subst e; exact ⟨_, _, _, upd_self _ _ _⟩
    · rw [upd_ne e]; exact h.sl k h1 h2, h.c, h.z, h.e38, h.e39, h.e40, by
    obtain ⟨p, n, c, l, h1, h2, h3⟩ := h.d
    exact ⟨p, n, c, l, (upd_ne (by decide)).trans h1, h2.tw (.setA _ _), h3⟩, ⟨p, n, c, l, upd_self _ _ _, hr.tw (.setA _ _), hl⟩⟩
theorem Be.setC {arg : Nat → Value} {fr s : Int} {A C : Nat} {w3 w : World} {f1 f3 : Nat → Value} (h : Be arg fr s A C w3 w f1 f3) (hne : A ≠ C) (k : Nat) (v : Value) (hv : v.oneCell' = true) (hk : 41 ≤ k) (hz : k ≠ 48 ∧ k ≠ 49 ∧ k ≠ 52 ∧ k ≠ 53) : Be arg fr s A C w3 (w.setCell ⟨C, k, none⟩ v) f1 (upd f3 k v) :=
  ⟨h.bs.setC hne k v hv, h.a, h.sl, fun j hj => by rw [upd_ne (by omega)]; exact h.c j hj, fun j hj => by rw [upd_ne (by omega)]; exact h.z j hj, (upd_ne (by omega)).trans h.e38, (upd_ne (by omega)).trans h.e39, (upd_ne (by omega)).trans h.e40, by
    obtain ⟨p, n, c, l, h1, h2, h3⟩ := h.d
    exact ⟨p, n, c, l, h1, h2.tw (.setC _ _), h3⟩, by
    obtain ⟨p, n, c, l, h1, h2, h3⟩ := h.y
    exact ⟨p, n, c, l, h1, h2.tw (.setC _ _), h3⟩⟩
/-- The same without what the lists of days hold. -/
structure Bf (arg : Nat → Value) (fr s : Int) (A C : Nat) (w3 w : World) (f1 f3 : Nat → Value) : Prop where
  bs : BS A 122 19 C 124 60 f1 f3 w3 w
  a : ∀ k, (k = 15 ∨ k = 16 ∨ k = 17) → f1 k = arg k
  sl : ∀ k, 9 ≤ k → k < 19 → ∃ p n c, f1 k = .slice p n c
  c : ∀ k, k < 19 → f3 k = arg k
  e38 : f3 38 = .int .i64 fr
  e39 : f3 39 = .int .i64 s
  e40 : f3 40 = .int .i64 0
theorem Be.bf {arg : Nat → Value} {fr s : Int} {A C : Nat} {w3 w : World} {f1 f3 : Nat → Value} (h : Be arg fr s A C w3 w f1 f3) : Bf arg fr s A C w3 w f1 f3 := ⟨h.bs, h.a, h.sl, h.c, h.e38, h.e39, h.e40⟩
theorem Bf.step {arg : Nat → Value} {fr s : Int} {A C : Nat} {w3 w w' : World} {f1 f3 : Nat → Value} (h : Bf arg fr s A C w3 w f1 f3) (hb : BS A 122 19 C 124 60 f1 f3 w3 w') : Bf arg fr s A C w3 w' f1 f3 := ⟨hb, h.a, h.sl, h.c, h.e38, h.e39, h.e40⟩
theorem Bf.below {arg : Nat → Value} {fr s : Int} {A C : Nat} {w3 w w' : World} {f1 f3 : Nat → Value} (h : Bf arg fr s A C w3 w f1 f3) (hb : Below w.heap.size w w') : Bf arg fr s A C w3 w' f1 f3 := h.step (h.bs.below hb)
theorem Bf.alloc {arg : Nat → Value} {fr s : Int} {A C : Nat} {w3 w : World} {f1 f3 : Nat → Value} (h : Bf arg fr s A C w3 w f1 f3) (o : Obj) : Bf arg fr s A C w3 (w.alloc o) f1 f3 := h.step (h.bs.alloc o)
theorem Bf.drew {arg : Nat → Value} {fr s : Int} {A C : Nat} {w3 w : World} {f1 f3 : Nat → Value} (h : Bf arg fr s A C w3 w f1 f3) : Bf arg fr s A C w3 w.drew f1 f3 := h.step h.bs.drew
theorem Bf.setC {arg : Nat → Value} {fr s : Int} {A C : Nat} {w3 w : World} {f1 f3 : Nat → Value} (h : Bf arg fr s A C w3 w f1 f3) (hne : A ≠ C) (k : Nat) (v : Value) (hv : v.oneCell' = true) (hk : 41 ≤ k) : Bf arg fr s A C w3 (w.setCell ⟨C, k, none⟩ v) f1 (upd f3 k v) :=
  ⟨h.bs.setC hne k v hv, h.a, h.sl, fun j hj => by rw [upd_ne (by omega)]; exact h.c j hj, (upd_ne (by omega)).trans h.e38, (upd_ne (by omega)).trans h.e39, (upd_ne (by omega)).trans h.e40⟩
theorem Bf.grown {arg : Nat → Value} {fr s : Int} {A C B : Nat} {w3 w w' : World} {f1 f3 : Nat → Value} {row : Option Nat} (h : Bf arg fr s A C w3 w f1 f3) (hg : w.grownBy w' row) (hr : ∀ g, row = some g → B ≤ g) (hA : A < B) (hC : C < B) (hw : w3.heap.size ≤ B) : Bf arg fr s A C w3 w' f1 f3 :=
  h.step (h.bs.grown hg fun g e => by have := hr g e; omega)
/-- Two slices in cells of a struct, each with a row of the call's own. -/
def Own2 (B ka ea sa kb eb sb k : Nat) (w : World) (f : Nat → Value) : Prop :=
  ∃ va ma xsa vb mb xsb, f ka = va ∧ f kb = vb ∧ w.ownsRow B ea sa va ma xsa ∧ w.ownsRow B eb sb vb mb xsb ∧ ma + mb ≤ k ∧ (∀ g, va.ownBlock = some g → vb.ownBlock ≠ some g)
theorem Own2.swap {B ka ea sa kb eb sb k : Nat} {w : World} {f : Nat → Value} (h : Own2 B ka ea sa kb eb sb k w f) : Own2 B kb eb sb ka ea sa k w f := by
  obtain ⟨va, ma, xsa, vb, mb, xsb, h1, h2, h3, h4, h5, h6⟩ := h
  exact ⟨vb, mb, xsb, va, ma, xsa, h2, h1, h4, h3, by omega, fun g hg e => h6 g e hg⟩
theorem Own2.more {B ka ea sa kb eb sb k : Nat} {w : World} {f : Nat → Value} (h : Own2 B ka ea sa kb eb sb k w f) : Own2 B ka ea sa kb eb sb (k + 1) w f := by
  obtain ⟨va, ma, xsa, vb, mb, xsb, h1, h2, h3, h4, h5, h6⟩ := h
  exact ⟨va, ma, xsa, vb, mb, xsb, h1, h2, h3, h4, by omega, h6⟩
theorem Own2.kept {B ka ea sa kb eb sb k : Nat} {w w' : World} {f : Nat → Value} (h : Own2 B ka ea sa kb eb sb k w f) (hg : w.grownBy w' none) : Own2 B ka ea sa kb eb sb k w' f := by
  obtain ⟨va, ma, xsa, vb, mb, xsb, h1, h2, h3, h4, h5, h6⟩ := h
  exact ⟨va, ma, xsa, vb, mb, xsb, h1, h2, h3.kept hg (by cases va.ownBlock <;> simp), h4.kept hg (by cases vb.ownBlock <;> simp), h5, h6⟩
theorem Tw.grown {A C : Nat} {w5 w w' : World} {row : Option Nat} (h : Tw A C w5 w) (hg : w.grownBy w' row) (hr : ∀ g, row = some g → w5.heap.size ≤ g) : Tw A C w5 w' :=
  ⟨hg.os.trans h.os, hg.tape.trans h.tape, hg.output.trans h.output, Nat.le_trans h.size hg.size, fun i hi h1 h2 => (hg.block i (Nat.lt_of_lt_of_le hi h.size) fun e => by have := hr i e.symm; omega).trans (h.block i hi h1 h2)⟩
theorem Tw.drew {A C : Nat} {w w' : World} (h : Tw A C w w') : Tw A C w w'.drew := ⟨h.os, h.tape, h.output, h.size, h.block⟩
theorem own_drew {B e sz n : Nat} {w : World} {v : Value} {xs : List Value} (h : w.ownsRow B e sz v n xs) : w.drew.ownsRow B e sz v n xs := h
theorem own_set {B e sz n C k : Nat} {w : World} {v u : Value} {xs : List Value} (h : w.ownsRow B e sz v n xs) (hC : C < B) : (w.setCell ⟨C, k, none⟩ u).ownsRow B e sz v n xs :=
  h.kept (row := some C) (grown_set (World.grownBy.refl _ _) k u) (.inr fun e => by have := (h.lt C e).1; omega)
theorem Own2.push {B ka ea sa kb eb sb k C : Nat} {w w1 : World} {f : Nat → Value} {va vb : Value} {ma mb g cap : Nat} {xsa xsb xs' : List Value} (h2 : f kb = vb) (_h3 : w.ownsRow B ea sa va ma xsa) (h4 : w.ownsRow B eb sb vb mb xsb) (h5 : ma + mb ≤ k) (h6 : ∀ g, va.ownBlock = some g → vb.ownBlock ≠ some g)
    (hown : w1.ownsRow B ea sa (.slice (some ⟨g, 0, none⟩) (ma + 1) cap) (ma + 1) xs') (hg : w.grownBy w1 va.ownBlock) (hat : some g = va.ownBlock ∨ w.heap.size ≤ g) (hC : C < B) (hk : ka ≠ kb) :
    Own2 B ka ea sa kb eb sb (k + 1) (w1.setCell ⟨C, ka, none⟩ (.slice (some ⟨g, 0, none⟩) (ma + 1) cap)) (upd f ka (.slice (some ⟨g, 0, none⟩) (ma + 1) cap)) := by
  refine ⟨_, ma + 1, xs', vb, mb, xsb, upd_self _ _ _, (upd_ne (Ne.symm hk)).trans h2, own_set hown hC, own_set (h4.kept hg ?_) hC, by omega, ?_⟩
  · cases hv : va.ownBlock with
    | none => cases vb.ownBlock <;> simp
    | some x => exact .inr (h6 x hv)
  · intro x hx
    have hx : some g = some x := hx
    injection hx with hx
    subst hx
    rcases hat with e | e
    · exact h6 g e.symm
    · intro e2
      have := (h4.lt g e2).2
      omega
/-- A cell of the rule holds times of a day. -/
def Tm (A C : Nat) (w : World) (f : Nat → Value) (k : Nat) (hi : Int) (m : Nat) : Prop := ∃ (p : Option Addr) (n c : Nat) (l : List Int), f k = .slice p n c ∧ RowIx A C w p n l ∧ l.length ≤ m ∧ ∀ x ∈ l, 0 ≤ x ∧ x ≤ hi
theorem Tm.tw {A C k m : Nat} {hi : Int} {w w' : World} {f : Nat → Value} (h : Tm A C w f k hi m) (ht : Tw A C w w') : Tm A C w' f k hi m := by
  obtain ⟨p, n, c, l, h1, h2, h3, h4⟩ := h
  exact ⟨p, n, c, l, h1, h2.tw ht, h3, h4⟩
theorem Tm.upd {A C k j m : Nat} {hi : Int} {w : World} {f : Nat → Value} {v : Value} (h : Tm A C w f k hi m) (hj : k ≠ j) : Tm A C w (upd f j v) k hi m := by
  obtain ⟨p, n, c, l, h1, h2, h3, h4⟩ := h
  exact ⟨p, n, c, l, (upd_ne hj).trans h1, h2, h3, h4⟩
theorem Bf.ltA {arg : Nat → Value} {fr s : Int} {A C : Nat} {w3 w : World} {f1 f3 : Nat → Value} (h : Bf arg fr s A C w3 w f1 f3) : A ≠ w.heap.size ∧ C ≠ w.heap.size := ⟨Nat.ne_of_lt h.bs.r1.lt, Nat.ne_of_lt h.bs.r3.lt⟩
/-- The rule's times of a day, so far. -/
def TS (B bd : Nat) (w : World) (f : Nat → Value) : Prop := ∃ g m cap xs, f 58 = .slice (some ⟨g, 0, none⟩) m cap ∧ w.ownsRow B 109 2 (.slice (some ⟨g, 0, none⟩) m cap) m xs ∧ m ≤ bd ∧ ∀ u ∈ xs, ∃ x : Int, u = .int .i64 x
theorem TS.mono {B a b : Nat} {w : World} {f : Nat → Value} (h : TS B a w f) (hab : a ≤ b) : TS B b w f := by
  obtain ⟨g, m, cap, xs, h1, h2, h3, h4⟩ := h
  exact ⟨g, m, cap, xs, h1, h2, by omega, h4⟩
theorem all_two {xs : List Value} {a b : Int} (h : ∀ u ∈ xs, ∃ x : Int, u = .int .i64 x) : ∀ u ∈ xs ++ [Value.int .i64 a, Value.int .i64 b], ∃ x : Int, u = .int .i64 x := fun u hu => by
  rcases List.mem_append.1 hu with h1 | h1
  · exact h u h1
  · simp at h1
    rcases h1 with rfl | rfl
    · exact ⟨_, rfl⟩
    · exact ⟨_, rfl⟩
theorem updR_in {f : Nat → Value} {o m : Nat} {g : Nat → Value} {k : Nat} (h1 : o ≤ k) (h2 : k < o + m) : updR f o (rowA m g) k = g (k - o) := by
  unfold updR
  rw [rowA_size, if_pos ⟨h1, h2⟩, rowA_get (by omega)]
  rfl
theorem updR_out {f : Nat → Value} {o m : Nat} {g : Nat → Value} {k : Nat} (h : k < o ∨ o + m ≤ k) : updR f o (rowA m g) k = f k := by
  unfold updR
  rw [rowA_size, if_neg (by omega)]
theorem updR_one {f : Nat → Value} {o m : Nat} {g : Nat → Value} (hf : ∀ k, (f k).oneCell' = true) (hg : ∀ k, (g k).oneCell' = true) (k : Nat) : (updR f o (rowA m g) k).oneCell' = true := by
  by_cases h : o ≤ k ∧ k < o + m
  · rw [updR_in h.1 h.2]; exact hg _
  · rw [updR_out (by omega)]; exact hf _
theorem mk_times (N : Nat) (h : N ≤ 1000) (W : World) : (Instr.makeSlice 113 (.int .i64 0) (.int .i64 (N : Int))).run Tryz.prog W = .ok (.slice (some ⟨W.heap.size, 0, none⟩) 0 N) (W.alloc (.cells (madeCells (Value.agg #[.int .i64 0, .int .i64 0]).cells (N * 2)) 109)) := by
  obtain ⟨i0, hi, hzz⟩ := Option.map_eq_some_iff.1 info109
  simp only [Prod.mk.injEq] at hzz
  obtain ⟨hz0, hz1, hz2⟩ := hzz
  have := run_make_rowN (P := Tryz.prog) 113 109 i0 _ Tryz.underlying113 hi hz0 .i64 .i64 0 N (by omega) (by rw [hz2]; omega) (by omega) W
  rw [hz1] at this
  exact this
theorem Be.ltA {arg : Nat → Value} {fr s : Int} {A C : Nat} {w3 w : World} {f1 f3 : Nat → Value} (h : Be arg fr s A C w3 w f1 f3) : A ≠ w.heap.size ∧ C ≠ w.heap.size := ⟨Nat.ne_of_lt h.bs.r1.lt, Nat.ne_of_lt h.bs.r3.lt⟩
set_option maxRecDepth 1000000 in
set_option maxHeartbeats 16000000 in
theorem build_ok (fr t iv wk wn ct un u2 : Int) (p : Nat → Option Addr) (n c : Nat → Nat) (l : Nat → List Int) (ds : List (Int × Int)) (w : World) (hr : ∀ k, 9 ≤ k → k < 19 → k ≠ 14 → RowI w (p k) (n k) (l k)) (hd : RowD w (p 14) (n 14) ds)
    (hfr : 0 ≤ fr ∧ fr ≤ 6) (ht : 0 ≤ t ∧ t < 315537897600) (s : Int) (hs : s = if t = 0 then 62135596800 else t) (hl : ∀ k, (l k).length ≤ 1000) (hld : ds.length ≤ 1000) (hp : max 1 (l 15).length * max 1 (l 16).length * max 1 (l 17).length ≤ 1000)
    (h15 : ∀ x ∈ l 15, 0 ≤ x ∧ x ≤ 23) (h16 : ∀ x ∈ l 16, 0 ≤ x ∧ x ≤ 59) (h17 : ∀ x ∈ l 17, 0 ≤ x ∧ x ≤ 59) :
    Calls Tryz.prog 115 #[optV fr t 0 iv wk wn ct un u2 p n c] w fun e w' => GivesRule (optF fr t 0 iv wk wn ct un u2 p n c) s w e w' := by
  obtain ⟨d2, hu2, hd2⟩ := u122
  obtain ⟨d4, hu4, hd4⟩ := u124
  have HU := Lib.hid (And.intro (And.intro hu2 hd2) (And.intro hu4 hd4))
  have HR := Lib.hid hr
  have HD := Lib.hid hd
  have HT := Lib.hid ht
  have HSS := Lib.hid hs
  have HL := Lib.hid hl
  have HLD := Lib.hid hld
  have HP := Lib.hid hp
  have HV := Lib.hid (And.intro h15 (And.intro h16 h17))
  clear hr hd ht hs hl hld hp h15 h16 h17 hu2 hd2 hu4 hd4
  rw [optV_row]
  have hrow := World.rowIs_alloc w (rowA 19 (optF fr t 0 iv wk wn ct un u2 p n c)) 122 (optF fr t 0 iv wk wn ct un u2 p n c) (fun i hi => rowA_get (by rwa [rowA_size] at hi))
  rw [rowA_size] at hrow
  have HW := Lib.hid hrow
  clear hrow
  obtain ⟨arg, harg⟩ : ∃ arg, arg = optF fr t 0 iv wk wn ct un u2 p n c := ⟨_, rfl⟩
  rw [← harg] at HW ⊢
  have ho : ∀ k, (arg k).oneCell' = true := fun k => by rw [harg]; exact optF_one _ _ _ _ _ _ _ _ _ _ _ _ _
  have HA := Lib.hid harg
  have HO := Lib.hid ho
  clear harg ho
  go_enter Tryz.func115, Tryz.ntmps115
  go_upto_region 1 with fail
  generalize hw2 : World.alloc (w.alloc _) _ = w2
  have hr2 : w2.rowIs w.heap.size 122 19 arg := by rw [← hw2]; exact HW.out.alloc _
  have hb2 : Below w.heap.size w w2 := by rw [← hw2]; exact below_a2
  have hz2 : w2.heap.size = w.heap.size + 2 := by rw [← hw2]; simp
  have hx2 : ∃ f2, w2.rowIs (w.heap.size + 1) 124 60 f2 ∧ ∀ k, (f2 k).oneCell' = true := by
    rw [← hw2]
    refine ⟨zF, ?_, zF_one⟩
    have := World.rowIs_alloc (w.alloc (.cells (rowA 19 arg) 122)) zA 124 zF (fun i hi => by rw [zA_row] at hi ⊢; rw [rowA_size] at hi; exact rowA_get hi)
    rw [World.size_alloc] at this
    exact this
  have HR2 := Lib.hid hr2
  have HB2 := Lib.hid hb2
  have HX2 := Lib.hid hx2
  have HZ2 := Lib.hid hz2
  clear hw2 hr2 hb2 hx2 hz2 HW
  go_upto_region 3 with (first
    | (with_reducible refine gd_build 124 ?_; refine wpl_val rfl (.agg zA) (build124 _ _) ?_)
    | (with_reducible refine gd_alloc 124 ?_; refine wpl_valw rfl _ (alloc124 _ _) ?_)
    | (with_reducible refine gd_store 124 ?_; refine wpl_store_last rfl 124 _ _ rfl zA zA rfl rfl info124z rfl zA_one ?_)
    | (with_reducible refine gd_load 122 ?_; refine wpl_load_row0 rfl 122 _ rfl w.heap.size 122 19 19 arg rfl (HR2.out.alloc _) (by decide) d2 HU.out.1.1 HU.out.1.2 info122s ?_)
    | (with_reducible refine gd_store 122 ?_; refine wpl_store_row rfl 122 _ _ rfl w2.heap.size 0 124 60 zF (rowA 19 arg) rfl rfl (zA_rowIs w2) (le_rowA 0 19 60 arg (by decide)) (info122r arg) (rowA_all fun i _ => HO.out _) ?_; intro w3 hr3 hg3))
  have hf3 : ∀ k, updR zF 0 (rowA 19 arg) k = if k < 19 then arg k else zF k := fun k => by
    unfold updR
    rw [rowA_size]
    by_cases h : k < 19
    · rw [if_pos (by omega), if_pos h, Nat.sub_zero, rowA_get h]; rfl
    · rw [if_neg (by omega), if_neg h]
  have hr1 : w3.rowIs w.heap.size 122 19 arg := (HR2.out.alloc _).of_block (hg3.block w.heap.size (Nat.lt_of_lt_of_le HR2.out.lt (by simp)) (fun e => by injection e with e; have := HR2.out.lt; omega))
  have hx3 : ∃ f2, w3.rowIs (w.heap.size + 1) 124 60 f2 ∧ ∀ k, (f2 k).oneCell' = true := by
    obtain ⟨f2, h1, h2⟩ := HX2.out
    exact ⟨f2, (h1.alloc _).of_block (hg3.block _ (Nat.lt_of_lt_of_le h1.lt (by simp)) (fun e => by injection e with e; have := HZ2.out; omega)), h2⟩
  have hb3 : Below w.heap.size w w3 := (HB2.out.alloc HB2.out.size _).grown hg3 (by have := HB2.out.size; simp; omega) (fun k hk => by injection hk with hk; have := HZ2.out; omega)
  have hr3' := World.rowIs.congr hr3 fun k _ => hf3 k
  obtain ⟨A, hA⟩ : ∃ A, A = w.heap.size := ⟨_, rfl⟩
  have hE : w.heap.size + 1 = A + 1 := by rw [hA]
  have hC : w2.heap.size = A + 2 := by rw [hA]; exact HZ2.out
  obtain ⟨C, hC'⟩ : ∃ C, C = w2.heap.size := ⟨_, rfl⟩
  obtain ⟨E, hE'⟩ : ∃ E, E = w.heap.size + 1 := ⟨_, rfl⟩
  rw [← hE'] at hx3 ⊢
  rw [← hC'] at hr3' ⊢
  rw [← hA] at hr1 hb3 ⊢
  have hAE : A < E := by omega
  have hEC : E < C := by omega
  have HB3 := Lib.hid hb3
  have HX3 := Lib.hid hx3
  have hS := BS.mk (Tw.refl A C w3) hr1 hr3' HO.out (fun k => by split; exact HO.out k; exact zF_one k)
  have HS := Lib.hid hS
  clear hr3 hg3 hf3 hr1 hx3 hb3 hr3' hS HR2 HB2 HX2 HZ2 hE hC hC' hE'
  have HAw := Lib.hid hA
  clear hA
  have HQ := Lib.hid (show Bq arg A C w3 w3 arg (fun k => if k < 19 then arg k else zF k) from ⟨HS.out, fun _ _ _ => rfl, fun k hk => by
    rw [HA.out]
    match k, hk with
    | 0, _ => exact ⟨_, rfl⟩
    | 1, _ => exact ⟨_, rfl⟩
    | 2, _ => exact ⟨_, rfl⟩
    | 3, _ => exact ⟨_, rfl⟩
    | 4, _ => exact ⟨_, rfl⟩
    | 5, _ => exact ⟨_, rfl⟩
    | 6, _ => exact ⟨_, rfl⟩
    | 7, _ => exact ⟨_, rfl⟩
    | 8, _ => exact ⟨_, rfl⟩, fun k hk => if_pos hk, fun k hk => by
    rcases hk with rfl | rfl | rfl | rfl <;> rfl⟩)
  have hAC : A ≠ C := by omega
  have HAC := Lib.hid hAC
  clear hAC
  have x1 : w3.cell? ⟨A, 0, none⟩ = some (.int .i64 fr) := (HS.out.r1.cell (i := 0) (by decide)).trans (by rw [HA.out]; rfl)
  have x2 : w3.cell? ⟨A, 3, none⟩ = some (.int .i64 iv) := (HS.out.r1.cell (i := 3) (by decide)).trans (by rw [HA.out]; rfl)
  obtain ⟨v38, x3⟩ : ∃ v, w3.cell? ⟨C, 38, none⟩ = some v := ⟨_, HS.out.r3.cell (i := 38) (by decide)⟩
  have x4 := HS.out.r3.frozen 38
  have x5 := HS.out.r1.frozen 3
  have hAC1 : A < C := by omega
  have hT1 : arg 1 = .int .i64 t ∧ arg 2 = .int .i64 0 := by rw [HA.out]; exact ⟨rfl, rfl⟩
  have HT1 := Lib.hid hT1
  clear hT1 HS
  go_upto_if 22 with fail
  go_cut [] from 14 to 23 (fun wc => ∃ f1 f3, Bq arg A C w3 wc f1 f3 ∧ f3 38 = .int .i64 fr ∧ f1 1 = .int .i64 t ∧ f1 2 = .int .i64 0)
  case first => as_aux_lemma =>
    by_cases hiv : iv < 1
    · go_wp2_with fail
      go_meet
      exact ⟨_, _, (HQ.out.setC HAC.out 38 _ rfl (by decide) (by decide)).setA HAC.out 3 1 (by decide), upd_self _ _ _, (upd_ne (by decide)).trans HT1.out.1, (upd_ne (by decide)).trans HT1.out.2⟩
    · go_wp2_with fail
      go_meet
      exact ⟨_, _, HQ.out.setC HAC.out 38 _ rfl (by decide) (by decide), upd_self _ _ _, HT1.out.1, HT1.out.2⟩
  case rest =>
    clear HQ x1 x2 x3 x4 x5
    obtain ⟨f1, f3, hq, e38, e1, e2⟩ := hcut
    have HQ := Lib.hid (And.intro hq (And.intro e38 (And.intro e1 e2)))
    obtain ⟨x3v, e3⟩ := hq.i 3 (by decide)
    obtain ⟨x6v, e6⟩ := hq.i 6 (by decide)
    have x3 := (hq.bs.r1.cell (i := 3) (by decide)).trans (congrArg some e3)
    have x6 := (hq.bs.r1.cell (i := 6) (by decide)).trans (congrArg some e6)
    obtain ⟨v41, y41⟩ : ∃ v, wc.cell? ⟨C, 41, none⟩ = some v := ⟨_, hq.bs.r3.cell (i := 41) (by decide)⟩
    have z41 := hq.bs.r3.frozen 41
    have z6 := hq.bs.r1.frozen 6
    clear hq e38 e1 e2 e3 e6
    go_upto_if 29 with fail
    go_cut [] from 24 to 30 (fun wd => ∃ f1 f3, Bq arg A C w3 wd f1 f3 ∧ f3 38 = .int .i64 fr ∧ f1 1 = .int .i64 t ∧ f1 2 = .int .i64 0)
    case first => as_aux_lemma =>
      obtain ⟨hq, e38, e1, e2⟩ := HQ.out
      have HQ2 := Lib.hid (hq.setC HAC.out 41 (.int .i64 x3v) rfl (by decide) (by decide))
      have H2 := Lib.hid (And.intro ((upd_ne (by decide) : upd f3 41 (.int .i64 x3v) 38 = _).trans e38) (And.intro e1 e2))
      clear hq e38 e1 e2
      by_cases hct : x6v < 0
      · go_wp2_with fail
        go_meet
        exact ⟨_, _, HQ2.out.setA HAC.out 6 0 (by decide), H2.out.1, (upd_ne (by decide)).trans H2.out.2.1, (upd_ne (by decide)).trans H2.out.2.2⟩
      · go_wp2_with fail
        go_meet
        exact ⟨_, _, HQ2.out, H2.out.1, H2.out.2.1, H2.out.2.2⟩
    case rest =>
      clear HQ x3 x6 y41 z41 z6
      obtain ⟨f1, f3, hq, e38, e1, e2⟩ := hcut
      have HQ := Lib.hid (And.intro hq (And.intro e38 (And.intro e1 e2)))
      obtain ⟨x6v, e6⟩ := hq.i 6 (by decide)
      have x6 := (hq.bs.r1.cell (i := 6) (by decide)).trans (congrArg some e6)
      have x1 := (hq.bs.r1.cell (i := 1) (by decide)).trans (congrArg some e1)
      have x2 := (hq.bs.r1.cell (i := 2) (by decide)).trans (congrArg some e2)
      obtain ⟨v43, y43⟩ : ∃ v, wc.cell? ⟨C, 43, none⟩ = some v := ⟨_, hq.bs.r3.cell (i := 43) (by decide)⟩
      have z43 := hq.bs.r3.frozen 43
      have z1 := hq.bs.r1.frozen 1
      have z2 := hq.bs.r1.frozen 2
      clear hq e38 e1 e2 e6
      have HQ0 := Lib.hid (HQ.out.1.setC HAC.out 43 (.int .i64 x6v) rfl (by decide) (by decide))
      have E0 := Lib.hid (And.intro ((upd_ne (by decide) : upd f3 43 (.int .i64 x6v) 38 = _).trans HQ.out.2.1) (And.intro HQ.out.2.2.1 HQ.out.2.2.2))
      clear HQ
      go_upto_if 36 with (go_at_call 77; refine (isZero_any t 0 _).mono ?_; rintro e w1 ⟨rfl, hb1⟩; have HQ := Lib.hid (HQ0.out.below hb1); clear hb1 HQ0)
      go_cut [] from 31 to 38 (fun wd => ∃ f1 f3, Bq arg A C w3 wd f1 f3 ∧ f3 38 = .int .i64 fr ∧ f1 1 = .int .i64 s ∧ f1 2 = .int .i64 0)
      case first => as_aux_lemma =>
        have x1 := HQ.out.bs.r1.cell (i := 1) (by decide)
        have x2 := HQ.out.bs.r1.cell (i := 2) (by decide)
        have z1 := HQ.out.bs.r1.frozen 1
        have z2 := HQ.out.bs.r1.frozen 2
        by_cases ht0 : t = 0
        · have hs0 := HSS.out
          rw [if_pos ht0] at hs0
          subst ht0
          have HS0 := Lib.hid hs0
          clear hs0
          go_wp2_with fail
          refine (at_any _).mono ?_; rintro e w2' ⟨rfl, hb2⟩
          have HQ2 := Lib.hid (HQ.out.below hb2)
          have x1 := HQ2.out.bs.r1.cell (i := 1) (by decide)
          have x2 := HQ2.out.bs.r1.cell (i := 2) (by decide)
          have z1 := HQ2.out.bs.r1.frozen 1
          have z2 := HQ2.out.bs.r1.frozen 2
          clear hb2 HQ
          go_wp2_with fail
          go_meet
          exact ⟨_, _, (HQ2.out.setA HAC.out 1 _ (by decide)).setA HAC.out 2 _ (by decide), E0.out.1, by rw [upd_ne (by decide), upd_self, HS0.out], upd_self _ _ _⟩
        · have hs0 := HSS.out
          rw [if_neg ht0] at hs0
          have HS0 := Lib.hid hs0
          clear hs0
          go_wp2_with fail
          go_meet
          exact ⟨_, _, HQ.out, E0.out.1, by rw [HS0.out]; exact E0.out.2.1, E0.out.2.2⟩
      case rest =>
        clear HQ E0 x6 x1 x2 y43 z43 z1 z2
        obtain ⟨f1, f3, hq, e38, e1, e2⟩ := hcut
        have HQ := Lib.hid (And.intro hq (And.intro e38 (And.intro e1 e2)))
        have x1 := (hq.bs.r1.cell (i := 1) (by decide)).trans (congrArg some e1)
        have x2 := (hq.bs.r1.cell (i := 2) (by decide)).trans (congrArg some e2)
        clear hq e38 e1 e2
        go_wp2_with fail
        refine (truncate_any s 0 _ _).mono ?_; rintro e w1 ⟨rfl, hb1⟩
        have HQ1 := Lib.hid (HQ.out.1.below hb1)
        obtain ⟨x7, e7⟩ := HQ1.out.i 7 (by decide)
        obtain ⟨x8, e8⟩ := HQ1.out.i 8 (by decide)
        have y7 := (HQ1.out.bs.r1.cell (i := 7) (by decide)).trans (congrArg some e7)
        have y8 := (HQ1.out.bs.r1.cell (i := 8) (by decide)).trans (congrArg some e8)
        obtain ⟨v39, y39⟩ : ∃ v, w1.cell? ⟨C, 39, none⟩ = some v := ⟨_, HQ1.out.bs.r3.cell (i := 39) (by decide)⟩
        obtain ⟨v40, y40⟩ : ∃ v, w1.cell? ⟨C, 40, none⟩ = some v := ⟨_, HQ1.out.bs.r3.cell (i := 40) (by decide)⟩
        have y1 := HQ1.out.bs.r1.cell (i := 1) (by decide)
        have y2 := HQ1.out.bs.r1.cell (i := 2) (by decide)
        have z1 := HQ1.out.bs.r1.frozen 1
        have z2 := HQ1.out.bs.r1.frozen 2
        have z39 := HQ1.out.bs.r3.frozen 39
        have z40 := HQ1.out.bs.r3.frozen 40
        have HQ2 := Lib.hid ((((HQ1.out.setA HAC.out 1 s (by decide)).setA HAC.out 2 0 (by decide)).setC HAC.out 39 (.int .i64 s) rfl (by decide) (by decide)).setC HAC.out 40 (.int .i64 0) rfl (by decide) (by decide))
        have E2 := Lib.hid (show (upd (upd f3 39 (.int .i64 s)) 40 (.int .i64 0) 38 = .int .i64 fr ∧ upd (upd f3 39 (.int .i64 s)) 40 (.int .i64 0) 39 = .int .i64 s ∧ upd (upd f3 39 (.int .i64 s)) 40 (.int .i64 0) 40 = .int .i64 0) from ⟨(upd_ne (by decide)).trans ((upd_ne (by decide)).trans HQ.out.2.1), (upd_ne (by decide)).trans (upd_self _ _ _), upd_self _ _ _⟩)
        clear hb1 HQ HQ1 x1 x2 e7 e8
        go_upto_if 48 with (go_at_call 77; refine (isZero_any x7 x8 _).mono ?_; rintro e w5 ⟨rfl, hb5⟩; have HQ5 := Lib.hid (HQ2.out.below hb5); clear hb5 HQ2)
        generalize (decide (x7 = 0) && decide (x8 = 0)) = bu
        clear y7 y8 y39 y40 y1 y2 z1 z2 z39 z40
        have g39 := (HQ5.out.bs.r3.cell (i := 39) (by decide)).trans (congrArg some E2.out.2.1)
        have g40 := (HQ5.out.bs.r3.cell (i := 40) (by decide)).trans (congrArg some E2.out.2.2)
        obtain ⟨x7, e7⟩ := HQ5.out.i 7 (by decide)
        obtain ⟨x8, e8⟩ := HQ5.out.i 8 (by decide)
        have y7 := (HQ5.out.bs.r1.cell (i := 7) (by decide)).trans (congrArg some e7)
        have y8 := (HQ5.out.bs.r1.cell (i := 8) (by decide)).trans (congrArg some e8)
        clear e7 e8
        go_cut [] from 39 to 59 (fun wd => ∃ f1 f3, Bq arg A C w3 wd f1 f3 ∧ f3 38 = .int .i64 fr ∧ f3 39 = .int .i64 s ∧ f3 40 = .int .i64 0)
        case first => as_aux_lemma =>
          have hsb : 0 ≤ s ∧ s < 315537897600 := by
            have h1 := HSS.out
            have h2 := HT.out
            by_cases h0 : t = 0
            · rw [if_pos h0] at h1; omega
            · rw [if_neg h0] at h1; omega
          have HSB := Lib.hid hsb
          clear hsb
          cases bu with
          | true =>
            go_wp2_with fail
            refine (add_any s _ HSB.out.1 HSB.out.2).mono ?_; rintro e w6 ⟨rfl, hb6⟩
            have HQ6 := Lib.hid (HQ5.out.below hb6)
            obtain ⟨v44, y44⟩ : ∃ v, w6.cell? ⟨C, 44, none⟩ = some v := ⟨_, HQ6.out.bs.r3.cell (i := 44) (by decide)⟩
            obtain ⟨v45, y45⟩ : ∃ v, w6.cell? ⟨C, 45, none⟩ = some v := ⟨_, HQ6.out.bs.r3.cell (i := 45) (by decide)⟩
            have z44 := HQ6.out.bs.r3.frozen 44
            have z45 := HQ6.out.bs.r3.frozen 45
            clear hb6
            go_wp2_with fail
            go_meet
            exact ⟨_, _, (HQ6.out.setC HAC.out 44 _ rfl (by decide) (by decide)).setC HAC.out 45 _ rfl (by decide) (by decide), (upd_ne (by decide)).trans ((upd_ne (by decide)).trans E2.out.1), (upd_ne (by decide)).trans ((upd_ne (by decide)).trans E2.out.2.1), (upd_ne (by decide)).trans ((upd_ne (by decide)).trans E2.out.2.2)⟩
          | false =>
            go_wp2_with fail
            refine (truncate_any x7 x8 _ _).mono ?_; rintro e w6 ⟨rfl, hb6⟩
            have HQ6 := Lib.hid (HQ5.out.below hb6)
            obtain ⟨v44, y44⟩ : ∃ v, w6.cell? ⟨C, 44, none⟩ = some v := ⟨_, HQ6.out.bs.r3.cell (i := 44) (by decide)⟩
            obtain ⟨v45, y45⟩ : ∃ v, w6.cell? ⟨C, 45, none⟩ = some v := ⟨_, HQ6.out.bs.r3.cell (i := 45) (by decide)⟩
            have z44 := HQ6.out.bs.r3.frozen 44
            have z45 := HQ6.out.bs.r3.frozen 45
            have y7 := HQ6.out.bs.r1.cell (i := 7) (by decide)
            have y8 := HQ6.out.bs.r1.cell (i := 8) (by decide)
            have z7 := HQ6.out.bs.r1.frozen 7
            have z8 := HQ6.out.bs.r1.frozen 8
            clear hb6
            go_wp2_with fail
            go_meet
            exact ⟨_, _, ((((HQ6.out.setA HAC.out 7 _ (by decide)).setA HAC.out 8 _ (by decide))).setC HAC.out 44 _ rfl (by decide) (by decide)).setC HAC.out 45 _ rfl (by decide) (by decide), (upd_ne (by decide)).trans ((upd_ne (by decide)).trans E2.out.1), (upd_ne (by decide)).trans ((upd_ne (by decide)).trans E2.out.2.1), (upd_ne (by decide)).trans ((upd_ne (by decide)).trans E2.out.2.2)⟩
        case rest =>
          clear HQ5 E2 g39 g40 y7 y8
          have hsb : 0 ≤ s ∧ s < 315537897600 := by
            have h1 := HSS.out
            have h2 := HT.out
            by_cases h0 : t = 0
            · rw [if_pos h0] at h1; omega
            · rw [if_neg h0] at h1; omega
          have HSB := Lib.hid hsb
          clear hsb
          obtain ⟨f1, f3, hq, e38, e39, e40⟩ := hcut
          have HQ := Lib.hid (And.intro hq (And.intro e38 (And.intro e39 e40)))
          obtain ⟨x4, e4⟩ := hq.i 4 (by decide)
          have y4 := (hq.bs.r1.cell (i := 4) (by decide)).trans (congrArg some e4)
          have hsl : ∀ k, 9 ≤ k → k < 19 → f1 k = .slice (p k) (n k) (c k) := fun k h1 h2 => by rw [hq.a k h1 h2, HA.out]; exact optF_sl _ _ _ _ _ _ _ _ _ _ _ _ _ h1
          have HSL := Lib.hid hsl
          have y9 := (hq.bs.r1.cell (i := 9) (by decide)).trans (congrArg some (hsl 9 (by decide) (by decide)))
          have y13 := (hq.bs.r1.cell (i := 13) (by decide)).trans (congrArg some (hsl 13 (by decide) (by decide)))
          have y12 := (hq.bs.r1.cell (i := 12) (by decide)).trans (congrArg some (hsl 12 (by decide) (by decide)))
          have y11 := (hq.bs.r1.cell (i := 11) (by decide)).trans (congrArg some (hsl 11 (by decide) (by decide)))
          have y14 := (hq.bs.r1.cell (i := 14) (by decide)).trans (congrArg some (hsl 14 (by decide) (by decide)))
          have y18 := (hq.bs.r1.cell (i := 18) (by decide)).trans (congrArg some (hsl 18 (by decide) (by decide)))
          obtain ⟨v42, y42⟩ : ∃ v, wc.cell? ⟨C, 42, none⟩ = some v := ⟨_, hq.bs.r3.cell (i := 42) (by decide)⟩
          obtain ⟨v46, y46⟩ : ∃ v, wc.cell? ⟨C, 46, none⟩ = some v := ⟨_, hq.bs.r3.cell (i := 46) (by decide)⟩
          have z42 := hq.bs.r3.frozen 42
          have z46 := hq.bs.r3.frozen 46
          clear hq e38 e39 e40 e4 hsl
          go_upto_region 20 with fail
          have HQ2 := Lib.hid ((HQ.out.1.setC HAC.out 42 (.int .i64 x4) rfl (by decide) (by decide)).setC HAC.out 46 (.slice (p 9) (n 9) (c 9)) rfl (by decide) (by decide))
          have E2 := Lib.hid (show (upd (upd f3 42 (.int .i64 x4)) 46 (.slice (p 9) (n 9) (c 9)) 38 = .int .i64 fr ∧ upd (upd f3 42 (.int .i64 x4)) 46 (.slice (p 9) (n 9) (c 9)) 39 = .int .i64 s ∧ upd (upd f3 42 (.int .i64 x4)) 46 (.slice (p 9) (n 9) (c 9)) 40 = .int .i64 0) from ⟨(upd_ne (by decide)).trans ((upd_ne (by decide)).trans HQ.out.2.1), (upd_ne (by decide)).trans ((upd_ne (by decide)).trans HQ.out.2.2.1), (upd_ne (by decide)).trans ((upd_ne (by decide)).trans HQ.out.2.2.2)⟩)
          clear HQ y9 y42 y46 z42 z46
          have hq := HQ2.out
          generalize (wc.setCell { block := C, off := 42 } (Value.int IntKind.i64 x4)).setCell { block := C, off := 46 } (.slice (p 9) (n 9) (c 9)) = we at *
          generalize upd (upd f3 42 (.int .i64 x4)) 46 (.slice (p 9) (n 9) (c 9)) = f3 at *
          have y13 := (hq.bs.r1.cell (i := 13) (by decide)).trans (congrArg some (HSL.out 13 (by decide) (by decide)))
          have y12 := (hq.bs.r1.cell (i := 12) (by decide)).trans (congrArg some (HSL.out 12 (by decide) (by decide)))
          have y11 := (hq.bs.r1.cell (i := 11) (by decide)).trans (congrArg some (HSL.out 11 (by decide) (by decide)))
          have y14 := (hq.bs.r1.cell (i := 14) (by decide)).trans (congrArg some (HSL.out 14 (by decide) (by decide)))
          have y18 := (hq.bs.r1.cell (i := 18) (by decide)).trans (congrArg some (HSL.out 18 (by decide) (by decide)))
          clear hq
          go_cut [94] from 60 to 94 (fun u wd => ∃ b : Bool, u = .bool b ∧ wd = we)
          case first => as_aux_lemma =>
            generalize n 13 = n13 at *
            generalize n 12 = n12 at *
            generalize n 11 = n11 at *
            generalize n 14 = n14 at *
            generalize n 18 = n18 at *
            by_cases h13 : ((n13 : Int) == 0) = true
            · by_cases h12 : ((n12 : Int) == 0) = true
              · by_cases h11 : ((n11 : Int) == 0) = true
                · by_cases h14 : ((n14 : Int) == 0) = true
                  · by_cases h18 : ((n18 : Int) == 0) = true
                    · go_wp2_with fail
                      go_meet
                      exact ⟨_, rfl, rfl⟩
                    · have h18 : ((n18 : Int) == 0) = false := by simpa using h18
                      go_wp2_with fail
                      go_meet
                      exact ⟨_, rfl, rfl⟩
                  · have h14 : ((n14 : Int) == 0) = false := by simpa using h14
                    go_wp2_with fail
                    go_meet
                    exact ⟨_, rfl, rfl⟩
                · have h11 : ((n11 : Int) == 0) = false := by simpa using h11
                  go_wp2_with fail
                  go_meet
                  exact ⟨_, rfl, rfl⟩
              · have h12 : ((n12 : Int) == 0) = false := by simpa using h12
                go_wp2_with fail
                go_meet
                exact ⟨_, rfl, rfl⟩
            · have h13 : ((n13 : Int) == 0) = false := by simpa using h13
              go_wp2_with fail
              go_meet
              exact ⟨_, rfl, rfl⟩
          case rest =>
            obtain ⟨bb, rfl, rfl⟩ := hcut
            have HE := Lib.hid (show Be arg fr s A C w3 wc f1 f3 from ⟨HQ2.out.bs, fun k hk => HQ2.out.a k (by omega) (by omega), fun k h1 h2 => ⟨_, _, _, HSL.out k h1 h2⟩, HQ2.out.c, HQ2.out.z, E2.out.1, E2.out.2.1, E2.out.2.2,
              ⟨p 11, n 11, c 11, l 11, HSL.out 11 (by decide) (by decide), ((HR.out 11 (by decide) (by decide) (by decide)).ix (A := A) (C := C) HB3.out (by have := HAw.out; omega) (by have := HAw.out; omega) (by have := HAw.out; omega)).tw HQ2.out.bs.tw, HL.out 11⟩,
              ⟨p 14, n 14, c 14, ds, HSL.out 14 (by decide) (by decide), (HD.out.ix (A := A) (C := C) HB3.out (by have := HAw.out; omega) (by have := HAw.out; omega) (by have := HAw.out; omega)).tw HQ2.out.bs.tw, HLD.out⟩⟩)
            clear HQ2 E2 y13 y12 y11 y14 y18
            have x38 := (HE.out.bs.r3.cell (i := 38) (by decide)).trans (congrArg some HE.out.e38)
            have x39 := (HE.out.bs.r3.cell (i := 39) (by decide)).trans (congrArg some HE.out.e39)
            have x40 := (HE.out.bs.r3.cell (i := 40) (by decide)).trans (congrArg some HE.out.e40)
            go_upto_if 94 with fail
            go_cut [] from 95 to 129 (fun wd => ∃ f1 f3, Be arg fr s A C w3 wd f1 f3)
            case first => as_aux_lemma =>
              cases bb with
              | false =>
                go_wp2_with fail
                go_meet
                exact ⟨_, _, HE.out⟩
              | true =>
                by_cases h0 : fr = 0
                · have b0 : (fr == 0) = true := by simpa using h0
                  clear h0
                  obtain ⟨mp, mn, mc, e10⟩ := HE.out.sl 10 (by decide) (by decide)
                  have y10 := (HE.out.bs.r1.cell (i := 10) (by decide)).trans (congrArg some e10)
                  clear e10
                  by_cases hm : ((mn : Int) == 0) = true
                  · go_wp2_with fail
                    refine (month_any s 0 _ HSB.out.1 HSB.out.2).mono ?_; rintro e w5 ⟨rfl, hb⟩
                    have HE1 := Lib.hid (HE.out.below hb)
                    clear hb y10
                    obtain ⟨v10, y10⟩ : ∃ v, w5.cell? ⟨A, 10, none⟩ = some v := ⟨_, HE1.out.bs.r1.cell (i := 10) (by decide)⟩
                    have z10 := HE1.out.bs.r1.frozen 10
                    have lA10 : A < w5.heap.size := HE1.out.bs.r1.lt
                    have lC10 : C < w5.heap.size := HE1.out.bs.r3.lt
                    go_upto_region 24 with fail
                    rw [← World.setCell_alloc_past _ _ _ _ lA10]
                    have HE2 := Lib.hid ((HE1.out.alloc (.cells #[.int .i64 (Cal.month (s / 86400))] 3)).setM HAC.out (some ⟨w5.heap.size, 0, none⟩) 1 1)
                    generalize (w5.alloc (.cells #[.int .i64 (Cal.month (s / 86400))] 3)).setCell { block := A, off := 10 } (Value.slice (some { block := w5.heap.size, off := 0 }) 1 1) = w6 at *
                    have x39 := (HE2.out.bs.r3.cell (i := 39) (by decide)).trans (congrArg some HE2.out.e39)
                    have x40 := (HE2.out.bs.r3.cell (i := 40) (by decide)).trans (congrArg some HE2.out.e40)
                    clear HE HE1 y10 z10 lA10 lC10
                    go_wp2_with fail
                    refine (day_any s 0 _ HSB.out.1 HSB.out.2).mono ?_; rintro e w7 ⟨rfl, hb⟩
                    have HE3 := Lib.hid (HE2.out.below hb)
                    clear hb
                    obtain ⟨v11, y11⟩ : ∃ v, w7.cell? ⟨A, 11, none⟩ = some v := ⟨_, HE3.out.bs.r1.cell (i := 11) (by decide)⟩
                    have z11 := HE3.out.bs.r1.frozen 11
                    have lA11 : A < w7.heap.size := HE3.out.bs.r1.lt
                    have lC11 : C < w7.heap.size := HE3.out.bs.r3.lt
                    have HW := Lib.hid (RowIx.one (x := Cal.date (s / 86400)) (t := 3) HE3.out.ltA.1 HE3.out.ltA.2)
                    generalize Cal.date (s / 86400) = dt at *
                    go_wp2_with fail
                    go_meet
                    rw [← World.setCell_alloc_past _ _ _ _ lA11]
                    exact ⟨_, _, (HE3.out.alloc _).setD HAC.out _ _ _ _ HW.out (Nat.le_of_ble_eq_true rfl)⟩
                  · have hm : ((mn : Int) == 0) = false := by simpa using hm
                    go_wp2_with fail
                    refine (day_any s 0 _ HSB.out.1 HSB.out.2).mono ?_; rintro e w5 ⟨rfl, hb⟩
                    have HE1 := Lib.hid (HE.out.below hb)
                    clear hb
                    obtain ⟨v11, y11⟩ : ∃ v, w5.cell? ⟨A, 11, none⟩ = some v := ⟨_, HE1.out.bs.r1.cell (i := 11) (by decide)⟩
                    have z11 := HE1.out.bs.r1.frozen 11
                    have lA11 : A < w5.heap.size := HE1.out.bs.r1.lt
                    have lC11 : C < w5.heap.size := HE1.out.bs.r3.lt
                    have HW := Lib.hid (RowIx.one (x := Cal.date (s / 86400)) (t := 3) HE1.out.ltA.1 HE1.out.ltA.2)
                    generalize Cal.date (s / 86400) = dt at *
                    go_wp2_with fail
                    go_meet
                    rw [← World.setCell_alloc_past _ _ _ _ lA11]
                    exact ⟨_, _, (HE1.out.alloc _).setD HAC.out _ _ _ _ HW.out (Nat.le_of_ble_eq_true rfl)⟩
                · have b0 : (fr == 0) = false := by simpa using h0
                  by_cases h1 : fr = 1
                  · have b1 : (fr == 1) = true := by simpa using h1
                    clear h0 h1
                    go_wp2_with fail
                    refine (day_any s 0 _ HSB.out.1 HSB.out.2).mono ?_; rintro e w5 ⟨rfl, hb⟩
                    have HE1 := Lib.hid (HE.out.below hb)
                    clear hb
                    obtain ⟨v11, y11⟩ : ∃ v, w5.cell? ⟨A, 11, none⟩ = some v := ⟨_, HE1.out.bs.r1.cell (i := 11) (by decide)⟩
                    have z11 := HE1.out.bs.r1.frozen 11
                    have lA11 : A < w5.heap.size := HE1.out.bs.r1.lt
                    have lC11 : C < w5.heap.size := HE1.out.bs.r3.lt
                    have HW := Lib.hid (RowIx.one (x := Cal.date (s / 86400)) (t := 3) HE1.out.ltA.1 HE1.out.ltA.2)
                    generalize Cal.date (s / 86400) = dt at *
                    go_wp2_with fail
                    go_meet
                    rw [← World.setCell_alloc_past _ _ _ _ lA11]
                    exact ⟨_, _, (HE1.out.alloc _).setD HAC.out _ _ _ _ HW.out (Nat.le_of_ble_eq_true rfl)⟩
                  · have b1 : (fr == 1) = false := by simpa using h1
                    by_cases h2 : fr = 2
                    · have b2 : (fr == 2) = true := by simpa using h2
                      clear h0 h1 h2
                      go_wp2_with fail
                      refine (weekday_any s 0 _ HSB.out.1 HSB.out.2).mono ?_; rintro e w5 ⟨rfl, hb⟩
                      have HE1 := Lib.hid (HE.out.below hb)
                      clear hb
                      go_wp2_with fail
                      refine (toPy_any _ _ (by omega) (by omega)).mono ?_; rintro e w6 ⟨pd, _, _, rfl, hb⟩
                      have HE2 := Lib.hid (HE1.out.below hb)
                      clear hb
                      obtain ⟨v14, y14⟩ : ∃ v, w6.cell? ⟨A, 14, none⟩ = some v := ⟨_, HE2.out.bs.r1.cell (i := 14) (by decide)⟩
                      have z14 := HE2.out.bs.r1.frozen 14
                      have lA14 : A < w6.heap.size := HE2.out.bs.r1.lt
                      have lC14 : C < w6.heap.size := HE2.out.bs.r3.lt
                      have HW := Lib.hid (RowDx.one (x := pd) (y := 0) (t := 119) HE2.out.ltA.1 HE2.out.ltA.2)
                      go_wp2_with fail
                      go_meet
                      rw [← World.setCell_alloc_past _ _ _ _ lA14]
                      exact ⟨_, _, (HE2.out.alloc _).setY HAC.out _ _ _ _ HW.out (Nat.le_of_ble_eq_true rfl)⟩
                    · have b2 : (fr == 2) = false := by simpa using h2
                      go_wp2_with fail
                      go_meet
                      exact ⟨_, _, HE.out⟩
            case rest =>
              clear HE x38 x39 x40
              obtain ⟨f1, f3, he⟩ := hcut
              obtain ⟨p10, n10, c10, e10⟩ := he.sl 10 (by decide) (by decide)
              obtain ⟨p12, n12, c12, e12⟩ := he.sl 12 (by decide) (by decide)
              obtain ⟨p18, n18, c18, e18⟩ := he.sl 18 (by decide) (by decide)
              have y10 := (he.bs.r1.cell (i := 10) (by decide)).trans (congrArg some e10)
              have y12 := (he.bs.r1.cell (i := 12) (by decide)).trans (congrArg some e12)
              have y18 := (he.bs.r1.cell (i := 18) (by decide)).trans (congrArg some e18)
              obtain ⟨v47, y47⟩ : ∃ v, wc.cell? ⟨C, 47, none⟩ = some v := ⟨_, he.bs.r3.cell (i := 47) (by decide)⟩
              obtain ⟨v50, y50⟩ : ∃ v, wc.cell? ⟨C, 50, none⟩ = some v := ⟨_, he.bs.r3.cell (i := 50) (by decide)⟩
              obtain ⟨v57, y57⟩ : ∃ v, wc.cell? ⟨C, 57, none⟩ = some v := ⟨_, he.bs.r3.cell (i := 57) (by decide)⟩
              have z47 := he.bs.r3.frozen 47
              have z50 := he.bs.r3.frozen 50
              have z57 := he.bs.r3.frozen 57
              have HE := Lib.hid (((he.setC HAC.out 47 (.slice p10 n10 c10) rfl (by decide) (by decide)).setC HAC.out 50 (.slice p12 n12 c12) rfl (by decide) (by decide)).setC HAC.out 57 (.slice p18 n18 c18) rfl (by decide) (by decide))
              clear he e10 e12 e18
              go_upto_region 32 with fail
              generalize (((wc.setCell { block := C, off := 47 } (Value.slice p10 n10 c10)).setCell { block := C, off := 50 } (Value.slice p12 n12 c12)).setCell { block := C, off := 57 } (Value.slice p18 n18 c18)) = w5 at *
              generalize upd (upd (upd f3 47 (Value.slice p10 n10 c10)) 50 (Value.slice p12 n12 c12)) 57 (Value.slice p18 n18 c18) = f3 at *
              clear y10 y12 y18 y47 y50 y57 z47 z50 z57
              obtain ⟨dp, dn, dc, dl, e11, hrow, hdl⟩ := HE.out.d
              have y11 := (HE.out.bs.r1.cell (i := 11) (by decide)).trans (congrArg some e11)
              have HRW := Lib.hid hrow
              clear e11 hrow
              have HB5 := Lib.hid (show A < w5.heap.size ∧ C < w5.heap.size ∧ w3.heap.size ≤ w5.heap.size from ⟨HE.out.bs.r1.lt, HE.out.bs.r3.lt, HE.out.bs.tw.size⟩)
              obtain ⟨B, hBB⟩ : ∃ B, B = w5.heap.size := ⟨_, rfl⟩
              rw [← hBB] at HB5
              obtain ⟨b1, b2, b3⟩ := HB5.out
              have HBB := Lib.hid hBB
              clear hBB HB5
              go_upto_block 0 with fail
              have HS0 := Lib.hid (show Bf arg fr s A C w3 w5 f1 f3 ∧ Tw A C w5 w5 ∧ B ≤ w5.heap.size ∧ f3 52 = .slice none 0 0 ∧ f3 53 = .slice none 0 0 ∧ Own2 B 48 3 1 49 3 1 0 w5 f3 from ⟨HE.out.bf, Tw.refl _ _ _, by have := HBB.out; omega, HE.out.z 52 (by decide), HE.out.z 53 (by decide), ⟨_, 0, [], _, 0, [], HE.out.z 48 (by decide), HE.out.z 49 (by decide), own_nil _ _ _ _, own_nil _ _ _ _, by decide, fun g hg => by cases hg⟩⟩)
              have hdn : dn ≤ 1000 := by have := HRW.out.1; omega
              go_cut [] from 139 to 162 (fun wd => ∃ f3, Bf arg fr s A C w3 wd f1 f3 ∧ Tw A C w5 wd ∧ f3 52 = .slice none 0 0 ∧ f3 53 = .slice none 0 0)
              case first => as_aux_lemma =>
                go_wp2_with fail
                go_loopw [142] (fun v wr => ∃ (k : Nat) (f3 : Nat → Value), k ≤ dn ∧ v = .int .i64 k ∧ Bf arg fr s A C w3 wr f1 f3 ∧ Tw A C w5 wr ∧ B ≤ wr.heap.size ∧ f3 52 = .slice none 0 0 ∧ f3 53 = .slice none 0 0 ∧ Own2 B 48 3 1 49 3 1 k wr f3) (fun v _ => dn - (intOf v).toNat)
                case atStart => exact ⟨0, f3, Nat.zero_le _, rfl, HS0.out⟩
                case round =>
                  clear HS0
                  obtain ⟨k, f3, hk, rfl, hs⟩ := hrel
                  have HS := Lib.hid hs
                  clear hs
                  by_cases hkn : k < dn
                  · have hkl : k < dl.length := by have := HRW.out.1; omega
                    obtain ⟨g, rfl, hg, hgA, hgC, hc⟩ := (HRW.out.tw HS.out.2.1).2 k _ (List.getElem?_eq_getElem hkl)
                    generalize dl[k] = x at *
                    by_cases hx : 0 < x
                    · obtain ⟨va, ma, xsa, vb, mb, xsb, e1, e2, o1, o2, o3, o4⟩ := HS.out.2.2.2.2.2
                      have yk := (HS.out.1.bs.r3.cell (i := 48) (by decide)).trans (congrArg some e1)
                      have zk := HS.out.1.bs.r3.frozen 48
                      have HO1 := Lib.hid (And.intro e2 (And.intro o1 (And.intro o2 (And.intro o3 o4))))
                      have hbw := HS.out.2.2.1
                      have hCw : C < wr.heap.size := by omega
                      clear e1 e2 o1 o2 o4
                      go_wp2_with (at_builtin; refine app_own B rfl _ _ 22 3 (.int .i64 0) 1 8 rfl Tryz.underlying22 info3 rfl (by decide) (by decide) _ _ _ [.int .i64 x] (by rfl) (by rfl) rfl (by simp [Value.oneCell']) HO1.out.2.1 hbw (by omega) ?_)
                      intro g6 cap w6 hown hg1 hg2 hcap hgrow hat
                      have HF := Lib.hid (HS.out.1.grown hgrow (fun g e => (HO1.out.2.1.lt g e).1) b1 b2 b3)
                      have HT6 := Lib.hid (HS.out.2.1.grown hgrow (fun g e => by have := (HO1.out.2.1.lt g e).1; have := HBB.out; omega))
                      have hs6 := hgrow.size
                      have HP := Lib.hid (Own2.push (ka := 48) (kb := 49) (C := C) HO1.out.1 HO1.out.2.1 HO1.out.2.2.1 HO1.out.2.2.2.1 HO1.out.2.2.2.2 hown hgrow hat b2 (by decide))
                      have yk := HF.out.bs.r3.cell (i := 48) (by decide)
                      have zk := HF.out.bs.r3.frozen 48
                      clear hown hgrow hat
                      go_wp2_with fail
                      go_roundw
                      case rel => exact ⟨k + 1, _, by omega, by go_num, HF.out.setC HAC.out 48 _ rfl (by decide), HT6.out.trans (.setC _ _), by simp; omega, (upd_ne (by decide)).trans HS.out.2.2.2.1, (upd_ne (by decide)).trans HS.out.2.2.2.2.1, HP.out⟩
                      case measure => simp [intOf]; omega
                    · by_cases hx2 : x < 0
                      · obtain ⟨va, ma, xsa, vb, mb, xsb, e1, e2, o1, o2, o3, o4⟩ := HS.out.2.2.2.2.2.swap
                        have yk := (HS.out.1.bs.r3.cell (i := 49) (by decide)).trans (congrArg some e1)
                        have zk := HS.out.1.bs.r3.frozen 49
                        have HO1 := Lib.hid (And.intro e2 (And.intro o1 (And.intro o2 (And.intro o3 o4))))
                        have hbw := HS.out.2.2.1
                        have hCw : C < wr.heap.size := by omega
                        clear e1 e2 o1 o2 o4
                        go_wp2_with (at_builtin; refine app_own B rfl _ _ 22 3 (.int .i64 0) 1 8 rfl Tryz.underlying22 info3 rfl (by decide) (by decide) _ _ _ [.int .i64 x] (by rfl) (by rfl) rfl (by simp [Value.oneCell']) HO1.out.2.1 hbw (by omega) ?_)
                        intro g6 cap w6 hown hg1 hg2 hcap hgrow hat
                        have HF := Lib.hid (HS.out.1.grown hgrow (fun g e => (HO1.out.2.1.lt g e).1) b1 b2 b3)
                        have HT6 := Lib.hid (HS.out.2.1.grown hgrow (fun g e => by have := (HO1.out.2.1.lt g e).1; have := HBB.out; omega))
                        have hs6 := hgrow.size
                        have HP := Lib.hid (Own2.push (ka := 49) (kb := 48) (C := C) HO1.out.1 HO1.out.2.1 HO1.out.2.2.1 HO1.out.2.2.2.1 HO1.out.2.2.2.2 hown hgrow hat b2 (by decide))
                        have yk := HF.out.bs.r3.cell (i := 49) (by decide)
                        have zk := HF.out.bs.r3.frozen 49
                        clear hown hgrow hat
                        go_wp2_with fail
                        go_roundw
                        case rel => exact ⟨k + 1, _, by omega, by go_num, HF.out.setC HAC.out 49 _ rfl (by decide), HT6.out.trans (.setC _ _), by simp; omega, (upd_ne (by decide)).trans HS.out.2.2.2.1, (upd_ne (by decide)).trans HS.out.2.2.2.2.1, HP.out.swap⟩
                        case measure => simp [intOf]; omega
                      · go_wp2_with fail
                        go_roundw
                        case rel => exact ⟨k + 1, _, by omega, by go_num, HS.out.1, HS.out.2.1, HS.out.2.2.1, HS.out.2.2.2.1, HS.out.2.2.2.2.1, HS.out.2.2.2.2.2.more⟩
                        case measure => simp [intOf]; omega
                  · have hkn' : k = dn := by omega
                    subst hkn'
                    go_wp2_with fail
                    go_meet
                    exact ⟨_, HS.out.1, HS.out.2.1, HS.out.2.2.2.1, HS.out.2.2.2.2.1⟩
              case rest =>
                clear HS0
                obtain ⟨f3, hf, htw, e52, e53⟩ := hcut
                obtain ⟨yp, yn, yc, yl, e14, yrow, ylen⟩ := HE.out.y
                obtain ⟨p13, n13, c13, e13⟩ := hf.sl 13 (by decide) (by decide)
                have y13 := (hf.bs.r1.cell (i := 13) (by decide)).trans (congrArg some e13)
                obtain ⟨v51, y51⟩ : ∃ v, wc.cell? ⟨C, 51, none⟩ = some v := ⟨_, hf.bs.r3.cell (i := 51) (by decide)⟩
                have z51 := hf.bs.r3.frozen 51
                have HF := Lib.hid (hf.setC HAC.out 51 (.slice p13 n13 c13) rfl (by decide))
                have HRW2 := Lib.hid ((yrow.tw htw).tw (.setC (A := A) (C := C) 51 (.slice p13 n13 c13)))
                have HNN := Lib.hid (And.intro ((upd_ne (by decide) : upd f3 51 (.slice p13 n13 c13) 52 = _).trans e52) ((upd_ne (by decide) : upd f3 51 (.slice p13 n13 c13) 53 = _).trans e53))
                clear hf htw e52 e53 yrow e13 HRW HBB b1 b2 b3 y11 hdn hdl
                go_upto_region 41 with fail
                generalize wc.setCell { block := C, off := 51 } (Value.slice p13 n13 c13) = w7 at *
                generalize upd f3 51 (Value.slice p13 n13 c13) = f3 at *
                have y14 := (HF.out.bs.r1.cell (i := 14) (by decide)).trans (congrArg some e14)
                have x38 := (HF.out.bs.r3.cell (i := 38) (by decide)).trans (congrArg some HF.out.e38)
                have HB5 := Lib.hid (show A < w7.heap.size ∧ C < w7.heap.size ∧ w3.heap.size ≤ w7.heap.size from ⟨HF.out.bs.r1.lt, HF.out.bs.r3.lt, HF.out.bs.tw.size⟩)
                obtain ⟨B2, hBB⟩ : ∃ B, B = w7.heap.size := ⟨_, rfl⟩
                rw [← hBB] at HB5
                obtain ⟨d1, d2, d3⟩ := HB5.out
                have HB7 := Lib.hid hBB
                have HS0 := Lib.hid (show Bf arg fr s A C w3 w7 f1 f3 ∧ Tw A C w7 w7 ∧ B2 ≤ w7.heap.size ∧ Own2 B2 52 3 1 53 119 2 0 w7 f3 from ⟨HF.out, Tw.refl _ _ _, by omega, ⟨_, 0, [], _, 0, [], HNN.out.1, HNN.out.2, own_nil _ _ _ _, own_nil _ _ _ _, by decide, fun g hg => by cases hg⟩⟩)
                clear hBB HB5 y13 y51 z51 e14 HNN
                go_upto_block 2 with fail
                have hyn : yn ≤ 1000 := by have := HRW2.out.1; omega
                go_cut [] from 163 to 194 (fun wd => ∃ f3, Bf arg fr s A C w3 wd f1 f3 ∧ Tw A C w7 wd)
                case first => as_aux_lemma =>
                  go_wp2_with fail
                  go_loopw [169] (fun v wr => ∃ (k : Nat) (f3 : Nat → Value), k ≤ yn ∧ v = .int .i64 k ∧ Bf arg fr s A C w3 wr f1 f3 ∧ Tw A C w7 wr ∧ B2 ≤ wr.heap.size ∧ Own2 B2 52 3 1 53 119 2 k wr f3) (fun v _ => yn - (intOf v).toNat)
                  case atStart => exact ⟨0, f3, Nat.zero_le _, rfl, HS0.out⟩
                  case round =>
                    clear HS0
                    obtain ⟨k, f3, hk, rfl, hs⟩ := hrel
                    have HS := Lib.hid hs
                    clear hs
                    by_cases hkn : k < yn
                    · have hkl : k < yl.length := by have := HRW2.out.1; omega
                      obtain ⟨kd, nd, hget⟩ : ∃ kd nd, yl[k]? = some (kd, nd) := ⟨_, _, List.getElem?_eq_getElem hkl⟩
                      obtain ⟨g, rfl, hg, hgA, hgC, hc, hc2⟩ := (HRW2.out.tw HS.out.2.1).2 k _ _ hget
                      clear hget
                      go_upto_region 44 with fail
                      have HSn := Lib.hid (show Bf arg fr s A C w3 (wr.alloc (.cells #[.int .i64 kd, .int .i64 nd] 119)) f1 f3 ∧ Tw A C w7 (wr.alloc (.cells #[.int .i64 kd, .int .i64 nd] 119)) ∧ B2 ≤ (wr.alloc (.cells #[.int .i64 kd, .int .i64 nd] 119)).heap.size ∧ Own2 B2 52 3 1 53 119 2 k (wr.alloc (.cells #[.int .i64 kd, .int .i64 nd] 119)) f3 from ⟨HS.out.1.alloc _, HS.out.2.1.trans (.alloc _), by have := HS.out.2.2.1; simp; omega, HS.out.2.2.2.kept (World.grownBy_alloc _ _ _)⟩)
                      clear HS
                      have q0 : (wr.alloc (.cells #[.int .i64 kd, .int .i64 nd] 119)).cell? ⟨wr.heap.size, 0, none⟩ = some (.int .i64 kd) := by simp
                      have q1 : (wr.alloc (.cells #[.int .i64 kd, .int .i64 nd] 119)).cell? ⟨wr.heap.size, 1, none⟩ = some (.int .i64 nd) := by simp
                      have q2 : wr.heap.size < (wr.alloc (.cells #[.int .i64 kd, .int .i64 nd] 119)).heap.size := by simp
                      generalize wr.alloc (.cells #[.int .i64 kd, .int .i64 nd] 119) = wr2 at *
                      generalize wr.heap.size = Sb at *
                      have HS := HSn
                      clear HSn
                      have x38 := (HS.out.1.bs.r3.cell (i := 38) (by decide)).trans (congrArg some HS.out.1.e38)
                      by_cases hnd : nd = 0
                      · have hb0 : (nd == 0) = true := by simpa using hnd
                        clear hnd
                        obtain ⟨va, ma, xsa, vb, mb, xsb, e1, e2, o1, o2, o3, o4⟩ := HS.out.2.2.2
                        have yk := (HS.out.1.bs.r3.cell (i := 52) (by decide)).trans (congrArg some e1)
                        have zk := HS.out.1.bs.r3.frozen 52
                        have HO1 := Lib.hid (And.intro e2 (And.intro o1 (And.intro o2 (And.intro o3 o4))))
                        have hbw := HS.out.2.2.1
                        have hCw : C < wr2.heap.size := by omega
                        clear e1 e2 o1 o2 o4
                        go_wp2_with (at_builtin; refine app_own B2 rfl _ _ 22 3 (.int .i64 0) 1 8 rfl Tryz.underlying22 info3 rfl (by decide) (by decide) _ _ _ [.int .i64 kd] (by rfl) (by rfl) rfl (by simp [Value.oneCell']) HO1.out.2.1 hbw (by omega) ?_)
                        intro g6 cap w6 hown hg1 hg2 hcap hgrow hat
                        have HF := Lib.hid (HS.out.1.grown hgrow (fun g e => (HO1.out.2.1.lt g e).1) d1 d2 d3)
                        have HT6 := Lib.hid (HS.out.2.1.grown hgrow (fun g e => by have := (HO1.out.2.1.lt g e).1; have := HB7.out; omega))
                        have hs6 := hgrow.size
                        have HP := Lib.hid (Own2.push (ka := 52) (kb := 53) (C := C) HO1.out.1 HO1.out.2.1 HO1.out.2.2.1 HO1.out.2.2.2.1 HO1.out.2.2.2.2 hown hgrow hat d2 (by decide))
                        have yk := HF.out.bs.r3.cell (i := 52) (by decide)
                        have zk := HF.out.bs.r3.frozen 52
                        clear hown hgrow hat
                        go_wp2_with fail
                        go_roundw
                        case rel => exact ⟨k + 1, _, by omega, by go_num, HF.out.setC HAC.out 52 _ rfl (by decide), HT6.out.trans (.setC _ _), by simp; omega, HP.out⟩
                        case measure => simp [intOf]; omega
                      · have hb0 : (nd == 0) = false := by simpa using hnd
                        by_cases hf1 : 1 < fr
                        · obtain ⟨va, ma, xsa, vb, mb, xsb, e1, e2, o1, o2, o3, o4⟩ := HS.out.2.2.2
                          have yk := (HS.out.1.bs.r3.cell (i := 52) (by decide)).trans (congrArg some e1)
                          have zk := HS.out.1.bs.r3.frozen 52
                          have HO1 := Lib.hid (And.intro e2 (And.intro o1 (And.intro o2 (And.intro o3 o4))))
                          have hbw := HS.out.2.2.1
                          have hCw : C < wr2.heap.size := by omega
                          clear e1 e2 o1 o2 o4
                          go_wp2_with (at_builtin; refine app_own B2 rfl _ _ 22 3 (.int .i64 0) 1 8 rfl Tryz.underlying22 info3 rfl (by decide) (by decide) _ _ _ [.int .i64 kd] (by rfl) (by rfl) rfl (by simp [Value.oneCell']) HO1.out.2.1 hbw (by omega) ?_)
                          intro g6 cap w6 hown hg1 hg2 hcap hgrow hat
                          have HF := Lib.hid (HS.out.1.grown hgrow (fun g e => (HO1.out.2.1.lt g e).1) d1 d2 d3)
                          have HT6 := Lib.hid (HS.out.2.1.grown hgrow (fun g e => by have := (HO1.out.2.1.lt g e).1; have := HB7.out; omega))
                          have hs6 := hgrow.size
                          have HP := Lib.hid (Own2.push (ka := 52) (kb := 53) (C := C) HO1.out.1 HO1.out.2.1 HO1.out.2.2.1 HO1.out.2.2.2.1 HO1.out.2.2.2.2 hown hgrow hat d2 (by decide))
                          have yk := HF.out.bs.r3.cell (i := 52) (by decide)
                          have zk := HF.out.bs.r3.frozen 52
                          clear hown hgrow hat
                          go_wp2_with fail
                          go_roundw
                          case rel => exact ⟨k + 1, _, by omega, by go_num, HF.out.setC HAC.out 52 _ rfl (by decide), HT6.out.trans (.setC _ _), by simp; omega, HP.out⟩
                          case measure => simp [intOf]; omega
                        · obtain ⟨va, ma, xsa, vb, mb, xsb, e1, e2, o1, o2, o3, o4⟩ := HS.out.2.2.2.swap
                          have yk := (HS.out.1.bs.r3.cell (i := 53) (by decide)).trans (congrArg some e1)
                          have zk := HS.out.1.bs.r3.frozen 53
                          have HO1 := Lib.hid (And.intro e2 (And.intro o1 (And.intro o2 (And.intro o3 o4))))
                          have hbw := HS.out.2.2.1
                          have hCw : C < wr2.heap.size := by omega
                          clear e1 e2 o1 o2 o4
                          go_wp2_with (at_builtin; refine app_own B2 rfl _ _ 120 119 (.agg #[.int .i64 0, .int .i64 0]) 2 16 rfl Tryz.underlying120 info119 rfl (by decide) (by decide) _ _ _ [.int .i64 kd, .int .i64 nd] (by rfl) (by rfl) rfl (by simp [Value.oneCell']) HO1.out.2.1 hbw (by omega) ?_)
                          intro g6 cap w6 hown hg1 hg2 hcap hgrow hat
                          have HF := Lib.hid (HS.out.1.grown hgrow (fun g e => (HO1.out.2.1.lt g e).1) d1 d2 d3)
                          have HT6 := Lib.hid (HS.out.2.1.grown hgrow (fun g e => by have := (HO1.out.2.1.lt g e).1; have := HB7.out; omega))
                          have hs6 := hgrow.size
                          have HP := Lib.hid (Own2.push (ka := 53) (kb := 52) (C := C) HO1.out.1 HO1.out.2.1 HO1.out.2.2.1 HO1.out.2.2.2.1 HO1.out.2.2.2.2 hown hgrow hat d2 (by decide))
                          have yk := HF.out.bs.r3.cell (i := 53) (by decide)
                          have zk := HF.out.bs.r3.frozen 53
                          clear hown hgrow hat
                          go_wp2_with fail
                          go_roundw
                          case rel => exact ⟨k + 1, _, by omega, by go_num, HF.out.setC HAC.out 53 _ rfl (by decide), HT6.out.trans (.setC _ _), by simp; omega, HP.out.swap⟩
                          case measure => simp [intOf]; omega
                    · have hkn' : k = yn := by omega
                      subst hkn'
                      go_wp2_with fail
                      go_meet
                      exact ⟨_, HS.out.1, HS.out.2.1⟩
                case rest =>
                  clear HS0 hyn d1 d2 d3 HB7 HRW2 HF y14 x38 ylen
                  obtain ⟨f3, hf, _⟩ := hcut
                  have HF := Lib.hid hf
                  clear hf
                  have HQ := Lib.hid (show (15 : Nat) = 15 from rfl)
                  have hsl := (HF.out.a 15 (by decide)).trans ((congrFun HA.out 15).trans (optF_sl _ _ _ _ _ _ _ _ _ _ _ _ _ (by decide)))
                  have yA := (HF.out.bs.r1.cell (i := 15) (by decide)).trans (congrArg some hsl)
                  have x38 := (HF.out.bs.r3.cell (i := 38) (by decide)).trans (congrArg some HF.out.e38)
                  have x39 := (HF.out.bs.r3.cell (i := 39) (by decide)).trans (congrArg some HF.out.e39)
                  have x40 := (HF.out.bs.r3.cell (i := 40) (by decide)).trans (congrArg some HF.out.e40)
                  have HRW := Lib.hid (((HR.out 15 (by decide) (by decide) (by decide)).ix (A := A) (C := C) HB3.out (by have := HAw.out; omega) (by have := HAw.out; omega) (by have := HAw.out; omega)).tw HF.out.bs.tw)
                  clear hsl
                  go_upto_if 198 with fail
                  go_cut [] from 195 to 209 (fun wd => ∃ f3, Bf arg fr s A C w3 wd f1 f3 ∧ (fr < 4 → Tm A C wd f3 54 23 (max 1 (l 15).length)))
                  case first => as_aux_lemma =>
                    generalize p 15 = pp at *
                    generalize n 15 = nn at *
                    generalize c 15 = cc at *
                    by_cases hn : ((nn : Int) == 0) = true
                    · by_cases hf : fr < 4
                      · go_wp2_with fail
                        refine (hour_any s 0 _ HSB.out.1 HSB.out.2).mono ?_; rintro e w5 ⟨rfl, hb⟩
                        have HF1 := Lib.hid (HF.out.below hb)
                        have HTb := Lib.hid (Tw.of_below (A := A) (C := C) hb (Nat.le_refl _))
                        clear hb
                        obtain ⟨vk, yk⟩ : ∃ v, w5.cell? ⟨C, 54, none⟩ = some v := ⟨_, HF1.out.bs.r3.cell (i := 54) (by decide)⟩
                        have zk := HF1.out.bs.r3.frozen 54
                        have lC : C < w5.heap.size := HF1.out.bs.r3.lt
                        have HW := Lib.hid (RowIx.one (x := (s % 86400 / 3600)) (t := 3) HF1.out.ltA.1 HF1.out.ltA.2)
                        have hv0 : 0 ≤ (s % 86400 / 3600) ∧ (s % 86400 / 3600) ≤ 23 := by omega
                        have HV0 := Lib.hid hv0
                        clear hv0
                        generalize (s % 86400 / 3600) = vv at *
                        go_wp2_with fail
                        go_meet
                        rw [← World.setCell_alloc_past _ _ _ _ lC]
                        refine ⟨_, (HF1.out.alloc _).setC HAC.out 54 _ rfl (by decide), fun _ => ⟨_, _, _, [vv], upd_self _ _ _, HW.out.tw (.setC _ _), by simp; omega, fun x hx => ?_⟩⟩
                        simp at hx
                        subst hx
                        exact HV0.out
                      · go_wp2_with fail
                        go_meet
                        refine ⟨_, HF.out, fun h => absurd h (by omega)⟩
                    · have hn : ((nn : Int) == 0) = false := by simpa using hn
                      obtain ⟨vk, yk⟩ : ∃ v, wc.cell? ⟨C, 54, none⟩ = some v := ⟨_, HF.out.bs.r3.cell (i := 54) (by decide)⟩
                      have zk := HF.out.bs.r3.frozen 54
                      go_wp2_with fail
                      go_meet
                      exact ⟨_, HF.out.setC HAC.out 54 _ rfl (by decide), fun _ => ⟨_, _, _, l 15, upd_self _ _ _, HRW.out.tw (.setC _ _), by omega, HV.out.1⟩⟩
                  case rest =>
                    clear HF HQ HRW yA x38 x39 x40
                    obtain ⟨f3, hf, q0⟩ := hcut
                    have HF := Lib.hid hf
                    have HQ := Lib.hid (q0)
                    clear hf q0
                    have hsl := (HF.out.a 16 (by decide)).trans ((congrFun HA.out 16).trans (optF_sl _ _ _ _ _ _ _ _ _ _ _ _ _ (by decide)))
                    have yA := (HF.out.bs.r1.cell (i := 16) (by decide)).trans (congrArg some hsl)
                    have x38 := (HF.out.bs.r3.cell (i := 38) (by decide)).trans (congrArg some HF.out.e38)
                    have x39 := (HF.out.bs.r3.cell (i := 39) (by decide)).trans (congrArg some HF.out.e39)
                    have x40 := (HF.out.bs.r3.cell (i := 40) (by decide)).trans (congrArg some HF.out.e40)
                    have HRW := Lib.hid (((HR.out 16 (by decide) (by decide) (by decide)).ix (A := A) (C := C) HB3.out (by have := HAw.out; omega) (by have := HAw.out; omega) (by have := HAw.out; omega)).tw HF.out.bs.tw)
                    clear hsl
                    go_upto_if 213 with fail
                    go_cut [] from 210 to 224 (fun wd => ∃ f3, Bf arg fr s A C w3 wd f1 f3 ∧ (fr < 4 → Tm A C wd f3 54 23 (max 1 (l 15).length)) ∧ (fr < 4 → Tm A C wd f3 55 59 (max 1 (l 16).length)))
                    case first => as_aux_lemma =>
                      generalize p 16 = pp at *
                      generalize n 16 = nn at *
                      generalize c 16 = cc at *
                      by_cases hn : ((nn : Int) == 0) = true
                      · by_cases hf : fr < 5
                        · go_wp2_with fail
                          refine (minute_any s 0 _ HSB.out.1 HSB.out.2).mono ?_; rintro e w5 ⟨rfl, hb⟩
                          have HF1 := Lib.hid (HF.out.below hb)
                          have HTb := Lib.hid (Tw.of_below (A := A) (C := C) hb (Nat.le_refl _))
                          clear hb
                          obtain ⟨vk, yk⟩ : ∃ v, w5.cell? ⟨C, 55, none⟩ = some v := ⟨_, HF1.out.bs.r3.cell (i := 55) (by decide)⟩
                          have zk := HF1.out.bs.r3.frozen 55
                          have lC : C < w5.heap.size := HF1.out.bs.r3.lt
                          have HW := Lib.hid (RowIx.one (x := (s % 86400 / 60 % 60)) (t := 3) HF1.out.ltA.1 HF1.out.ltA.2)
                          have hv0 : 0 ≤ (s % 86400 / 60 % 60) ∧ (s % 86400 / 60 % 60) ≤ 59 := by omega
                          have HV0 := Lib.hid hv0
                          clear hv0
                          generalize (s % 86400 / 60 % 60) = vv at *
                          go_wp2_with fail
                          go_meet
                          rw [← World.setCell_alloc_past _ _ _ _ lC]
                          refine ⟨_, (HF1.out.alloc _).setC HAC.out 55 _ rfl (by decide), fun h => (((HQ.out) h).tw ((HTb.out.trans (.alloc _)).trans (.setC _ _))).upd (by decide), fun _ => ⟨_, _, _, [vv], upd_self _ _ _, HW.out.tw (.setC _ _), by simp; omega, fun x hx => ?_⟩⟩
                          simp at hx
                          subst hx
                          exact HV0.out
                        · go_wp2_with fail
                          go_meet
                          refine ⟨_, HF.out, HQ.out, fun h => absurd h (by omega)⟩
                      · have hn : ((nn : Int) == 0) = false := by simpa using hn
                        obtain ⟨vk, yk⟩ : ∃ v, wc.cell? ⟨C, 55, none⟩ = some v := ⟨_, HF.out.bs.r3.cell (i := 55) (by decide)⟩
                        have zk := HF.out.bs.r3.frozen 55
                        go_wp2_with fail
                        go_meet
                        exact ⟨_, HF.out.setC HAC.out 55 _ rfl (by decide), fun h => (((HQ.out) h).tw (.setC _ _)).upd (by decide), fun _ => ⟨_, _, _, l 16, upd_self _ _ _, HRW.out.tw (.setC _ _), by omega, HV.out.2.1⟩⟩
                    case rest =>
                      clear HF HQ HRW yA x38 x39 x40
                      obtain ⟨f3, hf, q0, q1⟩ := hcut
                      have HF := Lib.hid hf
                      have HQ := Lib.hid (And.intro q0 q1)
                      clear hf q0 q1
                      have hsl := (HF.out.a 17 (by decide)).trans ((congrFun HA.out 17).trans (optF_sl _ _ _ _ _ _ _ _ _ _ _ _ _ (by decide)))
                      have yA := (HF.out.bs.r1.cell (i := 17) (by decide)).trans (congrArg some hsl)
                      have x38 := (HF.out.bs.r3.cell (i := 38) (by decide)).trans (congrArg some HF.out.e38)
                      have x39 := (HF.out.bs.r3.cell (i := 39) (by decide)).trans (congrArg some HF.out.e39)
                      have x40 := (HF.out.bs.r3.cell (i := 40) (by decide)).trans (congrArg some HF.out.e40)
                      have HRW := Lib.hid (((HR.out 17 (by decide) (by decide) (by decide)).ix (A := A) (C := C) HB3.out (by have := HAw.out; omega) (by have := HAw.out; omega) (by have := HAw.out; omega)).tw HF.out.bs.tw)
                      clear hsl
                      go_upto_if 228 with fail
                      go_cut [] from 225 to 239 (fun wd => ∃ f3, Bf arg fr s A C w3 wd f1 f3 ∧ (fr < 4 → Tm A C wd f3 54 23 (max 1 (l 15).length)) ∧ (fr < 4 → Tm A C wd f3 55 59 (max 1 (l 16).length)) ∧ (fr < 4 → Tm A C wd f3 56 59 (max 1 (l 17).length)))
                      case first => as_aux_lemma =>
                        generalize p 17 = pp at *
                        generalize n 17 = nn at *
                        generalize c 17 = cc at *
                        by_cases hn : ((nn : Int) == 0) = true
                        · by_cases hf : fr < 6
                          · go_wp2_with fail
                            refine (second_any s 0 _ HSB.out.1 HSB.out.2).mono ?_; rintro e w5 ⟨rfl, hb⟩
                            have HF1 := Lib.hid (HF.out.below hb)
                            have HTb := Lib.hid (Tw.of_below (A := A) (C := C) hb (Nat.le_refl _))
                            clear hb
                            obtain ⟨vk, yk⟩ : ∃ v, w5.cell? ⟨C, 56, none⟩ = some v := ⟨_, HF1.out.bs.r3.cell (i := 56) (by decide)⟩
                            have zk := HF1.out.bs.r3.frozen 56
                            have lC : C < w5.heap.size := HF1.out.bs.r3.lt
                            have HW := Lib.hid (RowIx.one (x := (s % 86400 % 60)) (t := 3) HF1.out.ltA.1 HF1.out.ltA.2)
                            have hv0 : 0 ≤ (s % 86400 % 60) ∧ (s % 86400 % 60) ≤ 59 := by omega
                            have HV0 := Lib.hid hv0
                            clear hv0
                            generalize (s % 86400 % 60) = vv at *
                            go_wp2_with fail
                            go_meet
                            rw [← World.setCell_alloc_past _ _ _ _ lC]
                            refine ⟨_, (HF1.out.alloc _).setC HAC.out 56 _ rfl (by decide), fun h => (((HQ.out.1) h).tw ((HTb.out.trans (.alloc _)).trans (.setC _ _))).upd (by decide), fun h => (((HQ.out.2) h).tw ((HTb.out.trans (.alloc _)).trans (.setC _ _))).upd (by decide), fun _ => ⟨_, _, _, [vv], upd_self _ _ _, HW.out.tw (.setC _ _), by simp; omega, fun x hx => ?_⟩⟩
                            simp at hx
                            subst hx
                            exact HV0.out
                          · go_wp2_with fail
                            go_meet
                            refine ⟨_, HF.out, HQ.out.1, HQ.out.2, fun h => absurd h (by omega)⟩
                        · have hn : ((nn : Int) == 0) = false := by simpa using hn
                          obtain ⟨vk, yk⟩ : ∃ v, wc.cell? ⟨C, 56, none⟩ = some v := ⟨_, HF.out.bs.r3.cell (i := 56) (by decide)⟩
                          have zk := HF.out.bs.r3.frozen 56
                          go_wp2_with fail
                          go_meet
                          exact ⟨_, HF.out.setC HAC.out 56 _ rfl (by decide), fun h => (((HQ.out.1) h).tw (.setC _ _)).upd (by decide), fun h => (((HQ.out.2) h).tw (.setC _ _)).upd (by decide), fun _ => ⟨_, _, _, l 17, upd_self _ _ _, HRW.out.tw (.setC _ _), by omega, HV.out.2.2⟩⟩
                      case rest =>
                        clear HF HQ HRW yA x38 x39 x40
                        obtain ⟨f3, hf, q0, q1, q2⟩ := hcut
                        have HF := Lib.hid hf
                        have HQ := Lib.hid (And.intro q0 (And.intro q1 q2))
                        clear hf q0 q1 q2
                        have x38 := (HF.out.bs.r3.cell (i := 38) (by decide)).trans (congrArg some HF.out.e38)
                        obtain ⟨v58, y58⟩ : ∃ v, wc.cell? ⟨C, 58, none⟩ = some v := ⟨_, HF.out.bs.r3.cell (i := 58) (by decide)⟩
                        have z58 := HF.out.bs.r3.frozen 58
                        go_upto_if 243 with fail
                        have HF2 := Lib.hid (HF.out.setC HAC.out 58 (.slice none 0 0) rfl (by decide))
                        have HQ2 := Lib.hid (show (fr < 4 → Tm A C (wc.setCell ⟨C, 58, none⟩ (.slice none 0 0)) (upd f3 58 (.slice none 0 0)) 54 23 (max 1 (l 15).length) ∧ Tm A C (wc.setCell ⟨C, 58, none⟩ (.slice none 0 0)) (upd f3 58 (.slice none 0 0)) 55 59 (max 1 (l 16).length) ∧ Tm A C (wc.setCell ⟨C, 58, none⟩ (.slice none 0 0)) (upd f3 58 (.slice none 0 0)) 56 59 (max 1 (l 17).length)) from fun h => ⟨((HQ.out.1 h).tw (.setC _ _)).upd (by decide), ((HQ.out.2.1 h).tw (.setC _ _)).upd (by decide), ((HQ.out.2.2 h).tw (.setC _ _)).upd (by decide)⟩)
                        clear HF HQ x38 y58 z58
                        generalize wc.setCell { block := C, off := 58 } (Value.slice none 0 0) = wj at *
                        generalize upd f3 58 (Value.slice none 0 0) = f3 at *
                        go_cut [] from 240 to 296 (fun wd => ∃ f3, Bf arg fr s A C w3 wd f1 f3)
                        case first =>
                          by_cases hf : fr < 4
                          · rw [decide_eq_true hf]
                            obtain ⟨⟨p1, n1, c1, l1, e54, r1, b1, v1⟩, ⟨p2, n2, c2, l2, e55, r2, b2, v2⟩, ⟨p3, n3, c3, l3, e56, r3, b3, v3⟩⟩ := HQ2.out hf
                            have y54 := (HF2.out.bs.r3.cell (i := 54) (by decide)).trans (congrArg some e54)
                            have y55 := (HF2.out.bs.r3.cell (i := 55) (by decide)).trans (congrArg some e55)
                            have y56 := (HF2.out.bs.r3.cell (i := 56) (by decide)).trans (congrArg some e56)
                            obtain ⟨v58, y58⟩ : ∃ v, wj.cell? ⟨C, 58, none⟩ = some v := ⟨_, HF2.out.bs.r3.cell (i := 58) (by decide)⟩
                            have z58 := HF2.out.bs.r3.frozen 58
                            have lC := HF2.out.bs.r3.lt
                            have hm1 : n1 ≤ max 1 (l 15).length := by rw [r1.1]; exact b1
                            have hm2 : n2 ≤ max 1 (l 16).length := by rw [r2.1]; exact b2
                            have hm3 : n3 ≤ max 1 (l 17).length := by rw [r3.1]; exact b3
                            have hq1 : n1 ≤ 1000 := by have := HL.out 15; omega
                            have hq2 : n2 ≤ 1000 := by have := HL.out 16; omega
                            have hq3 : n3 ≤ 1000 := by have := HL.out 17; omega
                            have hprod : n1 * n2 * n3 ≤ 1000 := Nat.le_trans (Nat.mul_le_mul (Nat.mul_le_mul hm1 hm2) hm3) HP.out
                            have hprod2 : n1 * n2 ≤ 1000000 := Nat.mul_le_mul hq1 hq2
                            obtain ⟨N2, hN2⟩ : ∃ N2 : Nat, (n1 : Int) * n2 = N2 := ⟨n1 * n2, by simp⟩
                            obtain ⟨N3, hN3⟩ : ∃ N3 : Nat, (N2 : Int) * n3 = N3 := ⟨N2 * n3, by simp⟩
                            have hN2' : N2 = n1 * n2 := by have : ((n1 * n2 : Nat) : Int) = N2 := by rw [← hN2]; simp
                                                           omega
                            have hN3' : N3 = N2 * n3 := by have : ((N2 * n3 : Nat) : Int) = N3 := by rw [← hN3]; simp
                                                           omega
                            have hN2b : N2 ≤ 1000000 := by rw [hN2']; exact hprod2
                            have hN3b : N3 ≤ 1000 := by rw [hN3', hN2']; exact hprod
                            have R1 := Lib.hid r1
                            have R2 := Lib.hid r2
                            have R3 := Lib.hid r3
                            have V1 := Lib.hid v1
                            have V2 := Lib.hid v2
                            have V3 := Lib.hid v3
                            have E5 := Lib.hid (And.intro e55 e56)
                            have HE54 := Lib.hid e54
                            have hmk := fun W => mk_times N3 hN3b W
                            have hw1 : IntKind.i64.wrap ((n1 : Int) * n2) = N2 := by rw [hN2]; simp [IntKind.wrap, IntKind.bits, IntKind.signed]; omega
                            have hw2 : IntKind.i64.wrap ((N2 : Int) * n3) = N3 := by rw [hN3]; simp [IntKind.wrap, IntKind.bits, IntKind.signed]; omega
                            clear r1 r2 r3 v1 v2 v3 e54 e55 e56 b1 b2 b3 hm1 hm2 hm3 hprod hprod2 hN2' hN3'
                            go_upto_region 63 with fail
                            rw [← World.setCell_alloc_past _ _ _ _ lC]
                            have HF9 := Lib.hid ((HF2.out.alloc (.cells (madeCells #[.int .i64 0, .int .i64 0] (N3 * 2)) 109)).setC HAC.out 58 (.slice (some ⟨wj.heap.size, 0, none⟩) 0 N3) rfl (by decide))
                            have HT9 := Lib.hid ((Tw.alloc (A := A) (C := C) (w := wj) (.cells (madeCells #[.int .i64 0, .int .i64 0] (N3 * 2)) 109)).trans (.setC 58 (.slice (some ⟨wj.heap.size, 0, none⟩) 0 N3)))
                            have HO9 := Lib.hid (own_set (C := C) (k := 58) (u := .slice (some ⟨wj.heap.size, 0, none⟩) 0 N3) (World.ownsRow_made wj (base := wj.heap.size) (e := 109) (size := 2) (madeCells #[.int .i64 0, .int .i64 0] (N3 * 2)) N3 (Nat.le_refl _) (by unfold maxLen; omega) (size_madeCells _ _)) lC)
                            have hsz9 : wj.heap.size < ((wj.alloc (.cells (madeCells #[.int .i64 0, .int .i64 0] (N3 * 2)) 109)).setCell ⟨C, 58, none⟩ (.slice (some ⟨wj.heap.size, 0, none⟩) 0 N3)).heap.size := by simp
                            have lA := HF2.out.bs.r1.lt
                            have lw3 := HF2.out.bs.tw.size
                            generalize ((wj.alloc (.cells (madeCells #[.int .i64 0, .int .i64 0] (N3 * 2)) 109)).setCell ⟨C, 58, none⟩ (.slice (some ⟨wj.heap.size, 0, none⟩) 0 N3)) = w9 at *
                            obtain ⟨B, hB⟩ : ∃ B, B = wj.heap.size := ⟨_, rfl⟩
                            rw [← hB] at HF9 HO9 hsz9 lC lA lw3 ⊢
                            have HBw := Lib.hid (show wj.heap.size ≤ B by omega)
                            have HS0 := Lib.hid (show Bf arg fr s A C w3 w9 f1 (upd f3 58 (.slice (some ⟨B, 0, none⟩) 0 N3)) ∧ Tw A C wj w9 ∧ TS B 0 w9 (upd f3 58 (.slice (some ⟨B, 0, none⟩) 0 N3)) ∧ upd f3 58 (.slice (some ⟨B, 0, none⟩) 0 N3) 55 = .slice p2 n2 c2 ∧ upd f3 58 (.slice (some ⟨B, 0, none⟩) 0 N3) 56 = .slice p3 n3 c3 from ⟨HF9.out, HT9.out, ⟨B, 0, N3, [], upd_self _ _ _, HO9.out, Nat.le_refl _, fun u hu => by simp at hu⟩, (upd_ne (by decide)).trans E5.out.1, (upd_ne (by decide)).trans E5.out.2⟩)
                            have y54 := (HF9.out.bs.r3.cell (i := 54) (by decide)).trans (congrArg some (show upd f3 58 (.slice (some ⟨B, 0, none⟩) 0 N3) 54 = .slice p1 n1 c1 from (upd_ne (by decide)).trans HE54.out))
                            generalize upd f3 58 (.slice (some ⟨B, 0, none⟩) 0 N3) = f3 at *
                            clear hB HF2 HQ2 HT9 HO9 hmk hw1 hw2 hN2 hN3 hN2b hN3b E5 HE54 y55 y56 y58 z58 HF9
                            go_wp2_with fail
                            go_loopw [260] (fun v wr => ∃ (k : Nat) (f3 : Nat → Value), k ≤ n1 ∧ v = .int .i64 k ∧ Bf arg fr s A C w3 wr f1 f3 ∧ Tw A C wj wr ∧ TS B (k * 1000000) wr f3 ∧ f3 55 = .slice p2 n2 c2 ∧ f3 56 = .slice p3 n3 c3) (fun v _ => n1 - (intOf v).toNat)
                            case atStart => exact ⟨0, f3, Nat.zero_le _, rfl, by simpa using HS0.out⟩
                            case round =>
                              clear HS0 y54
                              obtain ⟨k, f3, hk, rfl, hs⟩ := hrel
                              have HS := Lib.hid hs
                              clear hs
                              by_cases hkn : k < n1
                              · have hkl : k < l1.length := by have := R1.out.1; omega
                                have hxl := V1.out _ (List.getElem_mem hkl)
                                obtain ⟨g1, rfl, hg1, hgA, hgC, hc⟩ := (R1.out.tw HS.out.2.1).2 k _ (List.getElem?_eq_getElem hkl)
                                generalize l1[k] = xh at *
                                have y55 := (HS.out.1.bs.r3.cell (i := 55) (by decide)).trans (congrArg some HS.out.2.2.2.1)
                                go_wp2_with fail
                                go_loopw [267] (fun v wr => ∃ (j : Nat) (f3 : Nat → Value), j ≤ n2 ∧ v = .int .i64 j ∧ Bf arg fr s A C w3 wr f1 f3 ∧ Tw A C wj wr ∧ TS B (k * 1000000 + j * 1000) wr f3 ∧ f3 55 = .slice p2 n2 c2 ∧ f3 56 = .slice p3 n3 c3) (fun v _ => n2 - (intOf v).toNat)
                                case atStart => exact ⟨0, f3, Nat.zero_le _, rfl, by simpa using HS.out⟩
                                case round =>
                                  clear HS y55 hc hg1
                                  obtain ⟨j, f3, hj, rfl, hs⟩ := hrel
                                  have HS := Lib.hid hs
                                  clear hs
                                  by_cases hjn : j < n2
                                  · have hjl : j < l2.length := by have := R2.out.1; omega
                                    have hyl := V2.out _ (List.getElem_mem hjl)
                                    obtain ⟨g2, rfl, hg2, hg2A, hg2C, hc2⟩ := (R2.out.tw HS.out.2.1).2 j _ (List.getElem?_eq_getElem hjl)
                                    generalize l2[j] = xm at *
                                    have y56 := (HS.out.1.bs.r3.cell (i := 56) (by decide)).trans (congrArg some HS.out.2.2.2.2)
                                    go_wp2_with fail
                                    go_loopw [274] (fun v wr => ∃ (i : Nat) (f3 : Nat → Value), i ≤ n3 ∧ v = .int .i64 i ∧ Bf arg fr s A C w3 wr f1 f3 ∧ Tw A C wj wr ∧ TS B (k * 1000000 + j * 1000 + i) wr f3 ∧ f3 55 = .slice (some ⟨g2, 0, none⟩) n2 c2 ∧ f3 56 = .slice p3 n3 c3) (fun v _ => n3 - (intOf v).toNat)
                                    case atStart => exact ⟨0, f3, Nat.zero_le _, rfl, by simpa using HS.out⟩
                                    case round =>
                                      clear HS y56 hc2 hg2
                                      obtain ⟨i, f3, hi, rfl, hs⟩ := hrel
                                      have HS := Lib.hid hs
                                      clear hs
                                      by_cases hin : i < n3
                                      · have hil : i < l3.length := by have := R3.out.1; omega
                                        have hzl := V3.out _ (List.getElem_mem hil)
                                        obtain ⟨g3, rfl, hg3, hg3A, hg3C, hc3⟩ := (R3.out.tw HS.out.2.1).2 i _ (List.getElem?_eq_getElem hil)
                                        generalize l3[i] = xs3 at *
                                        obtain ⟨gt, m, cap, xs, e58, ho, hm, hxs⟩ := HS.out.2.2.1
                                        have y58 := (HS.out.1.bs.r3.cell (i := 58) (by decide)).trans (congrArg some e58)
                                        have z58 := HS.out.1.bs.r3.frozen 58
                                        have y39 := (HS.out.1.bs.r3.cell (i := 39) (by decide)).trans (congrArg some HS.out.1.e39)
                                        have y40 := (HS.out.1.bs.r3.cell (i := 40) (by decide)).trans (congrArg some HS.out.1.e40)
                                        have lCr := HS.out.1.bs.r3.lt
                                        have HOW := Lib.hid ho
                                        have HXS := Lib.hid hxs
                                        have ho0 := ho
                                        clear e58 ho hxs
                                        obtain ⟨i0, hi0, hzz⟩ := Option.map_eq_some_iff.1 info109
                                        simp only [Prod.mk.injEq] at hzz
                                        obtain ⟨hz0, hz1, hz2⟩ := hzz
                                        have HI := Lib.hid (And.intro hi0 (And.intro hz0 (And.intro hz1 hz2)))
                                        clear hi0 hz0 hz1 hz2
                                        have hm2 : (m + 1) * 16 ≤ 140737488355328 := by omega
                                        have hBr := (ho0.lt gt rfl).1
                                        clear ho0
                                        go_upto_region 72 with fail
                                        go_region_law
                                          (first
                                            | (go_simp; go_at_call 98; refine (location_any _ _ _).mono ?_; rintro e w6 ⟨rfl, hb6⟩; have HF6 := Lib.hid (HS.out.1.drew.below hb6); have HT6 := Lib.hid (HS.out.2.1.drew.trans (.of_below (A := A) (C := C) (w := wr.drew) hb6 (Nat.le_refl _))); have HO6 := Lib.hid (own_below (own_drew HOW.out) hb6); have d58 : w6.cell? ⟨C, 58, none⟩ = some (.slice (some ⟨gt, 0, none⟩) m cap) := (hb6.cell (p := ⟨C, 58, none⟩) lCr).trans y58; have d39 : w6.cell? ⟨C, 39, none⟩ = some (.int .i64 s) := (hb6.cell (p := ⟨C, 39, none⟩) lCr).trans y39; have d40 : w6.cell? ⟨C, 40, none⟩ = some (.int .i64 0) := (hb6.cell (p := ⟨C, 40, none⟩) lCr).trans y40; have lC6 := HF6.out.bs.r3.lt; clear hb6)
                                            | (go_simp; go_at_call 168; refine (dateOf_any 1 1 1 xh xm xs3 _ (by decide) (by decide) (by decide) (by decide) (by decide) (by decide) hxl.1 hxl.2 hyl.1 hyl.2 hzl.1 hzl.2).mono ?_; rintro e w7 ⟨rfl, hb7⟩; have HF7 := Lib.hid (HF6.out.below hb7); have HT7 := Lib.hid (HT6.out.trans (.of_below (A := A) (C := C) hb7 (Nat.le_refl _))); have HO7 := Lib.hid (own_below HO6.out hb7); have f58 : w7.cell? ⟨C, 58, none⟩ = some (.slice (some ⟨gt, 0, none⟩) m cap) := (hb7.cell (p := ⟨C, 58, none⟩) lC6).trans d58; have f39 : w7.cell? ⟨C, 39, none⟩ = some (.int .i64 s) := (hb7.cell (p := ⟨C, 39, none⟩) lC6).trans d39; have f40 : w7.cell? ⟨C, 40, none⟩ = some (.int .i64 0) := (hb7.cell (p := ⟨C, 40, none⟩) lC6).trans d40; have lC7 := HF7.out.bs.r3.lt; have HT67 := Lib.hid (show gt ≤ w7.heap.size from Nat.le_of_lt (HO7.out.lt gt rfl).2); clear hb7 d58 d39 d40)
                                            | (refine step_append_lies _ rfl (.tmp 279) (.tmp 287) 113 rfl B 109 i0 (.agg #[.int .i64 0, .int .i64 0]) 2 16 Tryz.underlying113 HI.out.1 HI.out.2.1 HI.out.2.2.1 HI.out.2.2.2 rfl (by decide) (.slice (some ⟨gt, 0, none⟩) m cap) m xs (by simp [Act.eval]) (HO7.out.alloc _) ⟨w7.heap.size, 0, none⟩ 1 1 [.int .i64 (secs 1 1 1 xh xm xs3), .int .i64 0] (by simp [Act.eval]) rfl (World.news_of_block (cs := #[.int .i64 (secs 1 1 1 xh xm xs3), .int .i64 0]) (t := 109) (fr := (0, 0)) (heap_alloc_new w7 _)) (by simp [Value.oneCell']) (by decide) (by simp only [maxLen]; omega) (by omega) (by rw [World.size_alloc]; exact Nat.le_succ_of_le (Nat.le_trans hBr HT67.out)) _ rfl ?_; intro g7 cap7 w8 hown7 hgrow7 hat7 hlt7; have HF8 := Lib.hid ((HF7.out.alloc (.cells #[.int .i64 (secs 1 1 1 xh xm xs3), .int .i64 0] 109)).grown (B := B) hgrow7 (fun g e => (HO7.out.lt g e).1) lA lC lw3); have HT8 := Lib.hid ((HT7.out.trans (.alloc (.cells #[.int .i64 (secs 1 1 1 xh xm xs3), .int .i64 0] 109))).grown hgrow7 (fun g e => Nat.le_trans HBw.out (HO7.out.lt g e).1)); have e58 : w8.cell? ⟨C, 58, none⟩ = some (.slice (some ⟨gt, 0, none⟩) m cap) := (hgrow7.cell_far ⟨C, 58, none⟩ (by simp; omega) (fun e => by have := (HO7.out.lt C e.symm).1; omega)).trans ((cell_old lC7).trans f58); have e39 := (HF8.out.bs.r3.cell (i := 39) (by decide)).trans (congrArg some HF8.out.e39); have e40 := (HF8.out.bs.r3.cell (i := 40) (by decide)).trans (congrArg some HF8.out.e40); have q58 := HF8.out.bs.r3.frozen 58))
                                        all_goals
                                          go_wp2_with fail
                                          go_roundw
                                          (case rel => exact ⟨i + 1, _, by omega, by go_num, HF8.out.setC HAC.out 58 _ rfl (by decide), HT8.out.trans (.setC _ _), ⟨g7, m + 1, cap7, _, upd_self _ _ _, own_set hown7 lC, by omega, all_two HXS.out⟩, (upd_ne (by decide)).trans HS.out.2.2.2.1, (upd_ne (by decide)).trans HS.out.2.2.2.2⟩)
                                          (case measure => simp [intOf]; omega)
                                      · have hin' : i = n3 := by omega
                                        subst hin'
                                        go_wp2_with fail
                                        go_roundw
                                        case rel => exact ⟨j + 1, f3, by omega, by go_num, HS.out.1, HS.out.2.1, HS.out.2.2.1.mono (by omega), HS.out.2.2.2.1, HS.out.2.2.2.2⟩
                                        case measure => simp [intOf]; omega
                                  · have hjn' : j = n2 := by omega
                                    subst hjn'
                                    go_wp2_with fail
                                    go_roundw
                                    case rel => exact ⟨k + 1, f3, by omega, by go_num, HS.out.1, HS.out.2.1, HS.out.2.2.1.mono (by omega), HS.out.2.2.2.1, HS.out.2.2.2.2⟩
                                    case measure => simp [intOf]; omega
                              · have hkn' : k = n1 := by omega
                                subst hkn'
                                obtain ⟨gt, m, cap, xs, e58, ho, hm, hxs⟩ := HS.out.2.2.1
                                have y58 := (HS.out.1.bs.r3.cell (i := 58) (by decide)).trans (congrArg some e58)
                                have HTR := Lib.hid (TRow.of_own ho hxs)
                                have hgB := (ho.lt gt rfl).1
                                clear e58 ho hxs
                                go_wp2_with fail
                                refine (sort_w gt m cap _ HTR.out (by omega)).mono ?_; rintro e w10 ⟨rfl, hsd⟩
                                have HF10 := Lib.hid (HS.out.1.grown (B := B) hsd.1 (fun g e => by injection e with e; omega) lA lC lw3)
                                clear hsd
                                go_wp2_with fail
                                go_meet
                                exact ⟨f3, HF10.out⟩
                          · go_wp2_with fail
                            go_meet
                            exact ⟨_, HF2.out⟩
                        case rest =>
                          clear HF2 HQ2
                          obtain ⟨f3, hf⟩ := hcut
                          have HF := Lib.hid hf
                          clear hf
                          obtain ⟨f2, hx, ho2⟩ := HX3.out
                          have hxe : wc.rowIs E 124 60 f2 := hx.of_block (HF.out.bs.tw.block E hx.lt (by omega) (by omega))
                          have HXE := Lib.hid hxe
                          have HO2 := Lib.hid ho2
                          have hwA : A ≤ w3.heap.size := by have := HB3.out.size; have := HAw.out; omega
                          have HBc := Lib.hid (HF.out.bs.tw.below (A := A) HB3.out (by omega) hwA)
                          clear hxe ho2 hx
                          go_wp2_with (first
                            | (with_reducible refine gd_load 122 ?_; refine wpl_load_row0 rfl 122 _ rfl A 122 19 19 f1 rfl HF.out.bs.r1 (by decide) d2 HU.out.1.1 HU.out.1.2 info122s ?_)
                            | (with_reducible refine gd_store 122 ?_; refine wpl_store_row rfl 122 _ _ rfl C 19 124 60 f3 (rowA 19 f1) rfl rfl HF.out.bs.r3 (le_rowA 19 19 60 f1 (by decide)) (info122r f1) (rowA_all fun i _ => HF.out.bs.o1 i) ?_; intro w11 hr11 hg11; have HR11 := Lib.hid hr11; have HE11 := Lib.hid (HXE.out.of_block (hg11.block E HXE.out.lt (fun e => by injection e with e; omega))); have HB11 := Lib.hid (HBc.out.grown hg11 (Nat.le_trans hwA HF.out.bs.tw.size) (fun k hk => by injection hk with hk; omega)); have hz11 := Nat.le_trans (Nat.le_trans hwA HF.out.bs.tw.size) hg11.size; clear hr11 hg11)
                            | (with_reducible refine gd_load 124 ?_; refine wpl_load_row0 rfl 124 _ rfl C 124 60 60 _ rfl HR11.out (by decide) d4 HU.out.2.1 HU.out.2.2 info124s ?_)
                            | (with_reducible refine gd_store 124 ?_; refine wpl_store_row rfl 124 _ _ rfl E 0 124 60 f2 (rowA 60 (updR f3 19 (rowA 19 f1))) rfl rfl HE11.out (le_rowA 0 60 60 _ (by decide)) (info124r _) (rowA_all fun i _ => updR_one HF.out.bs.o3 HF.out.bs.o1 i) ?_; intro w12 hr12 hg12; have HR12 := Lib.hid hr12; have HB12 := Lib.hid (HB11.out.grown hg12 hz11 (fun k hk => by injection hk with hk; omega)); clear hr12 hg12))
                          refine bodyPost_ret (results_row rfl _ E 124 60 _ (by rfl) HR12.out d4 HU.out.2.1 HU.out.2.2 info124s) rfl ?_
                          refine ⟨_, rfl, fun k hk => ?_, ?_, ?_, updR_one HO2.out (updR_one HF.out.bs.o3 HF.out.bs.o1), by rw [← HAw.out]; exact HB12.out⟩
                          · rw [updR_in (by omega) (by omega), Nat.sub_zero, updR_out (by omega)]
                            exact HF.out.c k hk
                          · rw [updR_in (by omega) (by omega), Nat.sub_zero, updR_out (by omega)]
                            exact HF.out.e39
                          · rw [updR_in (by omega) (by omega), Nat.sub_zero, updR_out (by omega)]
                            exact HF.out.e40
end Go.Proofs.YtnlpjncljbaapaaGreatDoor
