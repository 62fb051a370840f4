/- Words for structs in memory: a block that is known by its cells' numbers, whole structs out of it and into it. -/
import Derived.Test.YtnlpjncljbaapaaGreatDoorVb
import Derived.Test.YtnlpjncljbaapaaGreatDoorSw6
import Derived.Deep.MidRow
import Derived.Deep.WholeRow
namespace Go.Proofs.YtnlpjncljbaapaaGreatDoor
open Go.RowKit

/-- n cells in a row, by their numbers. -/
def rowA (n : Nat) (f : Nat → Value) : Array Value := ((List.range n).map f).toArray
theorem rowA_size (n : Nat) (f : Nat → Value) : (rowA n f).size = n := by simp [rowA]
theorem rowA_get {n : Nat} {f : Nat → Value} {i : Nat} (h : i < n) : (rowA n f)[i]? = some (f i) := by simp [rowA, h]
theorem rowA_all {n : Nat} {f : Nat → Value} (h : ∀ i, i < n → (f i).oneCell' = true) : (rowA n f).all (·.oneCell') = true :=
  all_oneCell_toArray fun v hv => by
    obtain ⟨i, hi, rfl⟩ := List.mem_map.1 hv
    exact h i (List.mem_range.1 hi)
/-- Some cells of a row are turned. -/
def updR (f : Nat → Value) (o : Nat) (cs : Array Value) : Nat → Value := fun j => if o ≤ j ∧ j < o + cs.size then cs[j - o]?.getD undef else f j
def upd (f : Nat → Value) (k : Nat) (v : Value) : Nat → Value := fun j => if j = k then v else f j
theorem upd_self (f : Nat → Value) (k : Nat) (v : Value) : upd f k v k = v := by simp [upd]
theorem upd_ne {f : Nat → Value} {k j : Nat} {v : Value} (h : j ≠ k) : upd f k v j = f j := by simp [upd, h]
theorem setCells_row {b t N : Nat} : ∀ (vs : List Value) (o : Nat) (w : World) (f : Nat → Value), w.rowIs b t N f → (w.setCells b o vs).rowIs b t N (fun j => if o ≤ j ∧ j < o + vs.length then vs[j - o]?.getD undef else f j)
  | [], o, w, f, h => by
    refine World.rowIs.congr h fun i _ => ?_
    rw [if_neg (by simp)]
  | v :: r, o, w, f, h => by
    have := setCells_row r (o + 1) _ _ (h.set o v)
    refine World.rowIs.congr this fun i _ => ?_
    by_cases h1 : i = o
    · subst h1
      rw [if_neg (by omega), if_pos rfl, if_pos (by simp)]
      simp
    · by_cases h2 : o + 1 ≤ i ∧ i < o + 1 + r.length
      · rw [if_pos h2, if_pos (by simp; omega)]
        rw [show i - o = (i - (o + 1)) + 1 by omega]
        simp
      · rw [if_neg h2, if_neg h1, if_neg (by simp; omega)]
theorem setCells_grown {a : World} {b : Nat} : ∀ (vs : List Value) (o : Nat) (w : World), a.grownBy w (some b) → a.grownBy (w.setCells b o vs) (some b)
  | [], _, _, h => h
  | v :: r, o, _, h => setCells_grown r (o + 1) _ (grown_set h o v)
theorem rowIs_range {w : World} {b t N : Nat} {f : Nat → Value} (h : w.rowIs b t N f) (o m : Nat) (hm : o + m ≤ N) : w.rangeAt b o ((List.range m).map fun i => f (o + i)) := fun j v hv => by
  have hj : j < m := by
    have := (List.getElem?_eq_some_iff.1 hv).1
    simpa using this
  rw [h.cell (i := o + j) (by omega)]
  simp [hj] at hv
  rw [hv]
theorem rowIs_there {w : World} {b t N : Nat} {f : Nat → Value} (h : w.rowIs b t N f) (o m : Nat) (hm : o + m ≤ N) : w.there b o m := fun j hj => by
  rw [h.cell (i := o + j) (by omega)]
  exact ⟨rfl, h.frozen _⟩

section
variable {P : Program} {ops : Array Oper} {rest : List Oper} {op : Oper} {a : Act} {Q : Exit → Act → World → Prop}
/-- A whole struct is read out of a row. -/
theorem wpl_load_row {w : World} (hgd : op.guard = none) (ty : TypeId) (x : Operand) (ho : op.op = .load ty x) (b o t N m : Nat) (f : Nat → Value) (hx : a.eval x = .pointer (some ⟨b, o, none⟩)) (h : w.rowIs b t N f) (hm : o + m ≤ N)
    (d : TypeDesc) (hu : P.underlying ty = some d) (hd : d.isRow = true) (hi : (P.info? ty).map (·.size) = some m)
    (hK : wpList P ops Q rest (a.put op.dst (.agg (rowA m fun i => f (o + i)))) w) : wpList P ops Q (op :: rest) a w :=
  wpList_load_mid hgd ty x ho b o hx _ d (rowIs_range h o m hm) hu hd (by rw [hi]; simp) hK
theorem wpl_load_row0 {w : World} (hgd : op.guard = none) (ty : TypeId) (x : Operand) (ho : op.op = .load ty x) (b t N m : Nat) (f : Nat → Value) (hx : a.eval x = .pointer (some ⟨b, 0, none⟩)) (h : w.rowIs b t N f) (hm : m ≤ N)
    (d : TypeDesc) (hu : P.underlying ty = some d) (hd : d.isRow = true) (hi : (P.info? ty).map (·.size) = some m)
    (hK : wpList P ops Q rest (a.put op.dst (.agg (rowA m f))) w) : wpList P ops Q (op :: rest) a w := by
  refine wpl_load_row hgd ty x ho b 0 t N m f hx h (by omega) d hu hd hi ?_
  simp only [Nat.zero_add]
  exact hK
/-- A whole struct is written into a row. -/
theorem wpl_store_row {w : World} (hgd : op.guard = none) (ty : TypeId) (x y : Operand) (ho : op.op = .store ty x y) (b o t N : Nat) (f : Nat → Value) (cs : Array Value) (hx : a.eval x = .pointer (some ⟨b, o, none⟩)) (hy : a.eval y = .agg cs) (h : w.rowIs b t N f) (hm : o + cs.size ≤ N)
    (hi : (P.info? ty).map (·.size) = some cs.size) (h1 : cs.all (·.oneCell') = true)
    (hK : ∀ w', w'.rowIs b t N (updR f o cs) → w.grownBy w' (some b) → wpList P ops Q rest (a.put op.dst undef) w') : wpList P ops Q (op :: rest) a w := by
  refine wpList_store_mid hgd ty x y ho b o cs hx hy (rowIs_there h o _ hm) hi h1 (hK _ ?_ (setCells_grown _ _ _ (World.grownBy.refl _ _)))
  have := setCells_row cs.toList o w f h
  refine World.rowIs.congr this fun i _ => ?_
  simp [updR]
end
/-- The next operation is a store, a load of this type (met as it stands: tried first, it keeps a law from other operations). -/
theorem gd_store {P : Program} {ops : Array Oper} {rest : List Oper} {a : Act} {Q : Exit → Act → World → Prop} {w : World} (T : TypeId) {d : Option Tmp} {m x : Operand} {ty : TypeId} {ps : String} {af : Array Edge} {g : Option (Nat × Bool)}
    (h : wpList P ops Q ({ dst := d, op := Op.store T m x, type := ty, pos := ps, after := af, guard := g } :: rest) a w) : wpList P ops Q ({ dst := d, op := Op.store T m x, type := ty, pos := ps, after := af, guard := g } :: rest) a w := h
theorem gd_load {P : Program} {ops : Array Oper} {rest : List Oper} {a : Act} {Q : Exit → Act → World → Prop} {w : World} (T : TypeId) {d : Option Tmp} {x : Operand} {ty : TypeId} {ps : String} {af : Array Edge} {g : Option (Nat × Bool)}
    (h : wpList P ops Q ({ dst := d, op := Op.load T x, type := ty, pos := ps, after := af, guard := g } :: rest) a w) : wpList P ops Q ({ dst := d, op := Op.load T x, type := ty, pos := ps, after := af, guard := g } :: rest) a w := h
/-- An operation that comes to a value by itself. -/
theorem wpl_val {P : Program} {ops : Array Oper} {rest : List Oper} {op : Oper} {a : Act} {Q : Exit → Act → World → Prop} {w : World} (hgd : op.guard = none) (v : Value) (hrun : (execOp a.eval op).run P w = .ok (.value v) w)
    (hK : wpList P ops Q rest (a.put op.dst v) w) : wpList P ops Q (op :: rest) a w :=
  wpList_plain hgd fun _ hK' => by unfold Oper.wp; rw [hrun]; exact hK' _ _ hK
theorem wpl_valw {P : Program} {ops : Array Oper} {rest : List Oper} {op : Oper} {a : Act} {Q : Exit → Act → World → Prop} {w w' : World} (hgd : op.guard = none) (v : Value) (hrun : (execOp a.eval op).run P w = .ok (.value v) w')
    (hK : wpList P ops Q rest (a.put op.dst v) w') : wpList P ops Q (op :: rest) a w :=
  wpList_plain hgd fun _ hK' => by unfold Oper.wp; rw [hrun]; exact hK' _ _ hK
theorem gd_alloc {P : Program} {ops : Array Oper} {rest : List Oper} {a : Act} {Q : Exit → Act → World → Prop} {w : World} (T : TypeId) {d : Option Tmp} {ty : TypeId} {ps : String} {af : Array Edge} {g : Option (Nat × Bool)}
    (h : wpList P ops Q ({ dst := d, op := Op.alloc T, type := ty, pos := ps, after := af, guard := g } :: rest) a w) : wpList P ops Q ({ dst := d, op := Op.alloc T, type := ty, pos := ps, after := af, guard := g } :: rest) a w := h
theorem gd_build {P : Program} {ops : Array Oper} {rest : List Oper} {a : Act} {Q : Exit → Act → World → Prop} {w : World} (T : TypeId) {d : Option Tmp} {xs : Array (Nat × Operand)} {ty : TypeId} {ps : String} {af : Array Edge} {g : Option (Nat × Bool)}
    (h : wpList P ops Q ({ dst := d, op := Op.build T xs, type := ty, pos := ps, after := af, guard := g } :: rest) a w) : wpList P ops Q ({ dst := d, op := Op.build T xs, type := ty, pos := ps, after := af, guard := g } :: rest) a w := h
/-- A whole struct is stored into the block that was made last. -/
theorem wpl_store_last {P : Program} {ops : Array Oper} {rest : List Oper} {o : Oper} {a : Act} {Q : Exit → Act → World → Prop} {W : World} (hg : o.guard = none) (t : TypeId) (m x : Operand) (hop : o.op = Op.store t m x) (c c' : Array Value)
    (hm : a.eval m = .pointer (some ⟨W.heap.size, 0, none⟩)) (hx : a.eval x = .agg c') (hi : (P.info? t).map (·.size) = some c'.size) (ho : c.size = c'.size) (h1 : c'.all (·.oneCell') = true)
    (h : wpList P ops Q rest (a.put o.dst undef) (W.alloc (.cells c' t))) : wpList P ops Q (o :: rest) a (W.alloc (.cells c t)) := by
  refine wpList_plain hg fun K' hK' => ?_
  have hrun := run_storeAt_new (P := P) W t c c' hi ho h1
  unfold Oper.wp
  simp [execOp, hop, hm, hx, hrun, Result.andThen]
  exact hK' _ _ h
theorem results_row {P : Program} {w : World} {fn : Func} {t : Tmp} {ty : TypeId} (h : fn.results = #[.cell t ty]) (tmps : Array Value) (b e N : Nat) (f : Nat → Value) (ht : tmps.getD t undef = .pointer (some ⟨b, 0, none⟩)) (hr : w.rowIs b e N f)
    (d : TypeDesc) (hu : P.underlying ty = some d) (hd : d.isRow = true) (hi : (P.info? ty).map (·.size) = some N) : (results fn tmps).run P w = .ok (.agg (rowA N f)) w := by
  have hl := run_loadVar_mid (P := P) w b 0 ty _ d (rowIs_range hr 0 N (by omega)) hu hd (by rw [hi]; simp)
  simp only [Nat.zero_add] at hl
  have ha : (asAddr (tmps.getD t undef)).run P w = .ok ⟨b, 0, none⟩ w := by rw [ht]; rfl
  have hr2 : (results fn tmps).run P w = ((asAddr (tmps.getD t undef)).run P w).andThen fun a w₁ => (loadVar ty a).run P w₁ := by
    simp only [results, h]
    simp [Sem.run_bind, Result.andThen]
  rw [hr2, ha]
  simp only [Result.andThen_ok, hl]
  rfl

/-- Only these two blocks have turned, and what is new. -/
structure Tw (A C : Nat) (w w' : World) : Prop where
  os : w'.os = w.os
  tape : w'.tape = w.tape
  output : w'.output = w.output
  size : w.heap.size ≤ w'.heap.size
  block : ∀ i, i < w.heap.size → i ≠ A → i ≠ C → w'.heap[i]? = w.heap[i]?
theorem Tw.refl (A C : Nat) (w : World) : Tw A C w w := ⟨rfl, rfl, rfl, Nat.le_refl _, fun _ _ _ _ => rfl⟩
theorem Tw.trans {A C : Nat} {a b c : World} (h : Tw A C a b) (k : Tw A C b c) : Tw A C a c :=
  ⟨k.os.trans h.os, k.tape.trans h.tape, k.output.trans h.output, Nat.le_trans h.size k.size, fun i hi h1 h2 => (k.block i (Nat.lt_of_lt_of_le hi h.size) h1 h2).trans (h.block i hi h1 h2)⟩
theorem Tw.of_below {A C B : Nat} {w w' : World} (h : Below B w w') (hB : w.heap.size ≤ B) : Tw A C w w' := ⟨h.os, h.tape, h.output, h.size, fun i hi _ _ => h.block i (Nat.lt_of_lt_of_le hi hB)⟩
theorem Tw.of_grown {A C : Nat} {w w' : World} {row : Option Nat} (h : w.grownBy w' row) (hr : ∀ g, row = some g → g = A ∨ g = C ∨ w.heap.size ≤ g) : Tw A C w w' :=
  ⟨h.os, h.tape, h.output, h.size, fun i hi h1 h2 => h.block i hi fun e => by rcases hr i e.symm with h | h | h <;> omega⟩
theorem Tw.cell {A C : Nat} {w w' : World} (h : Tw A C w w') {g o : Nat} (hg : g < w.heap.size) (h1 : g ≠ A) (h2 : g ≠ C) : w'.cell? ⟨g, o, none⟩ = w.cell? ⟨g, o, none⟩ := World.cell?_of_block (h.block g hg h1 h2)
/-- Of two structs in memory the first begins the call's own memory. -/
theorem Tw.below {A C : Nat} {w0 w w' : World} (hb : Below A w0 w) (h : Tw A C w w') (hC : A ≤ C) (hz : A ≤ w.heap.size) : Below A w0 w' :=
  ⟨h.os.trans hb.os, h.tape.trans hb.tape, h.output.trans hb.output, Nat.le_trans hb.size h.size, fun i hi => (h.block i (by omega) (by omega) (by omega)).trans (hb.block i hi)⟩
/-- Two structs in memory, and only they have turned. -/
structure BS (A tA nA C tC nC : Nat) (f1 f3 : Nat → Value) (w w' : World) : Prop where
  tw : Tw A C w w'
  r1 : w'.rowIs A tA nA f1
  r3 : w'.rowIs C tC nC f3
  o1 : ∀ k, (f1 k).oneCell' = true
  o3 : ∀ k, (f3 k).oneCell' = true
namespace BS
variable {A tA nA C tC nC : Nat} {f1 f3 : Nat → Value} {w w' w'' : World}
theorem setA (h : BS A tA nA C tC nC f1 f3 w w') (hne : A ≠ C) (k : Nat) (v : Value) (hv : v.oneCell' = true) : BS A tA nA C tC nC (upd f1 k v) f3 w (w'.setCell ⟨A, k, none⟩ v) :=
  ⟨h.tw.trans (.of_grown (grown_set (World.grownBy.refl _ _) k v) fun g e => .inl (by injection e with e; exact e.symm)), h.r1.set k v, h.r3.setOther (Ne.symm hne) v, fun j => by (unfold upd; split; exact hv; exact h.o1 j), h.o3⟩
theorem setC (h : BS A tA nA C tC nC f1 f3 w w') (hne : A ≠ C) (k : Nat) (v : Value) (hv : v.oneCell' = true) : BS A tA nA C tC nC f1 (upd f3 k v) w (w'.setCell ⟨C, k, none⟩ v) :=
  ⟨h.tw.trans (.of_grown (grown_set (World.grownBy.refl _ _) k v) fun g e => .inr (.inl (by injection e with e; exact e.symm))), h.r1.setOther hne v, h.r3.set k v, h.o1, fun j => by (unfold upd; split; exact hv; exact h.o3 j)⟩
theorem alloc (h : BS A tA nA C tC nC f1 f3 w w') (o : Obj) : BS A tA nA C tC nC f1 f3 w (w'.alloc o) :=
  ⟨h.tw.trans (.of_below (B := w'.heap.size) below_a1 (Nat.le_refl _)), h.r1.alloc o, h.r3.alloc o, h.o1, h.o3⟩
theorem below (h : BS A tA nA C tC nC f1 f3 w w') (hb : Below w'.heap.size w' w'') : BS A tA nA C tC nC f1 f3 w w'' :=
  ⟨h.tw.trans (.of_below hb (Nat.le_refl _)), below_row h.r1 hb h.r1.lt, below_row h.r3 hb h.r3.lt, h.o1, h.o3⟩
theorem drew (h : BS A tA nA C tC nC f1 f3 w w') : BS A tA nA C tC nC f1 f3 w w'.drew := ⟨⟨h.tw.os, h.tw.tape, h.tw.output, h.tw.size, h.tw.block⟩, h.r1, h.r3, h.o1, h.o3⟩
theorem grown {row : Option Nat} (h : BS A tA nA C tC nC f1 f3 w w') (hg : w'.grownBy w'' row) (hr : ∀ g, row = some g → g ≠ A ∧ g ≠ C ∧ w.heap.size ≤ g) : BS A tA nA C tC nC f1 f3 w w'' :=
  ⟨⟨hg.os.trans h.tw.os, hg.tape.trans h.tw.tape, hg.output.trans h.tw.output, Nat.le_trans h.tw.size hg.size, fun i hi h1 h2 => (hg.block i (Nat.lt_of_lt_of_le hi h.tw.size) fun e => by have := (hr i e.symm).2.2; omega).trans (h.tw.block i hi h1 h2)⟩,
    h.r1.of_block (hg.block A h.r1.lt fun e => (hr A e.symm).1 rfl), h.r3.of_block (hg.block C h.r3.lt fun e => (hr C e.symm).2.1 rfl), h.o1, h.o3⟩
theorem more (h : BS A tA nA C tC nC f1 f3 w w') (hw : Tw A C w'' w) : BS A tA nA C tC nC f1 f3 w'' w' := ⟨hw.trans h.tw, h.r1, h.r3, h.o1, h.o3⟩
end BS
/-- Numbers, days in a row that is neither of two blocks. -/
def RowIx (A C : Nat) (w : World) (p : Option Addr) (n : Nat) (l : List Int) : Prop := n = l.length ∧ ∀ (i : Nat) x, l[i]? = some x → ∃ g, p = some ⟨g, 0, none⟩ ∧ g < w.heap.size ∧ g ≠ A ∧ g ≠ C ∧ w.cell? ⟨g, i, none⟩ = some (.int .i64 x)
def RowDx (A C : Nat) (w : World) (p : Option Addr) (n : Nat) (l : List (Int × Int)) : Prop := n = l.length ∧ ∀ (i : Nat) k m, l[i]? = some (k, m) → ∃ g, p = some ⟨g, 0, none⟩ ∧ g < w.heap.size ∧ g ≠ A ∧ g ≠ C ∧ w.cell? ⟨g, i * 2, none⟩ = some (.int .i64 k) ∧ w.cell? ⟨g, i * 2 + 1, none⟩ = some (.int .i64 m)
theorem RowIx.tw {A C : Nat} {w w' : World} {p : Option Addr} {n : Nat} {l : List Int} (h : RowIx A C w p n l) (ht : Tw A C w w') : RowIx A C w' p n l :=
  ⟨h.1, fun i x hx => by
    obtain ⟨g, rfl, hg, h1, h2, hc⟩ := h.2 i x hx
    exact ⟨g, rfl, Nat.lt_of_lt_of_le hg ht.size, h1, h2, (ht.cell hg h1 h2).trans hc⟩⟩
theorem RowDx.tw {A C : Nat} {w w' : World} {p : Option Addr} {n : Nat} {l : List (Int × Int)} (h : RowDx A C w p n l) (ht : Tw A C w w') : RowDx A C w' p n l :=
  ⟨h.1, fun i k m hx => by
    obtain ⟨g, rfl, hg, h1, h2, hc, hc2⟩ := h.2 i k m hx
    exact ⟨g, rfl, Nat.lt_of_lt_of_le hg ht.size, h1, h2, (ht.cell hg h1 h2).trans hc, (ht.cell hg h1 h2).trans hc2⟩⟩
theorem RowI.ix {A C B : Nat} {w w' : World} {p : Option Addr} {n : Nat} {l : List Int} (h : RowI w p n l) (hb : Below B w w') (hB : w.heap.size ≤ B) (hA : w.heap.size ≤ A) (hC : w.heap.size ≤ C) : RowIx A C w' p n l :=
  ⟨h.1, fun i x hx => by
    obtain ⟨g, rfl, hg, hc⟩ := h.2 i x hx
    exact ⟨g, rfl, Nat.lt_of_lt_of_le hg hb.size, by omega, by omega, (hb.cell (p := ⟨g, i, none⟩) (Nat.lt_of_lt_of_le hg hB)).trans hc⟩⟩
theorem RowD.ix {A C B : Nat} {w w' : World} {p : Option Addr} {n : Nat} {l : List (Int × Int)} (h : RowD w p n l) (hb : Below B w w') (hB : w.heap.size ≤ B) (hA : w.heap.size ≤ A) (hC : w.heap.size ≤ C) : RowDx A C w' p n l :=
  ⟨h.1, fun i k m hx => by
    obtain ⟨g, rfl, hg, hc, hc2⟩ := h.2 i k m hx
    exact ⟨g, rfl, Nat.lt_of_lt_of_le hg hb.size, by omega, by omega, (hb.cell (p := ⟨g, i * 2, none⟩) (Nat.lt_of_lt_of_le hg hB)).trans hc, (hb.cell (p := ⟨g, i * 2 + 1, none⟩) (Nat.lt_of_lt_of_le hg hB)).trans hc2⟩⟩
/-- One number, one day in a new block. -/
theorem RowIx.one {A C : Nat} {W : World} {x : Int} {t : TypeId} (hA : A ≠ W.heap.size) (hC : C ≠ W.heap.size) : RowIx A C (W.alloc (.cells #[.int .i64 x] t)) (some ⟨W.heap.size, 0, none⟩) 1 [x] :=
  ⟨rfl, fun i y hy => by
    match i, hy with
    | 0, hy =>
      simp at hy
      subst hy
      exact ⟨_, rfl, by simp, Ne.symm hA, Ne.symm hC, by simp⟩
    | i + 1, hy => simp at hy⟩
theorem RowDx.one {A C : Nat} {W : World} {x y : Int} {t : TypeId} (hA : A ≠ W.heap.size) (hC : C ≠ W.heap.size) : RowDx A C (W.alloc (.cells #[.int .i64 x, .int .i64 y] t)) (some ⟨W.heap.size, 0, none⟩) 1 [(x, y)] :=
  ⟨rfl, fun i k m hy => by
    match i, hy with
    | 0, hy =>
      simp at hy
      obtain ⟨rfl, rfl⟩ := hy
      exact ⟨_, rfl, by simp, Ne.symm hA, Ne.symm hC, by simp, by simp⟩
    | i + 1, hy => simp at hy⟩
theorem Tw.setA {A C : Nat} {w : World} (k : Nat) (v : Value) : Tw A C w (w.setCell ⟨A, k, none⟩ v) := .of_grown (grown_set (World.grownBy.refl _ _) k v) fun g e => .inl (by injection e with e; exact e.symm)
theorem Tw.setC {A C : Nat} {w : World} (k : Nat) (v : Value) : Tw A C w (w.setCell ⟨C, k, none⟩ v) := .of_grown (grown_set (World.grownBy.refl _ _) k v) fun g e => .inr (.inl (by injection e with e; exact e.symm))
theorem Tw.alloc {A C : Nat} {w : World} (o : Obj) : Tw A C w (w.alloc o) := .of_below (B := w.heap.size) below_a1 (Nat.le_refl _)
end Go.Proofs.YtnlpjncljbaapaaGreatDoor
