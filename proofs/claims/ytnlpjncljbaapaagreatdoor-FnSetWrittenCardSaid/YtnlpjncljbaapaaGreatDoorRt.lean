/- spec.ReadSet, walked. -/
import Derived.Test.YtnlpjncljbaapaaGreatDoorRx
import Derived.Test.YtnlpjncljbaapaaGreatDoorSs
namespace Go.Proofs.YtnlpjncljbaapaaGreatDoor
open Go.RowKit

section
variable {P : Program} {ops : Array Oper} {rest : List Oper} {o : Oper} {a : Act} {Q : Exit → Act → World → Prop}
/-- 'append(v, y...)' onto a row of the call's own, y a slice of one element. -/
theorem app_src {W : World} (base : Nat) (hgd : o.guard = none) (s x : Operand) (t e : TypeId) (z : Value) (size bytes : Nat)
    (ho : o.op = .call { callee := .builtin .append, args := #[s, x], argTypes := #[t, t] })
    (ht : P.underlying t = some (.slice e)) (hinfo : (P.info? e).map (fun i => (i.zero, i.size, i.bytes)) = some (some z, size, bytes)) (hz : z.cells.size = size) (hsz : 0 < size) (hb0 : 0 < bytes)
    (v : Value) (n : Nat) (xs : List Value) (ys : List Value) (g2 c2 : Nat) (hs : a.eval s = v) (hx : a.eval x = .slice (some ⟨g2, 0, none⟩) 1 c2) (hys : ys.length = size) (hsrc : ∀ j u, ys[j]? = some u → W.cell? ((⟨g2, 0, none⟩ : Addr).add j) = some u) (h1 : ∀ u ∈ ys, u.oneCell' = true)
    (HO : W.ownsRow base e size v n xs) (hbase : base ≤ W.heap.size) (hl : (n + 1) * bytes ≤ 140737488355328)
    (h : ∀ g cap w1, w1.ownsRow base e size (.slice (some ⟨g, 0, none⟩) (n + 1) cap) (n + 1) (xs ++ ys) → base ≤ g → g < w1.heap.size → W.grownBy w1 v.ownBlock → (some g = v.ownBlock ∨ W.heap.size ≤ g) → wpList P ops Q rest (a.put o.dst (.slice (some ⟨g, 0, none⟩) (n + 1) cap)) w1) :
    wpList P ops Q (o :: rest) a W := by
  obtain ⟨i0, hi, hzz⟩ := Option.map_eq_some_iff.1 hinfo
  simp only [Prod.mk.injEq] at hzz
  obtain ⟨hz0, hz1, hz2⟩ := hzz
  have hlen : n + 1 ≤ 140737488355328 := Nat.le_trans (Nat.le_mul_of_pos_right _ hb0) hl
  refine wpList_append_own_at (w := W) hgd s x t ho base e i0 z size bytes ht hi hz0 hz1 hz2 hz hsz v n xs hs HO ⟨g2, 0, none⟩ 1 c2 ys hx (by omega) hsrc h1 (by simp only [maxLen]; omega) hl hbase ?_
  intro v1 w1 hown hg _ hat
  rcases hown.2 with ⟨_, h0⟩ | ⟨g, cap, cur, rfl, hb, hh, hcap, _⟩
  · omega
  have hlt : g < w1.heap.size := (Array.getElem?_eq_some_iff.1 hh).1
  refine h g cap w1 hown hb hlt hg ?_
  rcases hat with hat | hat
  · exact .inl hat
  · refine .inr ?_
    simp [Value.ownBlock] at hat
    omega
end
/-- A line of a set, to the specification. -/
inductive SIt where
  | st (t : Int)
  | ru (o : Opt) (ps : List Part)
  | rd (x : Int)
  | ex (x : Int)
/-- What was read. -/
structure SS where
  start : Int := 0
  started : Bool := false
  rule : Option (Opt × Bool) := none
  rds : List Int := []
  exs : List Int := []
def SIt.put (s : SS) : SIt → SS
  | .st t => { s with start := t, started := true }
  | .ru _ ps => { s with rule := some (putS o1 ps, huS false ps) }
  | .rd x => { s with rds := s.rds ++ [x] }
  | .ex x => { s with exs := s.exs ++ [x] }
/-- A line may come now. -/
def SIt.ok (s : SS) : SIt → Prop
  | .st _ => s.started = false
  | .ru _ _ => s.rule = none ∧ s.rds = [] ∧ s.exs = []
  | _ => True
/-- A line says this. -/
def SIt.says (l : List UInt8) : SIt → Prop
  | .st t => l = dtL t ∧ 0 ≤ t ∧ t < 315537897600
  | .ru o ps => l = rrL (rrTx o) ∧ (58 : UInt8) ∉ rrTx o ∧ (rrTx o).length ≤ 2000 ∧ ∀ W : World, Calls Tryz.prog 47 #[.string ⟨(rrTx o).toArray⟩] W fun e w' => GivesRead (putS o1 ps) (huS false ps) W e w'
  | .rd x => l = rdL x ∧ 0 ≤ x ∧ x < 315537897600
  | .ex x => l = exL x ∧ 0 ≤ x ∧ x < 315537897600
/-- Rows of a rule that was read: below a block. -/
def LB (w : World) (N Bs : Nat) (v : Value) (l : List Int) : Prop := (v = .slice none 0 0 ∧ l = []) ∨ ∃ g c, v = .slice (some ⟨g, 0, none⟩) l.length c ∧ IntsAt w g l ∧ N < g ∧ g < Bs
def DB (w : World) (N Bs : Nat) (v : Value) (l : List (Int × Int)) : Prop := (v = .slice none 0 0 ∧ l = []) ∨ ∃ g c, v = .slice (some ⟨g, 0, none⟩) l.length c ∧ DaysAt w g l ∧ N < g ∧ g < Bs
theorem LB.ch {w w' : World} {N Bs : Nat} {v : Value} {l : List Int} {X : Nat → Prop} (h : LB w N Bs v l) (hc : Ch X w w') (hB : Bs ≤ w.heap.size) (hX : ∀ i, X i → i ≤ N ∨ Bs ≤ i) : LB w' N Bs v l := by
  rcases h with h | ⟨g, c, h1, h2, h3, h4⟩
  · exact .inl h
  · exact .inr ⟨g, c, h1, h2.keep fun j => hc.cell (by omega) (fun hx => by rcases hX g hx with h | h <;> omega), h3, h4⟩
theorem DB.ch {w w' : World} {N Bs : Nat} {v : Value} {l : List (Int × Int)} {X : Nat → Prop} (h : DB w N Bs v l) (hc : Ch X w w') (hB : Bs ≤ w.heap.size) (hX : ∀ i, X i → i ≤ N ∨ Bs ≤ i) : DB w' N Bs v l := by
  rcases h with h | ⟨g, c, h1, h2, h3, h4⟩
  · exact .inl h
  · have hx : g < w.heap.size ∧ ¬ X g := ⟨by omega, fun hx => by rcases hX g hx with h | h <;> omega⟩
    exact .inr ⟨g, c, h1, fun j k n hj => ⟨(hc.cell hx.1 hx.2).trans (h2 j k n hj).1, (hc.cell hx.1 hx.2).trans (h2 j k n hj).2⟩, h3, h4⟩
/-- The rule's cells. -/
def RB (w : World) (N Bs : Nat) (b : Bool) (f : Nat → Value) : Option (Opt × Bool) → Prop
  | none => b = false ∧ f = zRuleF
  | some (o, hu) => b = true ∧ ∃ sl, f = sF o hu sl ∧ (∀ k, k ≠ 14 → LB w N Bs (sl (k - 1)) (o.l k)) ∧ DB w N Bs (sl 13) o.days
theorem RB.ch {w w' : World} {N Bs : Nat} {b : Bool} {f : Nat → Value} {r : Option (Opt × Bool)} {X : Nat → Prop} (h : RB w N Bs b f r) (hc : Ch X w w') (hB : Bs ≤ w.heap.size) (hX : ∀ i, X i → i ≤ N ∨ Bs ≤ i) : RB w' N Bs b f r := by
  cases r with
  | none => exact h
  | some p =>
    obtain ⟨h1, sl, h2, h3, h4⟩ := h
    exact ⟨h1, sl, h2, fun k hk => (h3 k hk).ch hc hB hX, h4.ch hc hB hX⟩
/-- The specification's set in memory, what was read till now. -/
structure SetS (w : World) (N Bs : Nat) (s : SS) (b : Bool) (f : Nat → Value) (rd ex : Value) : Prop where
  row : w.rowIs N 28 22 (toldF s.start b f rd ex)
  rule : RB w N Bs b f s.rule
  rds : w.ownsRow Bs 2 1 rd s.rds.length (intVs s.rds)
  exs : w.ownsRow Bs 2 1 ex s.exs.length (intVs s.exs)
  apart : ∀ g, rd.ownBlock = some g → ex.ownBlock ≠ some g
  nr : s.rds = [] → rd = .slice none 0 0
  nx : s.exs = [] → ex = .slice none 0 0
  lt : N < Bs
  le : Bs ≤ w.heap.size
theorem SetS.below {w w' : World} {N Bs : Nat} {s : SS} {b : Bool} {f : Nat → Value} {rd ex : Value} (h : SetS w N Bs s b f rd ex) (hb : Below w.heap.size w w') : SetS w' N Bs s b f rd ex :=
  ⟨below_row h.row hb h.row.lt, h.rule.ch (X := fun _ => False) (.of_below hb (Nat.le_refl _)) h.le (fun _ hi => hi.elim), own_below h.rds hb, own_below h.exs hb, h.apart, h.nr, h.nx, h.lt, Nat.le_trans h.le hb.size⟩
theorem own_ne2 {w : World} {base n N i : Nat} {e : TypeId} {size : Nat} {v u : Value} {xs : List Value} (h : w.ownsRow base e size v n xs) (hN : v.ownBlock ≠ some N) : (w.setCell ⟨N, i, none⟩ u).ownsRow base e size v n xs :=
  ownsRow_setCell_other h hN u
theorem SetS.set0 {w : World} {N Bs : Nat} {s : SS} {b : Bool} {f : Nat → Value} {rd ex : Value} (h : SetS w N Bs s b f rd ex) (t : Int) : SetS (w.setCell ⟨N, 0, none⟩ (.int .i64 t)) N Bs ((SIt.st t).put s) b f rd ex where
  row := (h.row.set 0 (.int .i64 t)).congr fun j _ => by
    by_cases h0 : j = 0
    · subst h0; simp [toldF, SIt.put]
    · simp [toldF, h0]
  rule := h.rule.ch (X := fun i => i = N) (.set rfl) h.le (fun i hi => .inl (Nat.le_of_eq hi))
  rds := own_ne2 h.rds (by have := h.lt; intro e; have := own_base h.rds _ e; omega)
  exs := own_ne2 h.exs (by have := h.lt; intro e; have := own_base h.exs _ e; omega)
  apart := h.apart
  nr := h.nr
  nx := h.nx
  lt := h.lt
  le := by rw [World.size_setCell]; exact h.le
theorem SetS.addR {W w8 : World} {N Bs n g cap : Nat} {s : SS} {b : Bool} {f : Nat → Value} {rd ex : Value} {x : Int} (h : SetS W N Bs s b f rd ex) (hn : n = s.rds.length) (hown : w8.ownsRow Bs 2 1 (.slice (some ⟨g, 0, none⟩) (n + 1) cap) (n + 1) (intVs s.rds ++ [.int .i64 x])) (hg : W.grownBy w8 rd.ownBlock) (hloc : some g = rd.ownBlock ∨ W.heap.size ≤ g) :
    SetS (w8.setCell ⟨N, 20, none⟩ (.slice (some ⟨g, 0, none⟩) (n + 1) cap)) N Bs ((SIt.rd x).put s) b f (.slice (some ⟨g, 0, none⟩) (n + 1) cap) ex := by
  subst hn
  have hch : Ch (fun i => some i = rd.ownBlock) W w8 := Ch.of_grown hg (fun i e => e.symm)
  have hX : ∀ i, some i = rd.ownBlock → i ≤ N ∨ Bs ≤ i := fun i hi => .inr (own_base h.rds i hi.symm)
  have hNn : ¬ some N = rd.ownBlock := fun e => by have := own_base h.rds N e.symm; have := h.lt; omega
  have hN := h.lt
  have hrow := h.row.of_block (hch.block N h.row.lt hNn)
  refine ⟨(hrow.set 20 _).congr fun j hj => ?_, (h.rule.ch hch h.le hX).ch (X := fun i => i = N) (.set rfl) (Nat.le_trans h.le hch.size) (fun i hi => .inl (Nat.le_of_eq hi)), ?_, ?_, ?_, ?_, h.nx, h.lt, by rw [World.size_setCell]; exact Nat.le_trans h.le hch.size⟩
  · by_cases h20 : j = 20
    · subst h20; simp [toldF]
    · rw [if_neg h20]
      unfold toldF
      by_cases h21 : j < 20
      · simp [SIt.put, h21]
      · have : j = 21 := by omega
        subst this; simp
  · have : intVs ((SIt.rd x).put s).rds = intVs s.rds ++ [.int .i64 x] := intVs_snoc _ _
    rw [this, show ((SIt.rd x).put s).rds.length = s.rds.length + 1 from by simp [SIt.put]]
    exact own_ne2 hown (by intro e; have := own_base hown _ e; omega)
  · have h2 : w8.ownsRow Bs 2 1 ex s.exs.length (intVs s.exs) := own_ch h.exs hch (fun i hi e => h.apart i e.symm hi)
    exact own_ne2 h2 (by intro e; have := own_base h2 _ e; omega)
  · intro i hi hx
    injection hi with hi
    have hi : g = i := hi
    subst hi
    rcases hloc with e | e
    · exact h.apart g e.symm hx
    · have := (h.exs.lt g hx).2; omega
  · intro e; simp [SIt.put] at e
theorem SetS.addX {W w8 : World} {N Bs n g cap : Nat} {s : SS} {b : Bool} {f : Nat → Value} {rd ex : Value} {x : Int} (h : SetS W N Bs s b f rd ex) (hn : n = s.exs.length) (hown : w8.ownsRow Bs 2 1 (.slice (some ⟨g, 0, none⟩) (n + 1) cap) (n + 1) (intVs s.exs ++ [.int .i64 x])) (hg : W.grownBy w8 ex.ownBlock) (hloc : some g = ex.ownBlock ∨ W.heap.size ≤ g) :
    SetS (w8.setCell ⟨N, 21, none⟩ (.slice (some ⟨g, 0, none⟩) (n + 1) cap)) N Bs ((SIt.ex x).put s) b f rd (.slice (some ⟨g, 0, none⟩) (n + 1) cap) := by
  subst hn
  have hch : Ch (fun i => some i = ex.ownBlock) W w8 := Ch.of_grown hg (fun i e => e.symm)
  have hX : ∀ i, some i = ex.ownBlock → i ≤ N ∨ Bs ≤ i := fun i hi => .inr (own_base h.exs i hi.symm)
  have hNn : ¬ some N = ex.ownBlock := fun e => by have := own_base h.exs N e.symm; have := h.lt; omega
  have hN := h.lt
  have hrow := h.row.of_block (hch.block N h.row.lt hNn)
  refine ⟨(hrow.set 21 _).congr fun j hj => ?_, (h.rule.ch hch h.le hX).ch (X := fun i => i = N) (.set rfl) (Nat.le_trans h.le hch.size) (fun i hi => .inl (Nat.le_of_eq hi)), ?_, ?_, ?_, h.nr, ?_, h.lt, by rw [World.size_setCell]; exact Nat.le_trans h.le hch.size⟩
  · by_cases h21 : j = 21
    · subst h21; simp [toldF]
    · rw [if_neg h21]
      unfold toldF
      by_cases h20 : j < 20
      · simp [SIt.put, h20]
      · have : j = 20 := by omega
        subst this; simp
  · have h2 : w8.ownsRow Bs 2 1 rd s.rds.length (intVs s.rds) := own_ch h.rds hch (fun i hi e => h.apart i hi e.symm)
    exact own_ne2 h2 (by intro e; have := own_base h2 _ e; omega)
  · have : intVs ((SIt.ex x).put s).exs = intVs s.exs ++ [.int .i64 x] := intVs_snoc _ _
    rw [this, show ((SIt.ex x).put s).exs.length = s.exs.length + 1 from by simp [SIt.put]]
    exact own_ne2 hown (by intro e; have := own_base hown _ e; omega)
  · intro i hi hx
    injection hx with hx
    have hx : g = i := hx
    subst hx
    rcases hloc with e | e
    · exact h.apart g hi e.symm
    · have := (h.rds.lt g hi).2; omega
  · intro e; simp [SIt.put] at e
theorem sF_one' {o : Opt} {hu : Bool} {sl : Nat → Value} (h : ∀ j, 8 ≤ j → j < 18 → (sl j).oneCell' = true) : ∀ i, i < 18 → (sF o hu sl i).oneCell' = true := fun i hi => by
  match i with
  | 0 | 1 | 2 | 3 | 4 | 5 | 6 | 7 => rfl
  | i + 8 => exact h (i + 8) (by omega) hi
theorem slots_one {sl : Nat → Value} (h : ∀ k, k ≠ 14 → (sl (k - 1)).oneCell' = true) (h2 : (sl 13).oneCell' = true) : ∀ j, 8 ≤ j → j < 18 → (sl j).oneCell' = true := fun j h1 h3 => by
  by_cases hj : j = 13
  · subst hj; exact h2
  · have := h (j + 1) (by omega)
    rwa [Nat.add_sub_cancel] at this
theorem LB.one {w : World} {N Bs : Nat} {v : Value} {l : List Int} (h : LB w N Bs v l) : v.oneCell' = true := by
  rcases h with ⟨rfl, _⟩ | ⟨g, c, rfl, _⟩ <;> rfl
theorem DB.one {w : World} {N Bs : Nat} {v : Value} {l : List (Int × Int)} (h : DB w N Bs v l) : v.oneCell' = true := by
  rcases h with ⟨rfl, _⟩ | ⟨g, c, rfl, _⟩ <;> rfl
theorem HI.one {w : World} {N : Nat} {v : Value} {l : List Int} (h : HI w N v l) : v.oneCell' = true := by
  rcases h with ⟨rfl, _⟩ | ⟨g, c, rfl, _⟩ <;> rfl
theorem HDy.one {w : World} {N : Nat} {v : Value} {l : List (Int × Int)} (h : HDy w N v l) : v.oneCell' = true := by
  rcases h with ⟨rfl, _⟩ | ⟨g, c, rfl, _⟩ <;> rfl
theorem RB.one {w : World} {N Bs : Nat} {b : Bool} {f : Nat → Value} {r : Option (Opt × Bool)} (h : RB w N Bs b f r) : ∀ j, j < 18 → (f j).oneCell' = true := by
  cases r with
  | none => obtain ⟨_, rfl⟩ := h; exact zRuleF_one
  | some p =>
    obtain ⟨_, sl, rfl, h3, h4⟩ := h
    exact sF_one' (slots_one (fun k hk => (h3 k hk).one) h4.one)
theorem own_oneC {w : World} {base n : Nat} {e : TypeId} {size : Nat} {v : Value} {xs : List Value} (h : w.ownsRow base e size v n xs) : v.oneCell' = true := by
  obtain ⟨q, c, rfl, -⟩ := own_slice h
  rfl
theorem list22 (F : Nat → Value) (t : Int) (j : Nat) (hj : j < 22) : (if 2 ≤ j ∧ j < 2 + [F 0, F 1, F 2, F 3, F 4, F 5, F 6, F 7, F 8, F 9, F 10, F 11, F 12, F 13, F 14, F 15, F 16, F 17].length then [F 0, F 1, F 2, F 3, F 4, F 5, F 6, F 7, F 8, F 9, F 10, F 11, F 12, F 13, F 14, F 15, F 16, F 17][j - 2]?.getD undef else if j = 1 then Value.bool true else toldF t false zRuleF (.slice none 0 0) (.slice none 0 0) j) = toldF t true F (.slice none 0 0) (.slice none 0 0) j := by
  have h22 : j = 0 ∨ j = 1 ∨ j = 2 ∨ j = 3 ∨ j = 4 ∨ j = 5 ∨ j = 6 ∨ j = 7 ∨ j = 8 ∨ j = 9 ∨ j = 10 ∨ j = 11 ∨ j = 12 ∨ j = 13 ∨ j = 14 ∨ j = 15 ∨ j = 16 ∨ j = 17 ∨ j = 18 ∨ j = 19 ∨ j = 20 ∨ j = 21 := by omega
  rcases h22 with h | h | h | h | h | h | h | h | h | h | h | h | h | h | h | h | h | h | h | h | h | h <;> subst h <;> rfl
theorem SetS.ruled' {w6 W : World} {N Nr : Nat} {s : SS} {o : Opt} {hu : Bool} {sl F : Nat → Value} (hF : F = sF o hu sl) (hrow : W.rowIs N 28 22 (fun j => if 2 ≤ j ∧ j < 2 + [F 0, F 1, F 2, F 3, F 4, F 5, F 6, F 7, F 8, F 9, F 10, F 11, F 12, F 13, F 14, F 15, F 16, F 17].length then [F 0, F 1, F 2, F 3, F 4, F 5, F 6, F 7, F 8, F 9, F 10, F 11, F 12, F 13, F 14, F 15, F 16, F 17][j - 2]?.getD undef else if j = 1 then Value.bool true else toldF s.start false zRuleF (.slice none 0 0) (.slice none 0 0) j))
    (hI : ∀ k, k ≠ 14 → HI w6 Nr (sl (k - 1)) (o.l k)) (hD : HDy w6 Nr (sl 13) o.days) (hNr : N ≤ Nr) (hch : Ch (fun i => i = N) w6 W) (hrd : s.rds = []) (hex : s.exs = []) (hN : N < w6.heap.size) :
    SetS W N W.heap.size { s with rule := some (o, hu) } true F (.slice none 0 0) (.slice none 0 0) where
  row := hrow.congr fun j hj => list22 F s.start j hj
  rule := by
    refine ⟨rfl, sl, hF, fun k hk => ?_, ?_⟩
    · rcases hI k hk with h | ⟨g, c, h1, h2, h3, h4⟩
      · exact .inl h
      · exact .inr ⟨g, c, h1, h2.keep fun j => hch.cell h4 (by show ¬ g = N; omega), by omega, Nat.lt_of_lt_of_le h4 hch.size⟩
    · rcases hD with h | ⟨g, c, h1, h2, h3, h4⟩
      · exact .inl h
      · exact .inr ⟨g, c, h1, fun j k n hx => ⟨(hch.cell h4 (by show ¬ g = N; omega)).trans (h2 j k n hx).1, (hch.cell h4 (by show ¬ g = N; omega)).trans (h2 j k n hx).2⟩, by omega, Nat.lt_of_lt_of_le h4 hch.size⟩
  rds := by show W.ownsRow _ 2 1 _ s.rds.length (intVs s.rds); rw [hrd]; exact own_nil _ _ _ _
  exs := by show W.ownsRow _ 2 1 _ s.exs.length (intVs s.exs); rw [hex]; exact own_nil _ _ _ _
  apart := fun g h => by cases h
  nr := fun _ => rfl
  nx := fun _ => rfl
  lt := Nat.lt_of_lt_of_le hN hch.size
  le := Nat.le_refl _
def putI (its : List SIt) : SS := its.foldl SIt.put {}
theorem putI_snoc (its : List SIt) (x : SIt) : putI (its ++ [x]) = x.put (putI its) := by simp [putI]
theorem putI_len : ∀ (its : List SIt) (s : SS), (its.foldl SIt.put s).rds.length ≤ s.rds.length + its.length ∧ (its.foldl SIt.put s).exs.length ≤ s.exs.length + its.length
  | [], s => ⟨Nat.le_refl _, Nat.le_refl _⟩
  | it :: its, s => by
    have h := putI_len its (it.put s)
    rw [List.foldl_cons, List.length_cons]
    have h1 : (it.put s).rds.length ≤ s.rds.length + 1 := by cases it <;> simp [SIt.put]
    have h2 : (it.put s).exs.length ≤ s.exs.length + 1 := by cases it <;> simp [SIt.put]
    omega
theorem Ch.grow3 {X X' : Nat → Prop} {w w1 w2 : World} (h : Ch X w w1) (hg : Ch X' w1 w2) (hr : ∀ i, X' i → X i ∨ w.heap.size ≤ i) : Ch X w w2 :=
  ⟨hg.os.trans h.os, hg.tape.trans h.tape, hg.output.trans h.output, Nat.le_trans h.size hg.size, fun i hi hx => (hg.block i (Nat.lt_of_lt_of_le hi h.size) (fun e => by rcases hr i e with e | e; exact hx e; omega)).trans (h.block i hi hx)⟩
/-- The specification's set, told. -/
def GivesSetS (s : SS) (w : World) (e : Ending) (w' : World) : Prop :=
  ∃ N Bs b f rd ex, e = .returned (.tuple #[.agg (rowA 22 (toldF s.start b f rd ex)), .bool true]) ∧ RB w' N Bs b f s.rule ∧ w'.ownsRow Bs 2 1 rd s.rds.length (intVs s.rds) ∧ w'.ownsRow Bs 2 1 ex s.exs.length (intVs s.exs) ∧ Bs ≤ w'.heap.size ∧ Below w.heap.size w w'
theorem split58 {n r : List UInt8} (hn : (58 : UInt8) ∉ n) (hr : (58 : UInt8) ∉ r) : splitL 58 (n ++ 58 :: r) = [n, r] := by
  rw [splitL_app hn, splitL_one hr]
theorem date58 (t : Int) : (58 : UInt8) ∉ dateL t := dateL_no (by decide) (by decide) (by decide) t
theorem zero28_at (w : World) : (w.alloc (.cells (toldC 0 (.slice none 0 0) (.slice none 0 0)) 28)).rowIs w.heap.size 28 22 (toldF 0 false zRuleF (.slice none 0 0) (.slice none 0 0)) :=
  World.rowIs_alloc w (toldC 0 (.slice none 0 0) (.slice none 0 0)) 28 _ fun i hi => toldC_at 0 _ _ i hi
set_option maxRecDepth 100000 in
set_option maxHeartbeats 16000000 in
theorem readSet_any (ls : List (List UInt8)) (its : List SIt) (g cap : Nat) (w : World) (hst : StrsAt w g ls) (hg : g < w.heap.size) (hal : ls.length = its.length) (hn : ls.length ≤ 100) (hsay : ∀ (k : Nat) l it, ls[k]? = some l → its[k]? = some it → it.says l) (hok : ∀ (k : Nat) it, its[k]? = some it → it.ok (putI (its.take k))) :
    Calls Tryz.prog 23 #[.slice (some ⟨g, 0, none⟩) ls.length cap] w fun e w' => GivesSetS (putI its) w e w' := by
  have HST := Lib.hid hst
  have HAL := Lib.hid hal
  have HSAY := Lib.hid hsay
  have HOK := Lib.hid hok
  obtain ⟨m, hm⟩ : ∃ m, m = ls.length := ⟨_, rfl⟩
  rw [← hm] at hn ⊢
  have HM := Lib.hid hm
  have hR0 := zero28_at w
  have hR1 := zero28_at (w.alloc (.cells (toldC 0 (.slice none 0 0) (.slice none 0 0)) 28))
  have hb1 : Below w.heap.size w ((w.alloc (.cells (toldC 0 (.slice none 0 0) (.slice none 0 0)) 28)).alloc (.cells (toldC 0 (.slice none 0 0) (.slice none 0 0)) 28)) := (below_a1 (w := w) (o := .cells (toldC 0 (.slice none 0 0) (.slice none 0 0)) 28)).alloc (by simp) _
  have hz1 : ((w.alloc (.cells (toldC 0 (.slice none 0 0) (.slice none 0 0)) 28)).alloc (.cells (toldC 0 (.slice none 0 0) (.slice none 0 0)) 28)).heap.size = w.heap.size + 2 := by simp
  have hR0' := hR0.alloc (.cells (toldC 0 (.slice none 0 0) (.slice none 0 0)) 28)
  clear hst hal hsay hok hm hR0
  go_enter Tryz.func23, Tryz.ntmps23
  unfold toldC at *
  go_wp2_with fail
  generalize (w.alloc (.cells #[.int .i64 0, .bool false, .int .u8 0, .bool false, .int .i64 0, .int .i64 0, .int .i64 0, .int .i64 0, .bool false, .int .i64 0, .slice none 0 0, .slice none 0 0, .slice none 0 0, .slice none 0 0, .slice none 0 0, .slice none 0 0, .slice none 0 0, .slice none 0 0, .slice none 0 0, .slice none 0 0, .slice none 0 0, .slice none 0 0] 28)).alloc (.cells #[.int .i64 0, .bool false, .int .u8 0, .bool false, .int .i64 0, .int .i64 0, .int .i64 0, .int .i64 0, .bool false, .int .i64 0, .slice none 0 0, .slice none 0 0, .slice none 0 0, .slice none 0 0, .slice none 0 0, .slice none 0 0, .slice none 0 0, .slice none 0 0, .slice none 0 0, .slice none 0 0, .slice none 0 0, .slice none 0 0] 28) = w1 at *
  have e1 : (w.alloc (.cells #[.int .i64 0, .bool false, .int .u8 0, .bool false, .int .i64 0, .int .i64 0, .int .i64 0, .int .i64 0, .bool false, .int .i64 0, .slice none 0 0, .slice none 0 0, .slice none 0 0, .slice none 0 0, .slice none 0 0, .slice none 0 0, .slice none 0 0, .slice none 0 0, .slice none 0 0, .slice none 0 0, .slice none 0 0, .slice none 0 0] 28)).heap.size = w.heap.size + 1 := by simp
  rw [e1] at hR1
  obtain ⟨N0, hN0⟩ : ∃ N0, N0 = w.heap.size := ⟨_, rfl⟩
  have HNE := Lib.hid hN0
  rw [← hN0] at hR1 hR0' hz1 hg ⊢
  obtain ⟨N, hNN⟩ : ∃ N, N = N0 + 1 := ⟨_, rfl⟩
  rw [show N0 + 1 = N from hNN.symm] at hR1 ⊢
  have hzN : w1.heap.size = N + 1 := by omega
  have hN0N : N0 < N := by omega
  have hgN : g < N0 := hg
  have HB1 := Lib.hid (show Below N0 w w1 by rw [hN0]; exact hb1)
  have HZ0 := Lib.hid hR0'
  have HS1 := Lib.hid (show SetS w1 N (N + 1) {} false zRuleF (.slice none 0 0) (.slice none 0 0) from ⟨hR1, ⟨rfl, rfl⟩, own_nil _ _ _ _, own_nil _ _ _ _, (fun g h => by cases h), (fun _ => rfl), (fun _ => rfl), Nat.lt_succ_self _, Nat.le_of_eq hzN.symm⟩)
  have hzN1 : N + 1 ≤ w1.heap.size := Nat.le_of_eq hzN.symm
  have hzN2 : w1.heap.size ≤ N + 1 := Nat.le_of_eq hzN
  clear e1 hN0 hNN hzN hb1 hz1 hR0' hR1
  go_loopw [5, 7, 8, 9, 11, 12, 13, 14, 15, 16, 19] (fun u5 _ _ _ _ _ _ _ _ _ v wr => ∃ (k Bs : Nat) (b : Bool) (f : Nat → Value) (rd ex : Value), k ≤ m ∧ v = .int .i64 k ∧ u5 = .bool (putI (its.take k)).started ∧ Hid (SetS wr N Bs (putI (its.take k)) b f rd ex) ∧ N + 1 ≤ Bs ∧ Hid (Ch (fun i => i = N) w1 wr)) (fun _ _ _ _ _ _ _ _ _ _ v _ => m - (intOf v).toNat)
  case atStart => exact ⟨0, _, _, _, _, _, Nat.zero_le _, rfl, rfl, HS1, Nat.le_refl _, Lib.hid (.refl _ _)⟩
  case round =>
    clear HS1
    obtain ⟨k, Bs, b, f, rd, ex, hk, rfl, rfl, HS, hNB, HCH⟩ := hrel
    have hwr := HCH.out.size
    by_cases hkm : k < m
    · have hkl : k < ls.length := by have := HM.out; omega
      have hki2 : k < its.length := by have := HAL.out; omega
      have hx := List.getElem?_eq_getElem hkl
      have hit := List.getElem?_eq_getElem hki2
      have hs := HSAY.out k _ _ hx hit
      have ho := HOK.out k _ hit
      have hc : wr.cell? ⟨g, k, none⟩ = some (.string ⟨ls[k].toArray⟩) := (HCH.out.cell (by omega) (by show ¬ g = N; omega)).trans ((HB1.out.cell (p := ⟨g, k, none⟩) hgN).trans (HST.out k _ hx))
      have HTK := Lib.hid (show putI (its.take (k + 1)) = its[k].put (putI (its.take k)) by rw [List.take_add_one, hit]; exact putI_snoc _ _)
      have hki : (0 : Int) ≤ ((k : Nat) : Int) := by omega
      have hkni : ((k : Nat) : Int) < ((m : Nat) : Int) := by omega
      have HKL := Lib.hid (show (putI (its.take k)).rds.length ≤ 1000000 ∧ (putI (its.take k)).exs.length ≤ 1000000 from by have := putI_len (its.take k) {}; rw [List.length_take] at this; have h1 := this.1; have h2 := this.2; simp at h1 h2; exact ⟨by unfold putI; omega, by unfold putI; omega⟩)
      generalize putI (its.take k) = s at *
      generalize its[k] = it at *
      generalize ls[k] = l at *
      clear hx hit
      cases it with
      | st t =>
        obtain ⟨rfl, h0, h1⟩ := hs
        have hsp : splitL 58 (dtL t) = [[68, 84, 83, 84, 65, 82, 84], dateL t] := split58 (n := [68, 84, 83, 84, 65, 82, 84]) (by decide) (date58 t)
        have hll : (dtL t).length ≤ 20000 := by rw [show (dtL t).length = 24 from rfl]; omega
        have HC58 := Lib.hid fun W : World => cut_any ⟨(dtL t).toArray⟩ 58 W (by rw [Lib.size_eq]; show (dtL t).length ≤ _; omega)
        rw [show splitL 58 (⟨(dtL t).toArray⟩ : ByteArray).data.toList = [[68, 84, 83, 84, 65, 82, 84], dateL t] from hsp] at HC58
        have hl2 : decide ((20000 : Int) < ((⟨(dtL t).toArray⟩ : ByteArray).size : Int)) = false := by rw [Lib.size_eq]; simp; omega
        generalize (⟨(dtL t).toArray⟩ : ByteArray) = ab at *
        clear hsp hll
        go_wp2_with fail
        refine (HC58.out _).mono ?_; rintro e w5 ⟨v5, m5, rfl, hown5, hm5, hb5⟩
        obtain rfl : m5 = 2 := by rw [← hm5]; rfl
        obtain ⟨q5, c5, rfl, hq5⟩ := own_slice hown5
        obtain ⟨g5, rfl, hg5, hg6⟩ : ∃ g, q5 = some ⟨g, 0, none⟩ ∧ wr.heap.size ≤ g ∧ g < w5.heap.size := by
          rcases hq5 with h | h
          · omega
          · exact h
        have hst5 := StrsAt.of_own hown5
        have x0 : w5.cell? ⟨g5, 0, none⟩ = some (.string ⟨#[68, 84, 83, 84, 65, 82, 84]⟩) := hst5 0 _ rfl
        have x1 : w5.cell? ⟨g5, 1, none⟩ = some (.string ⟨(dateL t).toArray⟩) := hst5 1 _ rfl
        have HS5 := Lib.hid (HS.out.below hb5)
        have HC5 := Lib.hid (HCH.out.trans (Ch.of_below (X := fun i => i = N) hb5 (Nat.le_refl _)))
        have hw5 : N + 1 ≤ w5.heap.size := by have := HC5.out.size; omega
        clear hst5 hown5 hm5 hq5 hb5 hc HCH HS
        have HD := Lib.hid fun W : World => readDate_any t h0 h1 W
        have hso : s.started = false := ho
        rw [hso]
        generalize (⟨(dateL t).toArray⟩ : ByteArray) = rb at *
        clear h0 h1 ho hso
        go_wp2_with fail
        refine (HD.out _).mono ?_; rintro e w6 ⟨rfl, hb6⟩
        have HS6 := Lib.hid (HS5.out.below hb6)
        have HC6 := Lib.hid (HC5.out.trans (Ch.of_below (X := fun i => i = N) hb6 (Nat.le_refl _)))
        have hold := HS6.out.row.cell (i := 0) (by omega)
        have hfz := HS6.out.row.frozen 0
        clear hb6 x0 x1 HS5 HC5
        go_wp2_with fail
        go_roundw
        case rel =>
          refine ⟨k + 1, Bs, b, f, rd, ex, by omega, by go_num, by rw [HTK.out]; rfl, Lib.hid ?_, hNB, Lib.hid (HC6.out.trans (.set rfl))⟩
          rw [HTK.out]
          exact HS6.out.set0 t
        case measure => simp [intOf]; omega
      | ru o ps =>
        obtain ⟨rfl, h58, h2000, hcall⟩ := hs
        have hsp : splitL 58 (rrL (rrTx o)) = [[82, 82, 85, 76, 69], rrTx o] := split58 (n := [82, 82, 85, 76, 69]) (by decide) h58
        have hll : (rrL (rrTx o)).length ≤ 20000 := by show (rrL (rrTx o)).length ≤ _; simp [rrL]; omega
        have HC58 := Lib.hid fun W : World => cut_any ⟨(rrL (rrTx o)).toArray⟩ 58 W (by rw [Lib.size_eq]; show (rrL (rrTx o)).length ≤ _; omega)
        rw [show splitL 58 (⟨(rrL (rrTx o)).toArray⟩ : ByteArray).data.toList = [[82, 82, 85, 76, 69], rrTx o] from hsp] at HC58
        have hl2 : decide ((20000 : Int) < ((⟨(rrL (rrTx o)).toArray⟩ : ByteArray).size : Int)) = false := by rw [Lib.size_eq]; simp; omega
        generalize (⟨(rrL (rrTx o)).toArray⟩ : ByteArray) = ab at *
        clear hsp hll
        go_wp2_with fail
        refine (HC58.out _).mono ?_; rintro e w5 ⟨v5, m5, rfl, hown5, hm5, hb5⟩
        obtain rfl : m5 = 2 := by rw [← hm5]; rfl
        obtain ⟨q5, c5, rfl, hq5⟩ := own_slice hown5
        obtain ⟨g5, rfl, hg5, hg6⟩ : ∃ g, q5 = some ⟨g, 0, none⟩ ∧ wr.heap.size ≤ g ∧ g < w5.heap.size := by
          rcases hq5 with h | h
          · omega
          · exact h
        have hst5 := StrsAt.of_own hown5
        have x0 : w5.cell? ⟨g5, 0, none⟩ = some (.string ⟨#[82, 82, 85, 76, 69]⟩) := hst5 0 _ rfl
        have x1 : w5.cell? ⟨g5, 1, none⟩ = some (.string ⟨(rrTx o).toArray⟩) := hst5 1 _ rfl
        have HS5 := Lib.hid (HS.out.below hb5)
        have HC5 := Lib.hid (HCH.out.trans (Ch.of_below (X := fun i => i = N) hb5 (Nat.le_refl _)))
        have hw5 : N + 1 ≤ w5.heap.size := by have := HC5.out.size; omega
        clear hst5 hown5 hm5 hq5 hb5 hc HCH HS
        obtain ⟨hr0, hrd0, hex0⟩ := ho
        obtain ⟨hb, hf⟩ : b = false ∧ f = zRuleF := by have := HS5.out.rule; rw [hr0] at this; exact this
        subst hb
        subst hf
        obtain rfl := HS5.out.nr hrd0
        obtain rfl := HS5.out.nx hex0
        have z1 : w5.cell? ⟨N, 1, none⟩ = some (.bool false) := HS5.out.row.cell (i := 1) (by omega)
        obtain ⟨tb, htb⟩ : ∃ tb : ByteArray, tb = ⟨(rrTx o).toArray⟩ := ⟨_, rfl⟩
        rw [← htb] at hcall x1
        have HCL := Lib.hid hcall
        clear hcall htb h58 h2000 hr0
        go_wp2_with fail
        refine (HCL.out _).mono ?_; rintro e w6 ⟨Nr, sl, rfl, hNr, hI, hD, hb6⟩
        obtain ⟨F, hF⟩ : ∃ F, F = sF (putS o1 ps) (huS false ps) sl := ⟨_, rfl⟩
        rw [← hF]
        have hone : ∀ i, i < 18 → (F i).oneCell' = true := by rw [hF]; exact sF_one' (slots_one (fun k hk => (hI k hk).one) hD.one)
        have hS6 := HS5.out.below hb6
        have HC6 := Lib.hid (HC5.out.trans (Ch.of_below (X := fun i => i = N) hb6 (Nat.le_refl _)))
        have hR7 := rowA_at 25 18 F w6
        have hb67 : Below w6.heap.size w6 (w6.alloc (.cells (rowA 18 F) 25)) := below_a1
        have HS7 := Lib.hid (hS6.below hb67)
        have HFE := Lib.hid hF
        have HI6 := Lib.hid hI
        have HD6 := Lib.hid hD
        have hN6 := hS6.row.lt
        have hNNr : N ≤ Nr := by have := HS5.out.row.lt; omega
        have hall : (#[F 0, F 1, F 2, F 3, F 4, F 5, F 6, F 7, F 8, F 9, F 10, F 11, F 12, F 13, F 14, F 15, F 16, F 17] : Array Value).all (·.oneCell') = true := by
          have a0 := hone 0 (by omega)
          have a1 := hone 1 (by omega)
          have a2 := hone 2 (by omega)
          have a3 := hone 3 (by omega)
          have a4 := hone 4 (by omega)
          have a5 := hone 5 (by omega)
          have a6 := hone 6 (by omega)
          have a7 := hone 7 (by omega)
          have a8 := hone 8 (by omega)
          have a9 := hone 9 (by omega)
          have a10 := hone 10 (by omega)
          have a11 := hone 11 (by omega)
          have a12 := hone 12 (by omega)
          have a13 := hone 13 (by omega)
          have a14 := hone 14 (by omega)
          have a15 := hone 15 (by omega)
          have a16 := hone 16 (by omega)
          have a17 := hone 17 (by omega)
          simp [a0, a1, a2, a3, a4, a5, a6, a7, a8, a9, a10, a11, a12, a13, a14, a15, a16, a17]
        have HALL := Lib.hid hall
        clear hb6 hS6 hI hD HS5 HC5 z1 hNr hF hall
        go_upto_region 30 with ((with_reducible refine gd_store 25 ?_); refine wpl_store_last rfl 25 _ _ rfl _ (rowA 18 F) rfl rfl (by rw [info25s, rowA_size]) (by rw [rowA_size]; rfl) (rowA_all hone) ?_)
        clear x0 x1 hone HCL
        generalize w6.alloc (.cells (rowA 18 F) 25) = w7 at *
        have HB67 := Lib.hid hb67
        have HR7 := Lib.hid hR7
        have hRN : ¬ w6.heap.size = N := by omega
        clear hb67 hR7
        refine wp_region_noPanic ?_
        refine wp_region_held_drew (S := (fun W : World => Ch (fun i => i = N) w7 W ∧ ∃ G, W.rowIs N 28 22 G)) (by kernel_rfl) ⟨Ch.of_below ((Below.refl _ _).drew) (Nat.le_refl _), ⟨_, below_row HS7.out.row ((Below.refl _ _).drew) HS7.out.row.lt⟩⟩ (fun hHeld => ?_)
        refine wpAnyH_take (i := 0) (arr_at rfl) (by as_aux_lemma => kernel_rfl) (by as_aux_lemma => kernel_rfl) (by as_aux_lemma => kernel_rfl) (fun _ _ _ h => h) (yieldsIf_load_mid (by rfl) 25 _ rfl w6.heap.size 0 rfl [F 0, F 1, F 2, F 3, F 4, F 5, F 6, F 7, F 8, F 9, F 10, F 11, F 12, F 13, F 14, F 15, F 16, F 17] _ (fun W hS => by have := rowIs_range (HR7.out.of_block (hS.1.block w6.heap.size HR7.out.lt hRN)) 0 18 (by omega); exact this) Tryz.underlying25 rfl info25s) hHeld ?_
        simp only [Act.put, List.setIfInBounds_toArray, List.set_cons_zero, List.set_cons_succ]
        refine wpAnyH_take (i := 1) (v := ?_) (arr_at rfl) (by as_aux_lemma => kernel_rfl) (by as_aux_lemma => kernel_rfl) (by as_aux_lemma => kernel_rfl) (fun _ _ _ h => h) (Or.inl ⟨by rfl, ?_⟩) hHeld ?_
        rotate_left
        · intro w hSw
          (try dsimp only at hSw)
          go_simp
          all_goals with_reducible rfl
        try simp only [Act.put, List.setIfInBounds_toArray, List.set_cons_zero, List.set_cons_succ]
        refine wpAnyH_ready (rs := [2]) (by as_aux_lemma => kernel_rfl) (by simp) ?_
        refine AllReadyH.cons (arr_at rfl) (fun K hK => ?_) ?_
        ·
          have hz7 : w7.drew.rowIs N 28 22 (toldF s.start false zRuleF (.slice none 0 0) (.slice none 0 0)) := below_row HS7.out.row ((Below.refl _ _).drew) HS7.out.row.lt
          have hC := hHeld.1
          have hset := HS7.out.row.set 1 (.bool true)
          have hGB := below_row hset ((Below.refl _ _).drew) hset.lt
          have c1 := hz7.cell (i := 1) (by omega)
          have f1 := hz7.frozen 1
          go_simp
          refine hK.out _ _ ?_ (fun hNew => ?_)
          · exact ⟨(Ch.set (X := fun i => i = N) (w := w7) rfl).trans (Ch.of_below ((Below.refl _ _).drew) (Nat.le_refl _)), ⟨_, hGB⟩⟩
          clear hK K hHeld
          have hHeld := hNew
          clear hNew c1 f1 hC
          have hG := hGB
          try simp only [Act.put]
          refine wpAnyH_take (i := 3) (v := ?_) (arr_at rfl) (by as_aux_lemma => kernel_rfl) (by as_aux_lemma => kernel_rfl) (by as_aux_lemma => kernel_rfl) (fun _ _ _ h => h) (Or.inl ⟨by rfl, ?_⟩) hHeld ?_
          rotate_left
          · intro w hSw
            (try dsimp only at hSw)
            go_simp
            all_goals with_reducible rfl
          try simp only [Act.put, List.setIfInBounds_toArray, List.set_cons_zero, List.set_cons_succ]
          refine wpAnyH_ready (rs := [4]) (by as_aux_lemma => kernel_rfl) (by simp) ?_
          refine AllReadyH.cons (arr_at rfl) (fun K hK => ?_) ?_
          ·
            rw [if_pos (by rfl)]
            have hC := hHeld.1
            refine wp_store_mid 25 _ _ rfl _ 2 _ rfl rfl (rowIs_there hG 2 18 (by omega)) info25s HALL.out ?_
            refine hK.out _ _ ?_ (fun hNew => ?_)
            · exact ⟨hC.trans (Ch.of_grown (setCells_grown _ _ _ (World.grownBy.refl _ _)) (fun g e => by injection e with e; exact e.symm)), ⟨_, setCells_row _ 2 _ _ hG⟩⟩
            clear hK K hHeld
            have hHeld := hNew
            clear hNew
            have hRW := setCells_row [F 0, F 1, F 2, F 3, F 4, F 5, F 6, F 7, F 8, F 9, F 10, F 11, F 12, F 13, F 14, F 15, F 16, F 17] 2 _ _ hG
            have hC2 := hHeld.1
            try simp only [Act.put]
            refine wpAnyH_done (by as_aux_lemma => kernel_rfl) ?_ _
            refine NoPanic.normal ?_
            go_wp2_with fail
            go_roundw
            case rel =>
              have hch67 : Ch (fun i => i = N) w6 w7 := .of_below HB67.out (Nat.le_refl _)
              have q1 := hch67.trans hC2
              have hfin := SetS.ruled' (s := s) (o := putS o1 ps) (hu := huS false ps) HFE.out hRW HI6.out HD6.out hNNr q1 hrd0 hex0 hN6
              have q2 : putI (its.take (k + 1)) = { s with rule := some (putS o1 ps, huS false ps) } := HTK.out
              have q3 := (HC6.out.trans hch67).trans hC2
              rw [← q2] at hfin
              have h1 := q1.size
              have q4 : (Value.bool s.started) = .bool (putI (its.take (k + 1))).started := by rw [q2]
              exact ⟨k + 1, _, true, F, _, _, by omega, by go_num, q4, Lib.hid hfin, Nat.le_trans hN6 h1, Lib.hid q3⟩
            case measure => simp [intOf]; omega
          exact AllReadyH.nil
        exact AllReadyH.nil
      | rd x =>
        obtain ⟨rfl, h0, h1⟩ := hs
        have hsp : splitL 58 (rdL x) = [[82, 68, 65, 84, 69], dateL x] := split58 (n := [82, 68, 65, 84, 69]) (by decide) (date58 x)
        have hll : (rdL x).length ≤ 20000 := by rw [show (rdL x).length = 22 from rfl]; omega
        have HC58 := Lib.hid fun W : World => cut_any ⟨(rdL x).toArray⟩ 58 W (by rw [Lib.size_eq]; show (rdL x).length ≤ _; omega)
        rw [show splitL 58 (⟨(rdL x).toArray⟩ : ByteArray).data.toList = [[82, 68, 65, 84, 69], dateL x] from hsp] at HC58
        have hl2 : decide ((20000 : Int) < ((⟨(rdL x).toArray⟩ : ByteArray).size : Int)) = false := by rw [Lib.size_eq]; simp; omega
        generalize (⟨(rdL x).toArray⟩ : ByteArray) = ab at *
        clear hsp hll
        go_wp2_with fail
        refine (HC58.out _).mono ?_; rintro e w5 ⟨v5, m5, rfl, hown5, hm5, hb5⟩
        obtain rfl : m5 = 2 := by rw [← hm5]; rfl
        obtain ⟨q5, c5, rfl, hq5⟩ := own_slice hown5
        obtain ⟨g5, rfl, hg5, hg6⟩ : ∃ g, q5 = some ⟨g, 0, none⟩ ∧ wr.heap.size ≤ g ∧ g < w5.heap.size := by
          rcases hq5 with h | h
          · omega
          · exact h
        have hst5 := StrsAt.of_own hown5
        have x0 : w5.cell? ⟨g5, 0, none⟩ = some (.string ⟨#[82, 68, 65, 84, 69]⟩) := hst5 0 _ rfl
        have x1 : w5.cell? ⟨g5, 1, none⟩ = some (.string ⟨(dateL x).toArray⟩) := hst5 1 _ rfl
        have HS5 := Lib.hid (HS.out.below hb5)
        have HC5 := Lib.hid (HCH.out.trans (Ch.of_below (X := fun i => i = N) hb5 (Nat.le_refl _)))
        have hw5 : N + 1 ≤ w5.heap.size := by have := HC5.out.size; omega
        clear hst5 hown5 hm5 hq5 hb5 hc HCH HS
        have HD := Lib.hid fun W : World => readDate_any x h0 h1 W
        have HC44 := Lib.hid fun W : World => cut_any ⟨(dateL x).toArray⟩ 44 W (by rw [Lib.size_eq]; show (dateL x).length ≤ _; rw [dateL_len]; omega)
        rw [show splitL 44 (⟨(dateL x).toArray⟩ : ByteArray).data.toList = [dateL x] from splitL_one (date_no (.inl rfl) x)] at HC44
        obtain ⟨rb, hrb⟩ : ∃ rb : ByteArray, rb = ⟨(dateL x).toArray⟩ := ⟨_, rfl⟩
        rw [← hrb] at HD HC44 x1
        have HRB := Lib.hid hrb
        clear h0 h1 ho hrb
        go_wp2_with fail
        refine (HC44.out _).mono ?_; rintro e w6 ⟨v6, m6, rfl, hown6, hm6, hb6⟩
        obtain rfl : m6 = 1 := by rw [← hm6]; rfl
        obtain ⟨q6, c6, rfl, hq6⟩ := own_slice hown6
        obtain ⟨g6, rfl, hg61, hg62⟩ : ∃ g, q6 = some ⟨g, 0, none⟩ ∧ w5.heap.size ≤ g ∧ g < w6.heap.size := by
          rcases hq6 with h | h
          · omega
          · exact h
        have y0 : w6.cell? ⟨g6, 0, none⟩ = some (.string rb) := by rw [HRB.out]; exact StrsAt.of_own hown6 0 _ rfl
        have z0 := (hb6.cell (p := ⟨g5, 0, none⟩) hg6).trans x0
        have HS6 := Lib.hid (HS5.out.below hb6)
        have HC6 := Lib.hid (HC5.out.trans (Ch.of_below (X := fun i => i = N) hb6 (Nat.le_refl _)))
        obtain ⟨B6, hB6⟩ : ∃ B, B = w6.heap.size := ⟨_, rfl⟩
        have hB6' : B6 ≤ w6.heap.size := Nat.le_of_eq hB6
        have HBE6 := Lib.hid hB6
        have hg5B : g5 < B6 := by have := hb6.size; omega
        have hg6B : g6 < B6 := by omega
        have HO6 := Lib.hid (own_nil w6 B6 2 1)
        clear hown6 hm6 hq6 hb6 x0 x1 HS5 HC5 hB6 hg61 HC44
        go_wp2_with fail
        go_loopw [9, 11, 12, 13, 49] (fun u _ _ _ v wr => ∃ j : Nat, j ≤ 1 ∧ v = .int .i64 j ∧ Hid (wr.ownsRow B6 2 1 u j (intVs ([x].take j))) ∧ Hid (Below B6 w6 wr)) (fun _ _ _ _ v _ => 1 - (intOf v).toNat)
        case atStart => exact ⟨0, Nat.zero_le _, rfl, HO6, Lib.hid (.refl _ _)⟩
        case round =>
          clear HO6
          obtain ⟨j, hj, rfl, HO, HB⟩ := hrel
          have y0' := (HB.out.cell (p := ⟨g6, 0, none⟩) hg6B).trans y0
          have z0' := (HB.out.cell (p := ⟨g5, 0, none⟩) hg5B).trans z0
          have hjj : j = 0 ∨ j = 1 := by omega
          rcases hjj with rfl | rfl
          · go_wp2_with fail
            refine (HD.out _).mono ?_; rintro e w7 ⟨rfl, hb7⟩
            have HO7 := Lib.hid (own_below HO.out hb7)
            have HB7 := Lib.hid (HB.out.trans (hb7.mono (Nat.le_trans hB6' HB.out.size)))
            have hw7 : B6 ≤ w7.heap.size := Nat.le_trans hB6' HB7.out.size
            clear hb7 y0' z0'
            go_wp2_with (at_builtin; refine app_own B6 rfl _ _ 26 2 (.int .i64 0) 1 8 rfl Tryz.underlying26 info2 rfl (by decide) (by decide) _ 0 (intVs ([x].take 0)) [.int .i64 x] (by rfl) (by rfl) rfl (by simp [Value.oneCell']) HO7.out hw7 (by omega) ?_)
            intro g8 cap8 w8 hown8 hg8 hg9 hcap8 hgrow hat8
            have HB8 := Lib.hid (HB7.out.grown hgrow hw7 (own_base HO7.out))
            have HO8 := Lib.hid hown8
            clear hown8 hgrow hat8 HO7 HB7
            go_wp2_with fail
            go_roundw
            case rel => exact ⟨1, Nat.le_refl _, by go_num, HO8, HB8⟩
            case measure => simp [intOf]
          · obtain ⟨q9, c9, rfl, hq9⟩ := own_slice HO.out
            obtain ⟨g9, rfl, hg91, hg92⟩ : ∃ g, q9 = some ⟨g, 0, none⟩ ∧ B6 ≤ g ∧ g < wr.heap.size := by
              rcases hq9 with h | h
              · omega
              · exact h
            have hsrc : wr.cell? ⟨g9, 0, none⟩ = some (.int .i64 x) := by have := HO.out.cells (g := g9) rfl 0 (.int .i64 x) rfl; rwa [add_plain] at this
            have hbq : Below w6.heap.size w6 wr := by rw [← HBE6.out]; exact HB.out
            have HS7 := Lib.hid (HS6.out.below hbq)
            have HC7 := Lib.hid (HC6.out.trans (Ch.of_below (X := fun i => i = N) hbq (Nat.le_refl _)))
            obtain ⟨qr, cr, hrq, -⟩ := own_slice HS7.out.rds
            obtain ⟨nn, hnn⟩ : ∃ nn, nn = s.rds.length := ⟨_, rfl⟩
            have hnn100 : nn ≤ 1000000 := by
              have := HKL.out
              rw [hnn]; exact this.1
            have HNN := Lib.hid hnn
            have HOR := Lib.hid HS7.out.rds
            rw [← hnn] at HOR hrq
            have hc20 : wr.cell? ⟨N, 20, none⟩ = some (.slice qr nn cr) := (HS7.out.row.cell (i := 20) (by omega)).trans (by rw [← hrq]; rfl)
            have HRQ := Lib.hid hrq
            have hle := HS7.out.le
            clear hbq hrq hq9 y0' hnn
            go_wp2_with (at_builtin; refine app_src Bs rfl _ _ 26 2 (.int .i64 0) 1 8 rfl Tryz.underlying26 info2 rfl (by decide) (by decide) (.slice qr nn cr) nn (intVs s.rds) [.int .i64 x] g9 c9 (by rfl) (by rfl) rfl (fun j u hu => by cases j with | zero => (simp at hu; subst hu; rw [add_plain]; exact hsrc) | succ j => simp at hu) (by simp [Value.oneCell']) (by rw [← HRQ.out]; exact HOR.out) hle (by omega) ?_)
            intro g8 cap8 w8 hown8 hg8 hg9 hgrow hat8
            rw [← HRQ.out] at hgrow hat8
            have HAD := Lib.hid (HS7.out.addR (cap := cap8) HNN.out hown8 hgrow hat8)
            have hNn : ¬ some N = (rd).ownBlock := fun e => by have := own_base HS7.out.rds N e.symm; have := HS7.out.lt; omega
            have hr8 := HS7.out.row.of_block (hgrow.block N HS7.out.row.lt hNn)
            have hold := hr8.cell (i := 20) (by omega)
            have hfz := hr8.frozen 20
            have HC8 := Lib.hid (HC7.out.grow3 (X' := fun i => N + 1 ≤ i) (Ch.of_grown hgrow (fun i e => by have := own_base HS7.out.rds i e; omega)) (fun i hi => .inr (Nat.le_trans hzN2 hi)))
            clear hown8 hgrow hat8 hsrc hc20 z0' hr8 hNn
            go_wp2_with fail
            go_roundw
            case rel =>
              refine ⟨k + 1, Bs, b, f, .slice (some ⟨g8, 0, none⟩) (nn + 1) cap8, ex, by omega, by go_num, by rw [HTK.out]; rfl, Lib.hid ?_, hNB, Lib.hid (HC8.out.trans (.set rfl))⟩
              rw [HTK.out]
              exact HAD.out
            case measure => simp [intOf]; omega
      | ex x =>
        obtain ⟨rfl, h0, h1⟩ := hs
        have hsp : splitL 58 (exL x) = [[69, 88, 68, 65, 84, 69], dateL x] := split58 (n := [69, 88, 68, 65, 84, 69]) (by decide) (date58 x)
        have hll : (exL x).length ≤ 20000 := by rw [show (exL x).length = 23 from rfl]; omega
        have HC58 := Lib.hid fun W : World => cut_any ⟨(exL x).toArray⟩ 58 W (by rw [Lib.size_eq]; show (exL x).length ≤ _; omega)
        rw [show splitL 58 (⟨(exL x).toArray⟩ : ByteArray).data.toList = [[69, 88, 68, 65, 84, 69], dateL x] from hsp] at HC58
        have hl2 : decide ((20000 : Int) < ((⟨(exL x).toArray⟩ : ByteArray).size : Int)) = false := by rw [Lib.size_eq]; simp; omega
        generalize (⟨(exL x).toArray⟩ : ByteArray) = ab at *
        clear hsp hll
        go_wp2_with fail
        refine (HC58.out _).mono ?_; rintro e w5 ⟨v5, m5, rfl, hown5, hm5, hb5⟩
        obtain rfl : m5 = 2 := by rw [← hm5]; rfl
        obtain ⟨q5, c5, rfl, hq5⟩ := own_slice hown5
        obtain ⟨g5, rfl, hg5, hg6⟩ : ∃ g, q5 = some ⟨g, 0, none⟩ ∧ wr.heap.size ≤ g ∧ g < w5.heap.size := by
          rcases hq5 with h | h
          · omega
          · exact h
        have hst5 := StrsAt.of_own hown5
        have x0 : w5.cell? ⟨g5, 0, none⟩ = some (.string ⟨#[69, 88, 68, 65, 84, 69]⟩) := hst5 0 _ rfl
        have x1 : w5.cell? ⟨g5, 1, none⟩ = some (.string ⟨(dateL x).toArray⟩) := hst5 1 _ rfl
        have HS5 := Lib.hid (HS.out.below hb5)
        have HC5 := Lib.hid (HCH.out.trans (Ch.of_below (X := fun i => i = N) hb5 (Nat.le_refl _)))
        have hw5 : N + 1 ≤ w5.heap.size := by have := HC5.out.size; omega
        clear hst5 hown5 hm5 hq5 hb5 hc HCH HS
        have HD := Lib.hid fun W : World => readDate_any x h0 h1 W
        have HC44 := Lib.hid fun W : World => cut_any ⟨(dateL x).toArray⟩ 44 W (by rw [Lib.size_eq]; show (dateL x).length ≤ _; rw [dateL_len]; omega)
        rw [show splitL 44 (⟨(dateL x).toArray⟩ : ByteArray).data.toList = [dateL x] from splitL_one (date_no (.inl rfl) x)] at HC44
        obtain ⟨rb, hrb⟩ : ∃ rb : ByteArray, rb = ⟨(dateL x).toArray⟩ := ⟨_, rfl⟩
        rw [← hrb] at HD HC44 x1
        have HRB := Lib.hid hrb
        clear h0 h1 ho hrb
        go_wp2_with fail
        refine (HC44.out _).mono ?_; rintro e w6 ⟨v6, m6, rfl, hown6, hm6, hb6⟩
        obtain rfl : m6 = 1 := by rw [← hm6]; rfl
        obtain ⟨q6, c6, rfl, hq6⟩ := own_slice hown6
        obtain ⟨g6, rfl, hg61, hg62⟩ : ∃ g, q6 = some ⟨g, 0, none⟩ ∧ w5.heap.size ≤ g ∧ g < w6.heap.size := by
          rcases hq6 with h | h
          · omega
          · exact h
        have y0 : w6.cell? ⟨g6, 0, none⟩ = some (.string rb) := by rw [HRB.out]; exact StrsAt.of_own hown6 0 _ rfl
        have z0 := (hb6.cell (p := ⟨g5, 0, none⟩) hg6).trans x0
        have HS6 := Lib.hid (HS5.out.below hb6)
        have HC6 := Lib.hid (HC5.out.trans (Ch.of_below (X := fun i => i = N) hb6 (Nat.le_refl _)))
        obtain ⟨B6, hB6⟩ : ∃ B, B = w6.heap.size := ⟨_, rfl⟩
        have hB6' : B6 ≤ w6.heap.size := Nat.le_of_eq hB6
        have HBE6 := Lib.hid hB6
        have hg5B : g5 < B6 := by have := hb6.size; omega
        have hg6B : g6 < B6 := by omega
        have HO6 := Lib.hid (own_nil w6 B6 2 1)
        clear hown6 hm6 hq6 hb6 x0 x1 HS5 HC5 hB6 hg61 HC44
        go_wp2_with fail
        go_loopw [9, 11, 12, 13, 49] (fun u _ _ _ v wr => ∃ j : Nat, j ≤ 1 ∧ v = .int .i64 j ∧ Hid (wr.ownsRow B6 2 1 u j (intVs ([x].take j))) ∧ Hid (Below B6 w6 wr)) (fun _ _ _ _ v _ => 1 - (intOf v).toNat)
        case atStart => exact ⟨0, Nat.zero_le _, rfl, HO6, Lib.hid (.refl _ _)⟩
        case round =>
          clear HO6
          obtain ⟨j, hj, rfl, HO, HB⟩ := hrel
          have y0' := (HB.out.cell (p := ⟨g6, 0, none⟩) hg6B).trans y0
          have z0' := (HB.out.cell (p := ⟨g5, 0, none⟩) hg5B).trans z0
          have hjj : j = 0 ∨ j = 1 := by omega
          rcases hjj with rfl | rfl
          · go_wp2_with fail
            refine (HD.out _).mono ?_; rintro e w7 ⟨rfl, hb7⟩
            have HO7 := Lib.hid (own_below HO.out hb7)
            have HB7 := Lib.hid (HB.out.trans (hb7.mono (Nat.le_trans hB6' HB.out.size)))
            have hw7 : B6 ≤ w7.heap.size := Nat.le_trans hB6' HB7.out.size
            clear hb7 y0' z0'
            go_wp2_with (at_builtin; refine app_own B6 rfl _ _ 26 2 (.int .i64 0) 1 8 rfl Tryz.underlying26 info2 rfl (by decide) (by decide) _ 0 (intVs ([x].take 0)) [.int .i64 x] (by rfl) (by rfl) rfl (by simp [Value.oneCell']) HO7.out hw7 (by omega) ?_)
            intro g8 cap8 w8 hown8 hg8 hg9 hcap8 hgrow hat8
            have HB8 := Lib.hid (HB7.out.grown hgrow hw7 (own_base HO7.out))
            have HO8 := Lib.hid hown8
            clear hown8 hgrow hat8 HO7 HB7
            go_wp2_with fail
            go_roundw
            case rel => exact ⟨1, Nat.le_refl _, by go_num, HO8, HB8⟩
            case measure => simp [intOf]
          · obtain ⟨q9, c9, rfl, hq9⟩ := own_slice HO.out
            obtain ⟨g9, rfl, hg91, hg92⟩ : ∃ g, q9 = some ⟨g, 0, none⟩ ∧ B6 ≤ g ∧ g < wr.heap.size := by
              rcases hq9 with h | h
              · omega
              · exact h
            have hsrc : wr.cell? ⟨g9, 0, none⟩ = some (.int .i64 x) := by have := HO.out.cells (g := g9) rfl 0 (.int .i64 x) rfl; rwa [add_plain] at this
            have hbq : Below w6.heap.size w6 wr := by rw [← HBE6.out]; exact HB.out
            have HS7 := Lib.hid (HS6.out.below hbq)
            have HC7 := Lib.hid (HC6.out.trans (Ch.of_below (X := fun i => i = N) hbq (Nat.le_refl _)))
            obtain ⟨qr, cr, hrq, -⟩ := own_slice HS7.out.exs
            obtain ⟨nn, hnn⟩ : ∃ nn, nn = s.exs.length := ⟨_, rfl⟩
            have hnn100 : nn ≤ 1000000 := by
              have := HKL.out
              rw [hnn]; exact this.2
            have HNN := Lib.hid hnn
            have HOR := Lib.hid HS7.out.exs
            rw [← hnn] at HOR hrq
            have hc20 : wr.cell? ⟨N, 21, none⟩ = some (.slice qr nn cr) := (HS7.out.row.cell (i := 21) (by omega)).trans (by rw [← hrq]; rfl)
            have HRQ := Lib.hid hrq
            have hle := HS7.out.le
            clear hbq hrq hq9 y0' hnn
            go_wp2_with (at_builtin; refine app_src Bs rfl _ _ 26 2 (.int .i64 0) 1 8 rfl Tryz.underlying26 info2 rfl (by decide) (by decide) (.slice qr nn cr) nn (intVs s.exs) [.int .i64 x] g9 c9 (by rfl) (by rfl) rfl (fun j u hu => by cases j with | zero => (simp at hu; subst hu; rw [add_plain]; exact hsrc) | succ j => simp at hu) (by simp [Value.oneCell']) (by rw [← HRQ.out]; exact HOR.out) hle (by omega) ?_)
            intro g8 cap8 w8 hown8 hg8 hg9 hgrow hat8
            rw [← HRQ.out] at hgrow hat8
            have HAD := Lib.hid (HS7.out.addX (cap := cap8) HNN.out hown8 hgrow hat8)
            have hNn : ¬ some N = (ex).ownBlock := fun e => by have := own_base HS7.out.exs N e.symm; have := HS7.out.lt; omega
            have hr8 := HS7.out.row.of_block (hgrow.block N HS7.out.row.lt hNn)
            have hold := hr8.cell (i := 21) (by omega)
            have hfz := hr8.frozen 21
            have HC8 := Lib.hid (HC7.out.grow3 (X' := fun i => N + 1 ≤ i) (Ch.of_grown hgrow (fun i e => by have := own_base HS7.out.exs i e; omega)) (fun i hi => .inr (Nat.le_trans hzN2 hi)))
            clear hown8 hgrow hat8 hsrc hc20 z0' hr8 hNn
            go_wp2_with fail
            go_roundw
            case rel =>
              refine ⟨k + 1, Bs, b, f, rd, .slice (some ⟨g8, 0, none⟩) (nn + 1) cap8, by omega, by go_num, by rw [HTK.out]; rfl, Lib.hid ?_, hNB, Lib.hid (HC8.out.trans (.set rfl))⟩
              rw [HTK.out]
              exact HAD.out
            case measure => simp [intOf]; omega
    · obtain rfl : k = m := by omega
      have hT : its.take k = its := List.take_of_length_le (by have := HM.out; have := HAL.out; omega)
      rw [hT] at HS
      have hz0 := HZ0.out.of_block (HCH.out.block N0 HZ0.out.lt (by show ¬ N0 = N; omega))
      have hall := rowA_all fun i hi => toldF_one (putI its).start b f HS.out.rule.one (own_oneC HS.out.rds) (own_oneC HS.out.exs) i hi
      obtain ⟨d28, hud⟩ := Go.Proofs.YtnlpjncljbaapaaGreatDoor.u28
      have HBr := Lib.hid (show Below N0 w wr from HCH.out.below HB1.out (fun i hi => by omega) (by omega))
      have hN0r : N0 ≤ wr.heap.size := by omega
      go_wp2_with (first
        | ((with_reducible refine gd_load 28 ?_); refine wpl_load_row0 rfl 28 _ rfl N 28 22 22 _ rfl HS.out.row (by decide) d28 hud.1 hud.2 info28s ?_)
        | ((with_reducible refine gd_store 28 ?_); refine wpl_store_row rfl 28 _ _ rfl N0 0 28 22 _ (rowA 22 (toldF (putI its).start b f rd ex)) rfl rfl hz0 (by simp [rowA_size]) (by rw [info28s, rowA_size]) hall ?_; intro w9 hR9 hg9))
      refine bodyPost_ret (results_row2 rfl _ N0 28 22 _ (by rfl) hR9 d28 hud.1 hud.2 info28s) rfl ?_
      rw [updR_all]
      have hch : Ch (fun i => i = N0) wr w9 := Ch.of_grown hg9 (fun i e => by injection e with e; exact e.symm)
      have hl := HS.out.lt
      refine ⟨N, Bs, b, f, rd, ex, rfl, HS.out.rule.ch hch HS.out.le (fun i hi => .inl (by omega)), own_ch HS.out.rds hch (fun i hi e => by have := own_base HS.out.rds i hi; omega), own_ch HS.out.exs hch (fun i hi e => by have := own_base HS.out.exs i hi; omega), Nat.le_trans HS.out.le hch.size, ?_⟩
      have := hch.below HBr.out (fun i hi => Nat.le_of_eq hi.symm) hN0r
      rw [HNE.out] at this
      exact this
end Go.Proofs.YtnlpjncljbaapaaGreatDoor
