/- From the laid variables to what the walks ask; the witness; the frame of a law's row. -/
import Derived.Test.YtnlpjncljbaapaaGreatDoorTie
import Derived.Test.YtnlpjncljbaapaaGreatDoorCards
import Derived.Test.YtnlpjncljbaapaaGreatDoorOp
import Derived.Lay
import Derived.LaidMore
import Derived.SevenTiedAt
import Derived.Stop.Joined
import Derived.ProofKit
import Derived.Carry
namespace Go.Proofs.YtnlpjncljbaapaaGreatDoor
open Go Go.ChangeShapes Go.WideShapes Go.ChangeAt Go.RowKit Go.Joins

theorem own : ownKnob Tryz.prog.godebug = none := by kernel_rfl
theorem laidOut : laidOutB Tryz.prog = true := by kernel_rfl
abbrev laidV : List (String × DataW Unit) := Rows.fnSetBadRow.laid
set_option maxRecDepth 100000 in
theorem laid_plain (W : World) : laidMetH Tryz.prog laidV W = laidMet Tryz.prog laidV W := by rw [MakeChecks.laidMetH_plain _ _ _ (by kernel_rfl)]
set_option maxRecDepth 100000 in
theorem laid_met (os : Os) (args : Array Value) : laidMetH Tryz.prog laidV ((World.laidAll Tryz.prog os laidV).forCall (fun _ _ => 0) ⟨#[], args, []⟩).memory := by
  rw [laid_plain]
  exact laidMet_laidAll _ (by kernel_rfl) (by kernel_rfl)
theorem laid_at {P : Program} {W : World} : ∀ {l : List (String × DataW Unit)} {ps : List MemPlace}, DataW.LaidVars P W l ps → ∀ x ∈ l, ∃ g t cs fuel p, P.globalNamed x.1 = some g ∧ (P.globals[g]?).map (·.type) = some t ∧ W.var? P x.1 = some cs ∧
    DataW.trod (fun _ => ()) P W 0 (fun _ => true) false fuel t cs.toList = some (x.2, p)
  | [], _, _, x, hx => by cases hx
  | (n, d) :: r, ps, h, x, hx => by
    obtain ⟨g, t, cs, fuel, p, q, h1, h2, h3, h4, h5, _⟩ := h
    rcases List.mem_cons.1 hx with rfl | hx
    · exact ⟨g, t, cs, fuel, p, h1, h2, h3, h4⟩
    · exact laid_at h5 x hx
theorem var_lt {P : Program} {W : World} {n : String} {g : Nat} {cs : Array Value} (hg : P.globalNamed n = some g) (h : W.var? P n = some cs) : g < W.heap.size := by
  unfold World.var? at h
  rw [hg] at h
  simp only [Option.bind_some] at h
  rcases Nat.lt_or_ge g W.heap.size with h' | h'
  · exact h'
  · rw [Array.getElem?_eq_none h'] at h; cases h
theorem day_of {W : World} {ps : List MemPlace} (h : DataW.LaidVars Tryz.prog W laidV ps) (n : String) (g : Nat) (k : Int) (hx : (n, (.agg [.lit (.int .i64 k), .lit (.int .i64 0)] : DataW Unit)) ∈ laidV) (hg : Tryz.prog.globalNamed n = some g) (ht : (Tryz.prog.globals[g]?).map (·.type) = some 119) :
    W.cell? ⟨g, 0, none⟩ = some (.int .i64 k) ∧ W.cell? ⟨g, 1, none⟩ = some (.int .i64 0) := by
  obtain ⟨g', t', cs, fuel, p, h1, h2, h3, h4⟩ := laid_at h _ hx
  obtain rfl := Option.some.inj (hg.symm.trans h1)
  obtain rfl := Option.some.inj (ht.symm.trans h2)
  obtain ⟨y0, y1, m, e, _, h5, h6⟩ := trod_struct2 Tryz.underlying119 h4
  simp only [cells3] at h5 h6
  obtain ⟨z0, e0, d0, _⟩ := DataW.trod_int Tryz.underlying3 h5
  obtain ⟨z1, e1, d1, _⟩ := DataW.trod_int Tryz.underlying3 h6
  subst d0; subst d1
  simp only [Prod.mk.injEq, DataW.agg.injEq, List.cons.injEq, DataW.lit.injEq, Lit.int.injEq, and_true, true_and] at e
  obtain ⟨⟨rfl, rfl⟩, _⟩ := e
  have c0 := at_of e0
  have c1 := at_of e1
  rw [Array.getElem?_toList] at c0 c1
  exact ⟨(World.var?_cell hg h3 0).trans c0, (World.var?_cell hg h3 1).trans c1⟩
theorem tab_of {W : World} {ps : List MemPlace} (h : DataW.LaidVars Tryz.prog W laidV ps) {k : IntKind} {zs : List Int} {n : String} {g N : Nat} {t e : TypeId} (hx : (n, Lib.tabData k zs) ∈ laidV) (hg : Tryz.prog.globalNamed n = some g) (hty : (Tryz.prog.globals[g]?).map (·.type) = some t) (ht : Tryz.prog.underlying t = some (.array N e)) (he : Tryz.prog.underlying e = some (.int k)) (hce : Tryz.prog.cellsOf e = 1) (hct : Tryz.prog.cellsOf t = N) :
    Lib.TabIs Tryz.prog W n k zs := by
  obtain ⟨g', t', cs, fuel, p, h1, h2, h3, h4⟩ := laid_at h _ hx
  obtain rfl := Option.some.inj (hg.symm.trans h1)
  obtain rfl := Option.some.inj (hty.symm.trans h2)
  unfold Lib.TabIs
  rw [h3, ← Lib.cells_of_tab ht he hce hct h4]
theorem mem_at {α : Type} {l : List α} (i : Nat) {x : α} (h : l[i]? = some x) : x ∈ l := List.mem_of_getElem? h
set_option maxRecDepth 100000 in
theorem glob_of {W : World} (h : laidMetH Tryz.prog laidV W) : Glob W := by
  rw [laid_plain] at h
  obtain ⟨ps, h, _⟩ := h
  refine ⟨?_, ?_, ?_, ?_⟩
  · obtain ⟨g', t', cs, fuel, p, h1, h2, h3, h4⟩ := laid_at h ("math/bits.deBruijn64tab", Rows.laid_math_bits_deBruijn64tab) (mem_at 1 rfl)
    have := var_lt h1 h3
    rw [show Tryz.prog.globalNamed "math/bits.deBruijn64tab" = some 17 by kernel_rfl] at h1
    have := Option.some.inj h1
    omega
  · exact tab_of h (mem_at 2 rfl) gPow (show (Tryz.prog.globals[9]?).map (·.type) = some 302 by kernel_rfl) Tryz.underlying302 Tryz.underlying208 (by kernel_rfl) (by kernel_rfl)
  · exact tab_of h (mem_at 7 rfl) gSpc (show (Tryz.prog.globals[0]?).map (·.type) = some 174 by kernel_rfl) Tryz.underlying174 Tryz.underlying5 (by kernel_rfl) (by kernel_rfl)
  · intro g k hg
    simp only [List.mem_cons, Prod.mk.injEq, List.not_mem_nil, or_false] at hg
    rcases hg with ⟨rfl, rfl⟩ | ⟨rfl, rfl⟩ | ⟨rfl, rfl⟩ | ⟨rfl, rfl⟩ | ⟨rfl, rfl⟩ | ⟨rfl, rfl⟩ | ⟨rfl, rfl⟩
    · exact day_of h "pub-hebdomad/pub/rrule.MO" 1 0 (mem_at 8 rfl) (by kernel_rfl) (by kernel_rfl)
    · exact day_of h "pub-hebdomad/pub/rrule.TU" 3 1 (mem_at 9 rfl) (by kernel_rfl) (by kernel_rfl)
    · exact day_of h "pub-hebdomad/pub/rrule.WE" 4 2 (mem_at 10 rfl) (by kernel_rfl) (by kernel_rfl)
    · exact day_of h "pub-hebdomad/pub/rrule.TH" 5 3 (mem_at 11 rfl) (by kernel_rfl) (by kernel_rfl)
    · exact day_of h "pub-hebdomad/pub/rrule.FR" 6 4 (mem_at 12 rfl) (by kernel_rfl) (by kernel_rfl)
    · exact day_of h "pub-hebdomad/pub/rrule.SA" 7 5 (mem_at 13 rfl) (by kernel_rfl) (by kernel_rfl)
    · exact day_of h "pub-hebdomad/pub/rrule.SU" 8 6 (mem_at 14 rfl) (by kernel_rfl) (by kernel_rfl)
/-- A set of nothing. -/
def specSet0 : Value := .agg #[.int .i64 0, .bool false, .int .u8 0, .bool false, .int .i64 0, .int .i64 0, .int .i64 0, .int .i64 0, .bool false, .int .i64 0, .slice none 0 0, .slice none 0 0, .slice none 0 0, .slice none 0 0, .slice none 0 0, .slice none 0 0, .slice none 0 0, .slice none 0 0, .slice none 0 0, .slice none 0 0, .slice none 0 0, .slice none 0 0]
end Go.Proofs.YtnlpjncljbaapaaGreatDoor
