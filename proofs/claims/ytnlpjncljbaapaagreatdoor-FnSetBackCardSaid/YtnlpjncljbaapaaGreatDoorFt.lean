/- The sizes of a set that came in, walked. -/
import Derived.Test.YtnlpjncljbaapaaGreatDoorSv
namespace Go.Proofs.YtnlpjncljbaapaaGreatDoor
open Go.RowKit

theorem noB0 {P : Prop} {w w' : World} (h : Below w.heap.size w w') : GivesB P w (.returned (.bool false)) w' := ⟨⟨false, rfl, fun h => by cases h⟩, h⟩
def SmallN (n : Nat → Nat) : Prop := ∀ k, 8 ≤ k → k < 18 → n k ≤ 2147483647
set_option maxRecDepth 100000 in
set_option maxHeartbeats 4000000 in
theorem fits1_any (fr : Nat) (hs : Bool) (st iv wk ct : Int) (hu : Bool) (un : Int) (p : Nat → Option Addr) (n c : Nat → Nat) (w : World) :
    Calls Tryz.prog 27 #[.agg (sRuleC fr hs st iv wk ct hu un p n c)] w fun e w' => GivesB (SmallN n) w e w' := by
  have HB := Lib.hid (below_a1 (w := w) (o := .cells (sRuleC fr hs st iv wk ct hu un p n c) 25))
  have HR := Lib.hid (sRule_at fr hs st iv wk ct hu un p n c w)
  go_enter Tryz.func27, Tryz.ntmps27
  unfold sRuleC at *
  go_upto_region 1 with fail
  generalize hw1 : w.alloc (.cells #[_, _, _, _, _, _, _, _, _, _, _, _, _, _, _, _, _, _] 25) = w1 at *
  have hcell := Lib.hid fun i (hi : i < 18) => HR.out.cell (i := i) hi
  clear hw1 HR
  have x8 := hcell.out 8 (by omega)
  have x9 := hcell.out 9 (by omega)
  have x10 := hcell.out 10 (by omega)
  have x11 := hcell.out 11 (by omega)
  have x12 := hcell.out 12 (by omega)
  have x13 := hcell.out 13 (by omega)
  have x14 := hcell.out 14 (by omega)
  have x15 := hcell.out 15 (by omega)
  have x16 := hcell.out 16 (by omega)
  have x17 := hcell.out 17 (by omega)
  simp only [sRuleF, sRuleC, List.getElem?_toArray, List.getElem?_cons_succ, List.getElem?_cons_zero, Option.getD_some] at x8 x9 x10 x11 x12 x13 x14 x15 x16 x17
  go_wp2_with fail
  all_goals go_ret
  all_goals first
    | exact ⟨⟨false, rfl, fun h => by cases h⟩, HB.out⟩
    | exact ⟨⟨true, rfl, fun _ k h1 h2 => by
        have : k = 8 ∨ k = 9 ∨ k = 10 ∨ k = 11 ∨ k = 12 ∨ k = 13 ∨ k = 14 ∨ k = 15 ∨ k = 16 ∨ k = 17 := by omega
        rcases this with rfl | rfl | rfl | rfl | rfl | rfl | rfl | rfl | rfl | rfl <;> omega⟩, HB.out⟩
/-- A set of the specification as a value: its start, whether it has a rule, its rule, its dates. -/
def sSetC (t : Int) (hr : Bool) (fr : Nat) (hs : Bool) (st iv wk ct : Int) (hu : Bool) (un : Int) (p : Nat → Option Addr) (n c : Nat → Nat) (pr : Option Addr) (nr cr : Nat) (px : Option Addr) (nx cx : Nat) : Array Value :=
  #[.int .i64 t, .bool hr, .int .u8 fr, .bool hs, .int .i64 st, .int .i64 iv, .int .i64 wk, .int .i64 ct, .bool hu, .int .i64 un, .slice (p 8) (n 8) (c 8), .slice (p 9) (n 9) (c 9), .slice (p 10) (n 10) (c 10), .slice (p 11) (n 11) (c 11), .slice (p 12) (n 12) (c 12), .slice (p 13) (n 13) (c 13), .slice (p 14) (n 14) (c 14), .slice (p 15) (n 15) (c 15), .slice (p 16) (n 16) (c 16), .slice (p 17) (n 17) (c 17), .slice pr nr cr, .slice px nx cx]
def sSetF (t : Int) (hr : Bool) (fr : Nat) (hs : Bool) (st iv wk ct : Int) (hu : Bool) (un : Int) (p : Nat → Option Addr) (n c : Nat → Nat) (pr : Option Addr) (nr cr : Nat) (px : Option Addr) (nx cx : Nat) (i : Nat) : Value := (sSetC t hr fr hs st iv wk ct hu un p n c pr nr cr px nx cx)[i]?.getD undef
theorem sSetF_row (t : Int) (hr : Bool) (fr : Nat) (hs : Bool) (st iv wk ct : Int) (hu : Bool) (un : Int) (p : Nat → Option Addr) (n c : Nat → Nat) (pr : Option Addr) (nr cr : Nat) (px : Option Addr) (nx cx : Nat) : rowA 22 (sSetF t hr fr hs st iv wk ct hu un p n c pr nr cr px nx cx) = sSetC t hr fr hs st iv wk ct hu un p n c pr nr cr px nx cx := rfl
theorem sSetF_rule (t : Int) (hr : Bool) (fr : Nat) (hs : Bool) (st iv wk ct : Int) (hu : Bool) (un : Int) (p : Nat → Option Addr) (n c : Nat → Nat) (pr : Option Addr) (nr cr : Nat) (px : Option Addr) (nx cx : Nat) : rowA 18 (fun i => sSetF t hr fr hs st iv wk ct hu un p n c pr nr cr px nx cx (2 + i)) = sRuleC fr hs st iv wk ct hu un p n c := rfl
theorem sSet_at (t : Int) (hr : Bool) (fr : Nat) (hs : Bool) (st iv wk ct : Int) (hu : Bool) (un : Int) (p : Nat → Option Addr) (n c : Nat → Nat) (pr : Option Addr) (nr cr : Nat) (px : Option Addr) (nx cx : Nat) (w : World) :
    (w.alloc (.cells (sSetC t hr fr hs st iv wk ct hu un p n c pr nr cr px nx cx) 28)).rowIs w.heap.size 28 22 (sSetF t hr fr hs st iv wk ct hu un p n c pr nr cr px nx cx) :=
  World.rowIs_alloc w (sSetC t hr fr hs st iv wk ct hu un p n c pr nr cr px nx cx) 28 _ fun i hi => by
    have h : (sSetC t hr fr hs st iv wk ct hu un p n c pr nr cr px nx cx)[i]? = some ((sSetC t hr fr hs st iv wk ct hu un p n c pr nr cr px nx cx)[i]) := Array.getElem?_eq_getElem hi
    simp only [sSetF, h, Option.getD_some]
theorem u28 : ∃ d, Tryz.prog.underlying 28 = some d ∧ d.isRow = true := ⟨_, Tryz.underlying28, rfl⟩
theorem info28s : (Tryz.prog.info? 28).map (·.size) = some 22 := by kernel_rfl
set_option maxRecDepth 100000 in
set_option maxHeartbeats 4000000 in
theorem fits2_any (t : Int) (hr : Bool) (fr : Nat) (hs : Bool) (st iv wk ct : Int) (hu : Bool) (un : Int) (p : Nat → Option Addr) (n c : Nat → Nat) (pr : Option Addr) (nr cr : Nat) (px : Option Addr) (nx cx : Nat) (w : World) :
    Calls Tryz.prog 9 #[.agg (sSetC t hr fr hs st iv wk ct hu un p n c pr nr cr px nx cx)] w fun e w' => GivesB (SmallN n ∧ nr ≤ 2147483647 ∧ nx ≤ 2147483647) w e w' := by
  have HB := Lib.hid (below_a1 (w := w) (o := .cells (sSetC t hr fr hs st iv wk ct hu un p n c pr nr cr px nx cx) 28))
  have HR := Lib.hid (sSet_at t hr fr hs st iv wk ct hu un p n c pr nr cr px nx cx w)
  have HRC := Lib.hid (sSetF_rule t hr fr hs st iv wk ct hu un p n c pr nr cr px nx cx)
  have HF := Lib.hid fun W : World => fits1_any fr hs st iv wk ct hu un p n c W
  obtain ⟨d2, hud⟩ := Go.Proofs.YtnlpjncljbaapaaGreatDoor.u25
  have HU := Lib.hid hud
  clear hud
  go_enter Tryz.func9, Tryz.ntmps9
  unfold sSetC at *
  unfold sRuleC at *
  go_upto_region 1 with fail
  generalize hw1 : w.alloc (.cells #[_, _, _, _, _, _, _, _, _, _, _, _, _, _, _, _, _, _, _, _, _, _] 28) = w1 at *
  clear hw1
  go_wp2_with (with_reducible refine gd_load 25 ?_; refine wpl_load_row rfl 25 _ rfl w.heap.size 2 28 22 18 _ rfl HR.out (by decide) d2 HU.out.1 HU.out.2 info25s ?_; rw [HRC.out])
  refine (HF.out _).mono ?_; rintro e w2 ⟨⟨b, rfl, hf⟩, hb⟩
  have HB2 := Lib.hid (HB.out.trans (hb.mono HB.out.size))
  have hR2 := below_row HR.out hb HR.out.lt
  have x20 := hR2.cell (i := 20) (by decide)
  have x21 := hR2.cell (i := 21) (by decide)
  simp only [sSetF, sSetC, List.getElem?_toArray, List.getElem?_cons_succ, List.getElem?_cons_zero, Option.getD_some] at x20 x21
  have HFF := Lib.hid hf
  clear hb hR2 HR HRC HF hf
  cases b with
  | false =>
    go_wp2_with fail
    go_ret
    exact noB0 HB2.out
  | true =>
    go_wp2_with fail
    all_goals go_ret
    all_goals first
      | exact noB0 HB2.out
      | exact ⟨⟨true, rfl, fun _ => ⟨HFF.out (by trivial), by omega, by omega⟩⟩, HB2.out⟩
end Go.Proofs.YtnlpjncljbaapaaGreatDoor
