/- laws.textSet, walked. -/
import Derived.Test.YtnlpjncljbaapaaGreatDoorSv
import Derived.Laws.AppendOwnNone
import Derived.Test.YtnlpjncljbaapaaGreatDoorCl
import Derived.Test.YtnlpjncljbaapaaGreatDoorLs
namespace Go.Proofs.YtnlpjncljbaapaaGreatDoor
open Go.RowKit

theorem noB0 {P : Prop} {w w' : World} (h : Below w.heap.size w w') : GivesB P w (.returned (.bool false)) w' := ⟨⟨false, rfl, fun h => by cases h⟩, h⟩
def SmallN (n : Nat → Nat) : Prop := ∀ k, 8 ≤ k → k < 18 → n k ≤ 2147483647
set_option maxRecDepth 100000 in
set_option maxHeartbeats 4000000 in
theorem fits1_any (fr : Nat) (hs : Bool) (st iv wk ct : Int) (hu : Bool) (un : Int) (p : Nat → Option Addr) (n c : Nat → Nat) (w : World) :
    Calls Tryz.prog 27 #[.agg (sRuleC fr hs st iv wk ct hu un p n c)] w fun e w' => GivesB (SmallN n) w e w' := by
  have HB := Lib.hid (below_a1 (w := w) (o := .cells (sRuleC fr hs st iv wk ct hu un p n c) 25))
  have HR := Lib.hid (sRule_at fr hs st iv wk ct hu un p n c w)
  go_enter Tryz.func27, Tryz.ntmps27
  unfold sRuleC at *
  go_upto_region 1 with fail
  generalize hw1 : w.alloc (.cells #[_, _, _, _, _, _, _, _, _, _, _, _, _, _, _, _, _, _] 25) = w1 at *
  have hcell := Lib.hid fun i (hi : i < 18) => HR.out.cell (i := i) hi
  clear hw1 HR
  have x8 := hcell.out 8 (by omega)
  have x9 := hcell.out 9 (by omega)
  have x10 := hcell.out 10 (by omega)
  have x11 := hcell.out 11 (by omega)
  have x12 := hcell.out 12 (by omega)
  have x13 := hcell.out 13 (by omega)
  have x14 := hcell.out 14 (by omega)
  have x15 := hcell.out 15 (by omega)
  have x16 := hcell.out 16 (by omega)
  have x17 := hcell.out 17 (by omega)
  simp only [sRuleF, sRuleC, List.getElem?_toArray, List.getElem?_cons_succ, List.getElem?_cons_zero, Option.getD_some] at x8 x9 x10 x11 x12 x13 x14 x15 x16 x17
  go_wp2_with fail
  all_goals go_ret
  all_goals first
    | exact ⟨⟨false, rfl, fun h => by cases h⟩, HB.out⟩
    | exact ⟨⟨true, rfl, fun _ k h1 h2 => by
        have : k = 8 ∨ k = 9 ∨ k = 10 ∨ k = 11 ∨ k = 12 ∨ k = 13 ∨ k = 14 ∨ k = 15 ∨ k = 16 ∨ k = 17 := by omega
        rcases this with rfl | rfl | rfl | rfl | rfl | rfl | rfl | rfl | rfl | rfl <;> omega⟩, HB.out⟩
/-- A set of the specification as a value: its start, whether it has a rule, its rule, its dates. -/
def sSetC (t : Int) (hr : Bool) (fr : Nat) (hs : Bool) (st iv wk ct : Int) (hu : Bool) (un : Int) (p : Nat → Option Addr) (n c : Nat → Nat) (pr : Option Addr) (nr cr : Nat) (px : Option Addr) (nx cx : Nat) : Array Value :=
  #[.int .i64 t, .bool hr, .int .u8 fr, .bool hs, .int .i64 st, .int .i64 iv, .int .i64 wk, .int .i64 ct, .bool hu, .int .i64 un, .slice (p 8) (n 8) (c 8), .slice (p 9) (n 9) (c 9), .slice (p 10) (n 10) (c 10), .slice (p 11) (n 11) (c 11), .slice (p 12) (n 12) (c 12), .slice (p 13) (n 13) (c 13), .slice (p 14) (n 14) (c 14), .slice (p 15) (n 15) (c 15), .slice (p 16) (n 16) (c 16), .slice (p 17) (n 17) (c 17), .slice pr nr cr, .slice px nx cx]
def sSetF (t : Int) (hr : Bool) (fr : Nat) (hs : Bool) (st iv wk ct : Int) (hu : Bool) (un : Int) (p : Nat → Option Addr) (n c : Nat → Nat) (pr : Option Addr) (nr cr : Nat) (px : Option Addr) (nx cx : Nat) (i : Nat) : Value := (sSetC t hr fr hs st iv wk ct hu un p n c pr nr cr px nx cx)[i]?.getD undef
theorem sSetF_row (t : Int) (hr : Bool) (fr : Nat) (hs : Bool) (st iv wk ct : Int) (hu : Bool) (un : Int) (p : Nat → Option Addr) (n c : Nat → Nat) (pr : Option Addr) (nr cr : Nat) (px : Option Addr) (nx cx : Nat) : rowA 22 (sSetF t hr fr hs st iv wk ct hu un p n c pr nr cr px nx cx) = sSetC t hr fr hs st iv wk ct hu un p n c pr nr cr px nx cx := rfl
theorem sSetF_rule (t : Int) (hr : Bool) (fr : Nat) (hs : Bool) (st iv wk ct : Int) (hu : Bool) (un : Int) (p : Nat → Option Addr) (n c : Nat → Nat) (pr : Option Addr) (nr cr : Nat) (px : Option Addr) (nx cx : Nat) : rowA 18 (fun i => sSetF t hr fr hs st iv wk ct hu un p n c pr nr cr px nx cx (2 + i)) = sRuleC fr hs st iv wk ct hu un p n c := rfl
theorem sSet_at (t : Int) (hr : Bool) (fr : Nat) (hs : Bool) (st iv wk ct : Int) (hu : Bool) (un : Int) (p : Nat → Option Addr) (n c : Nat → Nat) (pr : Option Addr) (nr cr : Nat) (px : Option Addr) (nx cx : Nat) (w : World) :
    (w.alloc (.cells (sSetC t hr fr hs st iv wk ct hu un p n c pr nr cr px nx cx) 28)).rowIs w.heap.size 28 22 (sSetF t hr fr hs st iv wk ct hu un p n c pr nr cr px nx cx) :=
  World.rowIs_alloc w (sSetC t hr fr hs st iv wk ct hu un p n c pr nr cr px nx cx) 28 _ fun i hi => by
    have h : (sSetC t hr fr hs st iv wk ct hu un p n c pr nr cr px nx cx)[i]? = some ((sSetC t hr fr hs st iv wk ct hu un p n c pr nr cr px nx cx)[i]) := Array.getElem?_eq_getElem hi
    simp only [sSetF, h, Option.getD_some]
theorem u28 : ∃ d, Tryz.prog.underlying 28 = some d ∧ d.isRow = true := ⟨_, Tryz.underlying28, rfl⟩
theorem info28s : (Tryz.prog.info? 28).map (·.size) = some 22 := by kernel_rfl
set_option maxRecDepth 100000 in
set_option maxHeartbeats 4000000 in
theorem fits2_any (t : Int) (hr : Bool) (fr : Nat) (hs : Bool) (st iv wk ct : Int) (hu : Bool) (un : Int) (p : Nat → Option Addr) (n c : Nat → Nat) (pr : Option Addr) (nr cr : Nat) (px : Option Addr) (nx cx : Nat) (w : World) :
    Calls Tryz.prog 9 #[.agg (sSetC t hr fr hs st iv wk ct hu un p n c pr nr cr px nx cx)] w fun e w' => GivesB (SmallN n ∧ nr ≤ 2147483647 ∧ nx ≤ 2147483647) w e w' := by
  have HB := Lib.hid (below_a1 (w := w) (o := .cells (sSetC t hr fr hs st iv wk ct hu un p n c pr nr cr px nx cx) 28))
  have HR := Lib.hid (sSet_at t hr fr hs st iv wk ct hu un p n c pr nr cr px nx cx w)
  have HRC := Lib.hid (sSetF_rule t hr fr hs st iv wk ct hu un p n c pr nr cr px nx cx)
  have HF := Lib.hid fun W : World => fits1_any fr hs st iv wk ct hu un p n c W
  obtain ⟨d2, hud⟩ := Go.Proofs.YtnlpjncljbaapaaGreatDoor.u25
  have HU := Lib.hid hud
  clear hud
  go_enter Tryz.func9, Tryz.ntmps9
  unfold sSetC at *
  unfold sRuleC at *
  go_upto_region 1 with fail
  generalize hw1 : w.alloc (.cells #[_, _, _, _, _, _, _, _, _, _, _, _, _, _, _, _, _, _, _, _, _, _] 28) = w1 at *
  clear hw1
  go_wp2_with (with_reducible refine gd_load 25 ?_; refine wpl_load_row rfl 25 _ rfl w.heap.size 2 28 22 18 _ rfl HR.out (by decide) d2 HU.out.1 HU.out.2 info25s ?_; rw [HRC.out])
  refine (HF.out _).mono ?_; rintro e w2 ⟨⟨b, rfl, hf⟩, hb⟩
  have HB2 := Lib.hid (HB.out.trans (hb.mono HB.out.size))
  have hR2 := below_row HR.out hb HR.out.lt
  have x20 := hR2.cell (i := 20) (by decide)
  have x21 := hR2.cell (i := 21) (by decide)
  simp only [sSetF, sSetC, List.getElem?_toArray, List.getElem?_cons_succ, List.getElem?_cons_zero, Option.getD_some] at x20 x21
  have HFF := Lib.hid hf
  clear hb hR2 HR HRC HF hf
  cases b with
  | false =>
    go_wp2_with fail
    go_ret
    exact noB0 HB2.out
  | true =>
    go_wp2_with fail
    all_goals go_ret
    all_goals first
      | exact noB0 HB2.out
      | exact ⟨⟨true, rfl, fun _ => ⟨HFF.out (by trivial), by omega, by omega⟩⟩, HB2.out⟩
end Go.Proofs.YtnlpjncljbaapaaGreatDoor

namespace Go.Proofs.YtnlpjncljbaapaaGreatDoor
open Go.RowKit

def intVs (l : List Int) : List Value := l.map (Value.int .i64)
theorem clone_any (p : Option Addr) (n c : Nat) (l : List Int) (w : World) (hr : RowO w p n l) (hn : n ≤ 2147483647) :
    Calls Tryz.prog 30 #[.slice p n c] w fun e w' => ∃ v', e = .returned v' ∧ w'.ownsRow w.heap.size 2 1 v' n (intVs l) ∧ Below w.heap.size w w' := by
  obtain ⟨hnl, hc⟩ := hr
  cases p with
  | none =>
    have hl : l = [] := by
      cases l with
      | nil => rfl
      | cons a r => obtain ⟨g, o, e, _⟩ := hc 0 a rfl; cases e
    subst hl
    have hn0 : n = 0 := by simpa using hnl
    subst hn0
    exact (Tryz.slices_Clone_int_nil_f30 0 c w).mono fun e w' ⟨h1, h2⟩ => ⟨_, h1, by rw [h2]; exact own_nil _ _ _ _, by rw [h2]; exact .refl _ _⟩
  | some a =>
    by_cases hn0 : n = 0
    · subst hn0
      have hl : l = [] := by rw [← List.length_eq_zero_iff]; omega
      subst hl
      exact (Tryz.slices_Clone_int_zero_f30 a c w).mono fun e w' ⟨v, h1, h2, _, h3⟩ => ⟨v, h1, h2, h3⟩
    · have h0 : 0 < l.length := by omega
      obtain ⟨g, o, e, hg, _⟩ := hc 0 _ (List.getElem?_eq_getElem h0)
      injection e with e
      subst e
      refine (Tryz.slices_Clone_int_f30 g o n c l w (by omega) (by omega) (fun j hj => ?_)).mono fun e w' ⟨v, h1, h2, _, h3⟩ => ⟨v, h1, ?_, h3⟩
      · obtain ⟨g', o', e, _, hc'⟩ := hc j _ (List.getElem?_eq_getElem hj)
        injection e with e
        injection e with e1 e2 e3
        subst e1; subst e2
        rw [hc']
        simp [List.getD, hj]
      · rw [hnl, List.take_length] at h2
        rw [hnl]
        exact h2
theorem step_append_row {P : Program} {w : World} {ops : Array Oper} {o : Oper} {a : Act} {K : Act → World → Prop} {Q : Exit → Act → World → Prop} {E : Prop} (hgd : o.guard = none) (s x : Operand) (t : TypeId)
    (ho : o.op = .call { callee := .builtin .append, args := #[s, x], argTypes := #[t, t] })
    (base : Nat) (e : TypeId) (i : TypeInfo) (z : Value) (size bytes : Nat) (ht : P.underlying t = some (.slice e)) (hi : P.info? e = some i) (hz : i.zero = some z)
    (hsize : i.size = size) (hby : i.bytes = bytes) (hzs : z.cells.size = size) (hsz : 0 < size)
    (v : Value) (n : Nat) (xs : List Value) (hs : a.eval s = v) (hown : w.ownsRow base e size v n xs)
    (px : Option Addr) (m c : Nat) (news : List Value) (hx : a.eval x = .slice px m c) (hnil : px = none → m = 0 ∧ c = 0) (hl : news.length = m * size) (hnews : ∀ ad, px = some ad → ∀ j u, news[j]? = some u → w.cell? (ad.add j) = some u) (h1 : ∀ u ∈ news, u.oneCell' = true)
    (h63 : n + m ≤ maxLen) (hbytes : (n + m) * bytes ≤ 140737488355328) (hbase : base ≤ w.heap.size)
    (h : ∀ v' w', w'.ownsRow base e size v' (n + m) (xs ++ news) → w.grownBy w' v.ownBlock → K (a.put o.dst v') w') :
    if Region.wanted o (yielded ops a.tmps) = true then Oper.wp P o a w K Q else E := by
  have hw : Region.wanted o (yielded ops a.tmps) = true := by simp [Region.wanted, hgd]
  rw [if_pos hw]
  cases px with
  | none =>
    obtain ⟨rfl, rfl⟩ := hnil rfl
    have hrun := run_append_owned_none (P := P) (w := w) base t o.type e i size ht hi v n xs hown
    have hn : news = [] := List.length_eq_zero_iff.1 (by rw [hl, Nat.zero_mul])
    subst hn
    unfold Oper.wp
    simp [execOp, ho, resolve, invoke, builtin, hs, hx, hrun, Result.andThen]
    exact h v w (by simpa using hown) (World.grownBy.refl _ _)
  | some ad =>
    obtain ⟨v', w', hr, h2, h3, _⟩ := run_append_own (P := P) (w := w) base t o.type e i z size bytes ht hi hz hsize hby hzs hsz v n xs hown ad m c news hl (hnews ad rfl) h1 h63 hbytes hbase
    unfold Oper.wp execOp
    simp only [ho, resolve, invoke, builtin, Sem.run_bind, Sem.run_pure, Result.andThen_ok, List.map_toArray, List.map_cons, List.map_nil, hs, hx, hr]
    exact h v' w' h2 h3
theorem results_row2 {P : Program} {w : World} {fn : Func} {t u : Tmp} {ty : TypeId} (h : fn.results = #[.cell t ty, .tmp u]) (tmps : Array Value) (b e N : Nat) (f : Nat → Value) (ht : tmps.getD t undef = .pointer (some ⟨b, 0, none⟩)) (hr : w.rowIs b e N f)
    (d : TypeDesc) (hu : P.underlying ty = some d) (hd : d.isRow = true) (hi : (P.info? ty).map (·.size) = some N) : (results fn tmps).run P w = .ok (.tuple #[.agg (rowA N f), tmps.getD u undef]) w := by
  have hl := run_loadVar_mid (P := P) w b 0 ty _ d (rowIs_range hr 0 N (by omega)) hu hd (by rw [hi]; simp)
  simp only [Nat.zero_add] at hl
  have ha : (asAddr (tmps.getD t undef)).run P w = .ok ⟨b, 0, none⟩ w := by rw [ht]; rfl
  have hr2 : (results fn tmps).run P w = ((asAddr (tmps.getD t undef)).run P w).andThen fun a w₁ => ((loadVar ty a).run P w₁).andThen fun v w₂ => .ok (.tuple #[v, tmps.getD u undef]) w₂ := by
    simp only [results, h]
    simp [Sem.run_bind, Result.andThen]
  rw [hr2, ha]
  simp only [Result.andThen_ok, hl]
  rfl
theorem row_grown {w w' : World} {b t N : Nat} {f : Nat → Value} {row : Option Nat} (h : w.rowIs b t N f) (hg : w.grownBy w' row) (hne : row ≠ some b) : w'.rowIs b t N f := h.of_block (hg.block b h.lt (fun e => hne e.symm))
theorem own_slice {w : World} {base : Nat} {e : TypeId} {size n : Nat} {v : Value} {xs : List Value} (h : w.ownsRow base e size v n xs) : ∃ q c, v = .slice q n c ∧ (n = 0 ∨ ∃ g, q = some ⟨g, 0, none⟩ ∧ base ≤ g ∧ g < w.heap.size) := by
  rcases h.2 with ⟨h1, h2⟩ | ⟨g, cap, cur, h1, hb, hh, _⟩
  · subst h2; exact ⟨_, _, h1, .inl rfl⟩
  · exact ⟨_, _, h1, .inr ⟨g, rfl, hb, (Array.getElem?_eq_some_iff.1 hh).1⟩⟩
end Go.Proofs.YtnlpjncljbaapaaGreatDoor

namespace Go.Proofs.YtnlpjncljbaapaaGreatDoor
open Go.RowKit

theorem joinC_take (c : UInt8) {xs : List (List UInt8)} {k : Nat} {x : List UInt8} (h : xs[k]? = some x) (hk : 0 < k) : joinC c (xs.take (k + 1)) = joinC c (xs.take k) ++ c :: x := by
  have := map_take (fun y => y) h
  simp only [List.map_id'] at this
  rw [this, joinC_snoc, if_neg (by have := take_ne (fun y => y) h hk; simpa using this)]
theorem joinC_take0 (c : UInt8) {xs : List (List UInt8)} {x : List UInt8} (h : xs[0]? = some x) : joinC c (xs.take 1) = x := by
  cases xs with
  | nil => simp at h
  | cons y r => simp at h; subst h; rfl
end Go.Proofs.YtnlpjncljbaapaaGreatDoor

namespace Go.Proofs.YtnlpjncljbaapaaGreatDoor
open Go.RowKit

def dtL (t : Int) : List UInt8 := [68, 84, 83, 84, 65, 82, 84, 58] ++ dateL t
def rrL (tx : List UInt8) : List UInt8 := [82, 82, 85, 76, 69, 58] ++ tx
def rdL (t : Int) : List UInt8 := [82, 68, 65, 84, 69, 58] ++ dateL t
def exL (t : Int) : List UInt8 := [69, 88, 68, 65, 84, 69, 58] ++ dateL t
/-- New texts in a row of the call's own. -/
def GivesOwn (xs : List (List UInt8)) (w : World) (e : Ending) (w' : World) : Prop :=
  ∃ B v m, e = .returned v ∧ w.heap.size ≤ B ∧ w'.ownsRow B 9 1 v m (strVs xs) ∧ xs.length = m ∧ Below w.heap.size w w'
def DateOk (l : List Int) : Prop := ∀ x ∈ l, 0 ≤ x ∧ x < 315537897600
end Go.Proofs.YtnlpjncljbaapaaGreatDoor

namespace Go.Proofs.YtnlpjncljbaapaaGreatDoor
open Go.RowKit

/-- What textSet says of a set, and how it hands it back. -/
def TextSays (t : Int) (hr : Bool) (fr : Nat) (_hs : Bool) (_st iv wk ct : Int) (hu : Bool) (un : Int) (p : Nat → Option Addr) (n c : Nat → Nat) (pr : Option Addr) (nr cr : Nat) (px : Option Addr) (nx cx : Nat) (l : Nat → List Int) (dl : List (Int × Int)) (rds exs : List Int) (f : Nat → Value) : Prop :=
  (31536000 ≤ t ∧ t < 284012524800) ∧ nr ≤ 12 ∧ nx ≤ 12 ∧ (∀ x ∈ rds ++ exs, inSpan x = true) ∧
  (hr = true → CleanOk fr true t iv wk ct hu un l dl ∧ (hu = true → un ≠ 0) ∧ ∀ i, i < 22 → f i = sSetF t true fr false 0 iv wk ct hu (if hu then un else 0) p n c pr nr cr px nx cx i) ∧
  (hr = false → ∀ i, i < 22 → f i = sSetF t false 0 false 0 0 0 0 false 0 (fun _ => none) (fun _ => 0) (fun _ => 0) pr nr cr px nx cx i)
def GivesText (S : (Nat → Value) → Prop) (w : World) (e : Ending) (w' : World) : Prop :=
  ∃ f b, e = .returned (.tuple #[.agg (rowA 22 f), .bool b]) ∧ (∀ i, i < 22 → (f i).oneCell' = true) ∧ (b = true → S f) ∧ Below w.heap.size w w'
theorem sSetF_one (t : Int) (hr : Bool) (fr : Nat) (hs : Bool) (st iv wk ct : Int) (hu : Bool) (un : Int) (p : Nat → Option Addr) (n c : Nat → Nat) (pr : Option Addr) (nr cr : Nat) (px : Option Addr) (nx cx : Nat) (i : Nat) (hi : i < 22) : (sSetF t hr fr hs st iv wk ct hu un p n c pr nr cr px nx cx i).oneCell' = true := by
  match i, hi with
  | 0, _ => rfl
  | 1, _ => rfl
  | 2, _ => rfl
  | 3, _ => rfl
  | 4, _ => rfl
  | 5, _ => rfl
  | 6, _ => rfl
  | 7, _ => rfl
  | 8, _ => rfl
  | 9, _ => rfl
  | 10, _ => rfl
  | 11, _ => rfl
  | 12, _ => rfl
  | 13, _ => rfl
  | 14, _ => rfl
  | 15, _ => rfl
  | 16, _ => rfl
  | 17, _ => rfl
  | 18, _ => rfl
  | 19, _ => rfl
  | 20, _ => rfl
  | 21, _ => rfl
  | i + 22, h => exact absurd h (by omega)
theorem news_row {w : World} {px : Option Addr} {nx : Nat} {exs : List Int} (h : RowO w px nx exs) : ∀ ad, px = some ad → ∀ j u, (intVs exs)[j]? = some u → w.cell? (ad.add j) = some u := by
  intro ad e j u hu
  simp only [intVs, List.getElem?_map, Option.map_eq_some_iff] at hu
  obtain ⟨x, hx, rfl⟩ := hu
  obtain ⟨g, o, e2, _, hc⟩ := h.2 j x hx
  rw [e] at e2
  injection e2 with e2
  subst e2
  rw [add_off]
  exact hc
theorem nil_row {w : World} {px : Option Addr} {nx : Nat} {exs : List Int} (h : RowO w px nx exs) (e : px = none) : nx = 0 := by
  have h1 := h.1
  cases exs with
  | nil => exact h1
  | cons a r => obtain ⟨g, o, e2, _⟩ := h.2 0 a rfl; rw [e] at e2; cases e2
theorem spanB {t : Int} (h : inSpan t = true) : 31536000 ≤ t ∧ t < 284012524800 := by
  unfold inSpan at h
  simp only [Bool.and_eq_true, decide_eq_true_eq] at h
  exact h
theorem zeroRow (t : Int) (fr : Nat) (hs : Bool) (st iv wk ct : Int) (hu : Bool) (un : Int) (p : Nat → Option Addr) (n c : Nat → Nat) (pr : Option Addr) (nr cr : Nat) (px : Option Addr) (nx cx : Nat) (i : Nat) (hi : i < 22) : updR (sSetF t false fr hs st iv wk ct hu un p n c pr nr cr px nx cx) 2 (sRuleC 0 false 0 0 0 0 false 0 (fun _ => none) (fun _ => 0) (fun _ => 0)) i = sSetF t false 0 false 0 0 0 0 false 0 (fun _ => none) (fun _ => 0) (fun _ => 0) pr nr cr px nx cx i := by
  match i, hi with
  | 0, _ => rfl
  | 1, _ => rfl
  | 2, _ => rfl
  | 3, _ => rfl
  | 4, _ => rfl
  | 5, _ => rfl
  | 6, _ => rfl
  | 7, _ => rfl
  | 8, _ => rfl
  | 9, _ => rfl
  | 10, _ => rfl
  | 11, _ => rfl
  | 12, _ => rfl
  | 13, _ => rfl
  | 14, _ => rfl
  | 15, _ => rfl
  | 16, _ => rfl
  | 17, _ => rfl
  | 18, _ => rfl
  | 19, _ => rfl
  | 20, _ => rfl
  | 21, _ => rfl
  | i + 22, h => exact absurd h (by omega)
theorem zr_one : (sRuleC 0 false 0 0 0 0 false 0 (fun _ => none) (fun _ => 0) (fun _ => 0)).all (·.oneCell') = true := by simp [sRuleC, Value.oneCell']
theorem sRuleC_one (fr : Nat) (hs : Bool) (st iv wk ct : Int) (hu : Bool) (un : Int) (p : Nat → Option Addr) (n c : Nat → Nat) : (sRuleC fr hs st iv wk ct hu un p n c).all (·.oneCell') = true := by simp [sRuleC, Value.oneCell']
theorem ruleSet (fr : Nat) (hs : Bool) (st iv wk ct : Int) (hu : Bool) (un : Int) (p : Nat → Option Addr) (n c : Nat → Nat) (t : Int) (i : Nat) (hi : i < 18) : (if i = 2 then Value.int .i64 t else if i = 1 then Value.bool true else sRuleF fr hs st iv wk ct hu un p n c i) = sRuleF fr true t iv wk ct hu un p n c i := by
  match i, hi with
  | 0, _ => rfl
  | 1, _ => rfl
  | 2, _ => rfl
  | 3, _ => rfl
  | 4, _ => rfl
  | 5, _ => rfl
  | 6, _ => rfl
  | 7, _ => rfl
  | 8, _ => rfl
  | 9, _ => rfl
  | 10, _ => rfl
  | 11, _ => rfl
  | 12, _ => rfl
  | 13, _ => rfl
  | 14, _ => rfl
  | 15, _ => rfl
  | 16, _ => rfl
  | 17, _ => rfl
  | i + 18, h => exact absurd h (by omega)
theorem ruleSet' (fr : Nat) (hs : Bool) (st iv wk ct : Int) (hu : Bool) (un : Int) (p : Nat → Option Addr) (n c : Nat → Nat) (t : Int) (i : Nat) (hi : i < 18) : (if i = 1 then Value.bool true else if i = 2 then Value.int .i64 t else sRuleF fr hs st iv wk ct hu un p n c i) = sRuleF fr true t iv wk ct hu un p n c i := by
  match i, hi with
  | 0, _ => rfl
  | 1, _ => rfl
  | 2, _ => rfl
  | 3, _ => rfl
  | 4, _ => rfl
  | 5, _ => rfl
  | 6, _ => rfl
  | 7, _ => rfl
  | 8, _ => rfl
  | 9, _ => rfl
  | 10, _ => rfl
  | 11, _ => rfl
  | 12, _ => rfl
  | 13, _ => rfl
  | 14, _ => rfl
  | 15, _ => rfl
  | 16, _ => rfl
  | 17, _ => rfl
  | i + 18, h => exact absurd h (by omega)
theorem setEnd0 (t : Int) (fr : Nat) (hs : Bool) (st iv wk ct : Int) (un : Int) (p : Nat → Option Addr) (n c : Nat → Nat) (pr : Option Addr) (nr cr : Nat) (px : Option Addr) (nx cx : Nat) (i : Nat) (hi : i < 22) : (if i = 9 then Value.int .i64 0 else if i = 4 then Value.int .i64 0 else if i = 3 then Value.bool false else sSetF t true fr hs st iv wk ct false un p n c pr nr cr px nx cx i) = sSetF t true fr false 0 iv wk ct false 0 p n c pr nr cr px nx cx i := by
  match i, hi with
  | 0, _ => rfl
  | 1, _ => rfl
  | 2, _ => rfl
  | 3, _ => rfl
  | 4, _ => rfl
  | 5, _ => rfl
  | 6, _ => rfl
  | 7, _ => rfl
  | 8, _ => rfl
  | 9, _ => rfl
  | 10, _ => rfl
  | 11, _ => rfl
  | 12, _ => rfl
  | 13, _ => rfl
  | 14, _ => rfl
  | 15, _ => rfl
  | 16, _ => rfl
  | 17, _ => rfl
  | 18, _ => rfl
  | 19, _ => rfl
  | 20, _ => rfl
  | 21, _ => rfl
  | i + 22, h => exact absurd h (by omega)
theorem setEnd1 (t : Int) (fr : Nat) (hs : Bool) (st iv wk ct : Int) (un : Int) (p : Nat → Option Addr) (n c : Nat → Nat) (pr : Option Addr) (nr cr : Nat) (px : Option Addr) (nx cx : Nat) (i : Nat) (hi : i < 22) : (if i = 4 then Value.int .i64 0 else if i = 3 then Value.bool false else sSetF t true fr hs st iv wk ct true un p n c pr nr cr px nx cx i) = sSetF t true fr false 0 iv wk ct true un p n c pr nr cr px nx cx i := by
  match i, hi with
  | 0, _ => rfl
  | 1, _ => rfl
  | 2, _ => rfl
  | 3, _ => rfl
  | 4, _ => rfl
  | 5, _ => rfl
  | 6, _ => rfl
  | 7, _ => rfl
  | 8, _ => rfl
  | 9, _ => rfl
  | 10, _ => rfl
  | 11, _ => rfl
  | 12, _ => rfl
  | 13, _ => rfl
  | 14, _ => rfl
  | 15, _ => rfl
  | 16, _ => rfl
  | 17, _ => rfl
  | 18, _ => rfl
  | 19, _ => rfl
  | 20, _ => rfl
  | 21, _ => rfl
  | i + 22, h => exact absurd h (by omega)
theorem textRet {S : (Nat → Value) → Prop} {w w' : World} {a : Act} {C : Nat} {b : Bool} {f g : Nat → Value} (hp : Tryz.f10.results = #[.cell 2 28, .tmp 3]) (h2 : a.tmps.getD 2 undef = .pointer (some ⟨C, 0, none⟩)) (h3 : a.tmps.getD 3 undef = .bool b) (hd : a.defers = []) (_hn : True = True)
    (hC : w'.rowIs C 28 22 (updR g 0 (rowA 22 f))) (d : TypeDesc) (hu : Tryz.prog.underlying 28 = some d) (hd2 : d.isRow = true) (hf : ∀ i, i < 22 → (f i).oneCell' = true) (hS : b = true → S f) (hB : Below w.heap.size w w') :
    bodyPost Tryz.prog Tryz.f10 (fun e w' => GivesText S w e w') .ret a w' := by
  have hrow : rowA 22 (updR g 0 (rowA 22 f)) = rowA 22 f := rowA_congr fun k hk => by
    unfold updR
    rw [if_pos ⟨Nat.zero_le _, by rw [rowA_size]; omega⟩, Nat.sub_zero, rowA_get hk]
    rfl
  refine bodyPost_ret (results_row2 hp _ C 28 22 _ h2 hC d hu hd2 info28s) hd ?_
  rw [hrow, h3]
  exact ⟨f, b, rfl, hf, hS, hB⟩
set_option maxRecDepth 100000 in
set_option maxHeartbeats 16000000 in
theorem textSet_any (t : Int) (hr : Bool) (fr : Nat) (hs : Bool) (st iv wk ct : Int) (hu : Bool) (un : Int) (p : Nat → Option Addr) (n c : Nat → Nat) (pr : Option Addr) (nr cr : Nat) (px : Option Addr) (nx cx : Nat) (l : Nat → List Int) (dl : List (Int × Int)) (rds exs : List Int) (w : World)
    (hro : ∀ k, 8 ≤ k → k < 18 → k ≠ 13 → RowO w (p k) (n k) (l k)) (hrd : RowDO w (p 13) (n 13) dl) (hn : SmallN n) (hnc : ∀ k, 8 ≤ k → k < 18 → n k ≤ c k)
    (hrr : RowO w pr nr rds) (hrx : RowO w px nx exs) (hnr : nr ≤ 2147483647) (hnx : nx ≤ 2147483647) (hpx : px = none → cx = 0) :
    Calls Tryz.prog 10 #[.agg (sSetC t hr fr hs st iv wk ct hu un p n c pr nr cr px nx cx)] w fun e w' => GivesText (TextSays t hr fr hs st iv wk ct hu un p n c pr nr cr px nx cx l dl rds exs) w e w' := by
  have hBA := below_a1 (w := w) (o := .cells (sSetC t hr fr hs st iv wk ct hu un p n c pr nr cr px nx cx) 28)
  have hA := sSet_at t hr fr hs st iv wk ct hu un p n c pr nr cr px nx cx w
  have HAC := Lib.hid (sSetF_rule t hr fr hs st iv wk ct hu un p n c pr nr cr px nx cx)
  have hsz : (w.alloc (.cells (sSetC t hr fr hs st iv wk ct hu un p n c pr nr cr px nx cx) 28)).heap.size = w.heap.size + 1 := by simp
  have HRO := Lib.hid hro
  have HRD := Lib.hid hrd
  have HNS := Lib.hid hn
  have HNC := Lib.hid hnc
  have HRR := Lib.hid hrr
  have HRX := Lib.hid hrx
  have HPX := Lib.hid hpx
  have hone := sSetF_one t hr fr hs st iv wk ct hu un p n c pr nr cr px nx cx
  have HONE := Lib.hid hone
  obtain ⟨d2, hud⟩ := Go.Proofs.YtnlpjncljbaapaaGreatDoor.u25
  have HU := Lib.hid hud
  obtain ⟨d8, hud8⟩ := Go.Proofs.YtnlpjncljbaapaaGreatDoor.u28
  have HU8 := Lib.hid hud8
  have HIN := Lib.hid fun (x : Int) (W : World) => sIn_any x W
  have hA0 : (sSetF t hr fr hs st iv wk ct hu un p n c pr nr cr px nx cx 0) = .int .i64 t := rfl
  have hA1 : (sSetF t hr fr hs st iv wk ct hu un p n c pr nr cr px nx cx 1) = .bool hr := rfl
  have hA20 : (sSetF t hr fr hs st iv wk ct hu un p n c pr nr cr px nx cx 20) = .slice pr nr cr := rfl
  have hA21 : (sSetF t hr fr hs st iv wk ct hu un p n c pr nr cr px nx cx 21) = .slice px nx cx := rfl
  have hC := sSet_at 0 false 0 false 0 0 0 0 false 0 (fun _ => none) (fun _ => 0) (fun _ => 0) none 0 0 none 0 0 (w.alloc (.cells (sSetC t hr fr hs st iv wk ct hu un p n c pr nr cr px nx cx) 28))
  rw [hsz] at hC
  have hA := hA.alloc (.cells (sSetC 0 false 0 false 0 0 0 0 false 0 (fun _ => none) (fun _ => 0) (fun _ => 0) none 0 0 none 0 0) 28)
  have hBA := hBA.alloc hBA.size (.cells (sSetC 0 false 0 false 0 0 0 0 false 0 (fun _ => none) (fun _ => 0) (fun _ => 0) none 0 0 none 0 0) 28)
  clear hro hrd hn hnc hrr hrx hpx hud hud8 hone hsz
  go_enter Tryz.func10, Tryz.ntmps10
  unfold sSetC at *
  go_upto_region 1 with fail
  generalize hw1 : (w.alloc (.cells #[_, _, _, _, _, _, _, _, _, _, _, _, _, _, _, _, _, _, _, _, _, _] 28)).alloc (.cells #[_, _, _, _, _, _, _, _, _, _, _, _, _, _, _, _, _, _, _, _, _, _] 28) = w1 at *
  obtain ⟨C, hCe⟩ : ∃ C, C = w.heap.size + 1 := ⟨_, rfl⟩
  rw [← hCe] at hC ⊢
  have hCle : w.heap.size ≤ C := by omega
  have hAC : w.heap.size < C := by omega
  have hCne : C ≠ w.heap.size := by omega
  have hCne' : w.heap.size ≠ C := by omega
  have HA := Lib.hid hA
  have HC := Lib.hid hC
  have HB := Lib.hid hBA
  have x0 := (hA.cell (i := 0) (by omega)).trans (congrArg some hA0)
  have x20 := (hA.cell (i := 20) (by omega)).trans (congrArg some hA20)
  have x21 := (hA.cell (i := 21) (by omega)).trans (congrArg some hA21)
  have HHA := Lib.hid (And.intro hA0 (And.intro hA1 (And.intro hA20 hA21)))
  clear hw1 hA hC hBA hCe hA0 hA1 hA20 hA21
  go_wp2_with fail
  refine (HIN.out _ _).mono ?_; rintro e w' ⟨rfl, rfl⟩
  cases hi : inSpan t with
  | false =>
    clear hi
    go_wp2_with (first | ((with_reducible refine gd_load 28 ?_); refine wpl_load_row0 rfl 28 _ rfl w.heap.size 28 22 22 _ rfl HA.out (by decide) d8 HU8.out.1 HU8.out.2 info28s ?_) | ((with_reducible refine gd_store 28 ?_); refine wpl_store_row rfl 28 _ _ rfl C 0 28 22 _ (rowA 22 (sSetF t hr fr hs st iv wk ct hu un p n c pr nr cr px nx cx)) rfl rfl HC.out (by simp [rowA_size]) (by rw [info28s, rowA_size]) (rowA_all fun i hi => HONE.out i hi) ?_; intro w9 HC9 hg9))
    exact textRet (by rfl) (by rfl) (by rfl) (by rfl) rfl HC9 d8 HU8.out.1 HU8.out.2 (fun i hi => HONE.out i hi) (fun h => by cases h) (HB.out.grown hg9 HB.out.size (fun k hk => by cases hk; exact hCle))
  | true =>
  have HI0 := Lib.hid hi
  clear hi
  by_cases c2 : 12 < nr
  · have c2' : (12 : Int) < (nr : Int) := by omega
    go_wp2_with (first | ((with_reducible refine gd_load 28 ?_); refine wpl_load_row0 rfl 28 _ rfl w.heap.size 28 22 22 _ rfl HA.out (by decide) d8 HU8.out.1 HU8.out.2 info28s ?_) | ((with_reducible refine gd_store 28 ?_); refine wpl_store_row rfl 28 _ _ rfl C 0 28 22 _ (rowA 22 (sSetF t hr fr hs st iv wk ct hu un p n c pr nr cr px nx cx)) rfl rfl HC.out (by simp [rowA_size]) (by rw [info28s, rowA_size]) (rowA_all fun i hi => HONE.out i hi) ?_; intro w9 HC9 hg9))
    exact textRet (by rfl) (by rfl) (by rfl) (by rfl) rfl HC9 d8 HU8.out.1 HU8.out.2 (fun i hi => HONE.out i hi) (fun h => by cases h) (HB.out.grown hg9 HB.out.size (fun k hk => by cases hk; exact hCle))
  by_cases c3 : 12 < nx
  · have c3' : (12 : Int) < (nx : Int) := by omega
    go_wp2_with (first | ((with_reducible refine gd_load 28 ?_); refine wpl_load_row0 rfl 28 _ rfl w.heap.size 28 22 22 _ rfl HA.out (by decide) d8 HU8.out.1 HU8.out.2 info28s ?_) | ((with_reducible refine gd_store 28 ?_); refine wpl_store_row rfl 28 _ _ rfl C 0 28 22 _ (rowA 22 (sSetF t hr fr hs st iv wk ct hu un p n c pr nr cr px nx cx)) rfl rfl HC.out (by simp [rowA_size]) (by rw [info28s, rowA_size]) (rowA_all fun i hi => HONE.out i hi) ?_; intro w9 HC9 hg9))
    exact textRet (by rfl) (by rfl) (by rfl) (by rfl) rfl HC9 d8 HU8.out.1 HU8.out.2 (fun i hi => HONE.out i hi) (fun h => by cases h) (HB.out.grown hg9 HB.out.size (fun k hk => by cases hk; exact hCle))
  have hnr2 : nr ≤ 12 := by omega
  have hnx2 : nx ≤ 12 := by omega
  obtain ⟨i0, hi, hzz⟩ := Option.map_eq_some_iff.1 info2
  simp only [Prod.mk.injEq] at hzz
  obtain ⟨hz0, hz1, hz2⟩ := hzz
  have HI := Lib.hid (And.intro hi (And.intro hz0 (And.intro hz1 hz2)))
  have HNIL := Lib.hid (show px = none → nx = 0 ∧ cx = 0 from fun e => ⟨nil_row HRX.out e, HPX.out e⟩)
  have HLX := Lib.hid (show (intVs exs).length = nx * 1 by rw [intVs, List.length_map, Nat.mul_one]; exact HRX.out.1.symm)
  have HOX := Lib.hid (show ∀ u ∈ intVs exs, u.oneCell' = true from fun u hu => by obtain ⟨x, _, rfl⟩ := List.mem_map.1 hu; rfl)
  clear hi hz0 hz1 hz2 c2 c3
  have hCs : C < w1.heap.size := HC.out.lt
  have HCL := Lib.hid fun (W : World) (hR : RowO W pr nr rds) => clone_any pr nr cr rds W hR hnr
  go_upto_region 4 with fail
  go_cut [31, 32, 33] from 26 to 30 (fun v31 v32 v33 wc => ∃ q5 c5 base, v31 = .slice q5 (nr + nx) c5 ∧ v32 = .int .i64 ((nr + nx : Nat) : Int) ∧ v33 = .int .i64 0 ∧ wc.ownsRow base 2 1 (.slice q5 (nr + nx) c5) (nr + nx) (intVs rds ++ intVs exs) ∧ (nr + nx = 0 ∨ ∃ g, q5 = some ⟨g, 0, none⟩ ∧ base ≤ g ∧ g < wc.heap.size) ∧ wc.rowIs w.heap.size 28 22 (sSetF t hr fr hs st iv wk ct hu un p n c pr nr cr px nx cx) ∧ wc.rowIs C 28 22 (sSetF 0 false 0 false 0 0 0 0 false 0 (fun _ => none) (fun _ => 0) (fun _ => 0) none 0 0 none 0 0) ∧ Below w.heap.size w wc)
  case first =>
    go_region_law (first
      | (go_simp; go_at_call 30; refine (HCL.out _ (HRR.out.below HB.out.drew)).mono ?_; rintro e w4 ⟨v4, rfl, hown4, hb4⟩; have HO4 := Lib.hid hown4; have HB4 := Lib.hid (HB.out.drew.trans (hb4.mono HB.out.drew.size)); have x21' := (hb4.cell (p := ⟨w.heap.size, 21, none⟩) (by simp; omega)).trans x21; have HA4 := Lib.hid (below_row (HA.out.of_block (w' := w1.drew) rfl) hb4 (by simp; omega)); have HC4 := Lib.hid (below_row (HC.out.of_block (w' := w1.drew) rfl) hb4 (by simpa using hCs)); have hz4 := hb4.size; clear hb4 hown4)
      | (refine step_append_row rfl (.tmp 28) (.tmp 30) 26 rfl _ 2 i0 (.int .i64 0) 1 8 Tryz.underlying26 HI.out.1 HI.out.2.1 HI.out.2.2.1 HI.out.2.2.2 rfl (by decide) v4 nr (intVs rds) (by simp [Act.eval]) HO4.out px nx cx (intVs exs) (by simp [Act.eval]) HNIL.out HLX.out (news_row (HRX.out.below HB4.out)) HOX.out (by simp only [maxLen]; omega) (by omega) hz4 ?_; intro v5 w5 hown5 hg5; obtain ⟨q5, c5, rfl, hq5⟩ := own_slice hown5))
    all_goals
      have HB5 := Lib.hid (HB4.out.grown hg5 HB4.out.size (fun k hk => by have := own_base HO4.out k hk; have := HB.out.size; simp at *; omega))
      have hne4 : ∀ X, X < w1.heap.size → v4.ownBlock ≠ some X := fun X hX e => by have := own_base HO4.out X e; simp at this; omega
      have HA5 := Lib.hid (row_grown HA4.out hg5 (hne4 _ (by omega)))
      have HC5 := Lib.hid (row_grown HC4.out hg5 (hne4 _ hCs))
      have HO5 := Lib.hid hown5
      have HQ5 := Lib.hid hq5
      have hCs5 : C < w5.heap.size := HC5.out.lt
      clear hg5 hne4 hown5 hq5 HA4 HC4 HO4 x21' hz4
      go_wp2_with fail
      go_meet
      exact ⟨q5, c5, _, rfl, rfl, rfl, HO5.out, HQ5.out, HA5.out, HC5.out, HB5.out⟩
  case rest =>
  obtain ⟨q5, c5, base, rfl, rfl, rfl, hO5, hQ5, hA5, hC5, hB5⟩ := hcut
  have HA5 := Lib.hid hA5
  have HC5 := Lib.hid hC5
  have HB5 := Lib.hid hB5
  have HO5 := Lib.hid hO5
  have HQ5 := Lib.hid hQ5
  have x1 := (hA5.cell (i := 1) (by omega)).trans (congrArg some HHA.out.2.1)
  have hCs5 : C < wc.heap.size := HC5.out.lt
  clear hO5 hQ5 hA5 hC5 hB5 HA HC HB x0 x20 x21 hCs
  obtain ⟨N, hN⟩ : ∃ N, N = nr + nx := ⟨_, rfl⟩
  rw [← hN] at HO5 HQ5 ⊢
  have HN := Lib.hid hN
  have hN24 : N ≤ 24 := by omega
  clear hN
  go_wp2_with fail
  go_loop [33] (fun v => ∃ k : Nat, k ≤ N ∧ v = .int .i64 k ∧ Hid (∀ x ∈ (rds ++ exs).take k, inSpan x = true)) (fun v => N - (intOf v).toNat)
  case atStart => exact ⟨0, Nat.zero_le _, rfl, by show ∀ x ∈ (rds ++ exs).take 0, _; simp⟩
  case round =>
    obtain ⟨k, hk, rfl, HT⟩ := hrel
    by_cases hkn : k < N
    · obtain ⟨g, rfl, hgb, hgl⟩ : ∃ g, q5 = some ⟨g, 0, none⟩ ∧ base ≤ g ∧ g < wc.heap.size := by
        rcases HQ5.out with h | h
        · omega
        · exact h
      have hkl : k < (rds ++ exs).length := by
        have h1 := HRR.out.1
        have h2 := HRX.out.1
        have h3 := HN.out
        rw [List.length_append]
        omega
      have hc : wc.cell? ⟨g, k, none⟩ = some (.int .i64 (rds ++ exs)[k]) := by
        have := HO5.out.cells (g := g) rfl k (.int .i64 (rds ++ exs)[k]) (by unfold intVs; rw [← List.map_append, List.getElem?_map, List.getElem?_eq_getElem hkl]; rfl)
        rwa [add_plain] at this
      have HK := Lib.hid (List.getElem?_eq_getElem hkl)
      generalize (rds ++ exs)[k] = x at *
      go_wp2_with fail
      refine (HIN.out _ _).mono ?_; rintro e w' ⟨rfl, rfl⟩
      cases hi : inSpan x with
      | false =>
        clear hi
        go_wp2_with (first | ((with_reducible refine gd_load 28 ?_); refine wpl_load_row0 rfl 28 _ rfl w.heap.size 28 22 22 _ rfl HA5.out (by decide) d8 HU8.out.1 HU8.out.2 info28s ?_) | ((with_reducible refine gd_store 28 ?_); refine wpl_store_row rfl 28 _ _ rfl C 0 28 22 _ (rowA 22 (sSetF t hr fr hs st iv wk ct hu un p n c pr nr cr px nx cx)) rfl rfl HC5.out (by simp [rowA_size]) (by rw [info28s, rowA_size]) (rowA_all fun i hi => HONE.out i hi) ?_; intro w9 HC9 hg9))
        exact textRet (by rfl) (by rfl) (by rfl) (by rfl) rfl HC9 d8 HU8.out.1 HU8.out.2 (fun i hi => HONE.out i hi) (fun h => by cases h) (HB5.out.grown hg9 HB5.out.size (fun k hk => by cases hk; exact hCle))
      | true =>
        have HI := Lib.hid hi
        clear hi
        go_wp2_with fail
        go_round
        case rel => exact ⟨k + 1, by omega, by go_num, take_all HK.out HT.out HI.out⟩
        case measure => simp [intOf]; omega
    · obtain ⟨kk, hkk⟩ : ∃ kk, kk = N := ⟨_, rfl⟩
      obtain rfl : k = kk := by omega
      have HALL := Lib.hid (show ∀ x ∈ rds ++ exs, inSpan x = true by
        have h1 := HRR.out.1
        have h2 := HRX.out.1
        have h3 := HN.out
        have := HT.out
        rwa [List.take_of_length_le (by rw [List.length_append]; omega)] at this)
      have hfk : ¬ ((k : Int) < (N : Int)) := by omega
      have HKK := Lib.hid hkk
      clear hkk hkn HT
      cases hr with
      | false =>
        have HSAY := Lib.hid (show TextSays t false fr hs st iv wk ct hu un p n c pr nr cr px nx cx l dl rds exs (sSetF t false 0 false 0 0 0 0 false 0 (fun _ => none) (fun _ => 0) (fun _ => 0) pr nr cr px nx cx) from ⟨spanB HI0.out, hnr2, hnx2, HALL.out, (fun h => by cases h), (fun _ i _ => rfl)⟩)
        go_wp2_with (first | ((with_reducible refine gd_store 25 ?_); refine wpl_store_row rfl 25 _ _ rfl w.heap.size 2 28 22 _ (sRuleC 0 false 0 0 0 0 false 0 (fun _ => none) (fun _ => 0) (fun _ => 0)) rfl rfl HA5.out (show 2 + 18 ≤ 22 by omega) info25s zr_one ?_; intro w6 HA6 hg6; have HC6 := Lib.hid (row_grown HC5.out hg6 (fun e => hCne (Option.some.inj e).symm)); have HB6 := Lib.hid (HB5.out.grown hg6 HB5.out.size (fun k hk => by cases hk; exact Nat.le_refl _)); have HA7 := Lib.hid (show w6.rowIs w.heap.size 28 22 (sSetF t false 0 false 0 0 0 0 false 0 (fun _ => none) (fun _ => 0) (fun _ => 0) pr nr cr px nx cx) from HA6.congr fun i hi => zeroRow t fr hs st iv wk ct hu un p n c pr nr cr px nx cx i hi)) | ((with_reducible refine gd_load 28 ?_); refine wpl_load_row0 rfl 28 _ rfl w.heap.size 28 22 22 _ rfl HA7.out (by decide) d8 HU8.out.1 HU8.out.2 info28s ?_) | ((with_reducible refine gd_store 28 ?_); refine wpl_store_row rfl 28 _ _ rfl C 0 28 22 _ (rowA 22 (sSetF t false 0 false 0 0 0 0 false 0 (fun _ => none) (fun _ => 0) (fun _ => 0) pr nr cr px nx cx)) rfl rfl HC6.out (by simp [rowA_size]) (by rw [info28s, rowA_size]) (rowA_all fun i hi => sSetF_one _ _ _ _ _ _ _ _ _ _ _ _ _ _ _ _ _ _ _ i hi) ?_; intro w9 HC9 hg9))
        exact textRet (by rfl) (by rfl) (by rfl) (by rfl) rfl HC9 d8 HU8.out.1 HU8.out.2 (fun i hi => sSetF_one _ _ _ _ _ _ _ _ _ _ _ _ _ _ _ _ _ _ _ i hi) (fun _ => HSAY.out) (HB6.out.grown hg9 HB6.out.size (fun k hk => by cases hk; exact hCle))
      | true =>
        go_wp2_with (first
          | ((with_reducible refine gd_load 25 ?_); refine wpl_load_row rfl 25 _ rfl w.heap.size 2 28 22 18 _ rfl HA5.out (by decide) d2 HU.out.1 HU.out.2 info25s ?_; rw [HAC.out])
          | ((with_reducible refine gd_store 25 ?_); refine wpl_store_last rfl 25 _ _ rfl (sRuleC 0 false 0 0 0 0 false 0 (fun _ => none) (fun _ => 0) (fun _ => 0)) (sRuleC fr hs st iv wk ct hu un p n c) rfl rfl info25s rfl (sRuleC_one fr hs st iv wk ct hu un p n c) ?_))
        have hD := sRule_at fr hs st iv wk ct hu un p n c wc
        have hA6 := HA5.out.alloc (.cells (sRuleC fr hs st iv wk ct hu un p n c) 25)
        have hC6 := HC5.out.alloc (.cells (sRuleC fr hs st iv wk ct hu un p n c) 25)
        have hB6 := HB5.out.alloc HB5.out.size (.cells (sRuleC fr hs st iv wk ct hu un p n c) 25)
        have hDA : wc.heap.size ≠ w.heap.size := by omega
        have hDC : wc.heap.size ≠ C := by omega
        generalize wc.alloc (.cells (sRuleC fr hs st iv wk ct hu un p n c) 25) = w6 at *
        have hDB : w.heap.size ≤ wc.heap.size := by omega
        generalize wc.heap.size = D at *
        have HD6 := Lib.hid hD
        have HA6 := Lib.hid hA6
        have HC6 := Lib.hid hC6
        have HB6 := Lib.hid hB6
        have x0 := (hA6.cell (i := 0) (by omega)).trans (congrArg some HHA.out.1)
        have y1 : w6.cell? ⟨D, 1, none⟩ = some (.bool hs) := hD.cell (i := 1) (by omega)
        have y2 : w6.cell? ⟨D, 2, none⟩ = some (.int .i64 st) := hD.cell (i := 2) (by omega)
        have g1 := hD.frozen 1
        have g2 := hD.frozen 2
        clear x1 hD hA6 hC6 hB6 HA5 HC5 HB5 HO5 HQ5
        go_cut [] from 51 to 54 (fun wd => wd.rowIs D 25 18 (sRuleF fr true t iv wk ct hu un p n c) ∧ wd.rowIs w.heap.size 28 22 (sSetF t true fr hs st iv wk ct hu un p n c pr nr cr px nx cx) ∧ wd.rowIs C 28 22 (sSetF 0 false 0 false 0 0 0 0 false 0 (fun _ => none) (fun _ => 0) (fun _ => 0) none 0 0 none 0 0) ∧ Below w.heap.size w wd)
        case first =>
          go_region
          all_goals
            go_wp2_with fail
            go_meet
            refine ⟨?_, ((HA6.out.of_block rfl).setOther hDA.symm _).setOther hDA.symm _, ((HC6.out.of_block rfl).setOther hDC.symm _).setOther hDC.symm _, ?_⟩
            · first
                | exact (((HD6.out.of_block rfl).set 1 _).set 2 _).congr fun i hi => ruleSet fr hs st iv wk ct hu un p n c t i hi
                | exact (((HD6.out.of_block rfl).set 2 _).set 1 _).congr fun i hi => ruleSet' fr hs st iv wk ct hu un p n c t i hi
            · exact ((pw_drewN HB6.out 1).setCell hDB _).setCell hDB _
        case rest =>
        obtain ⟨hD7, hA7, hC7, hB7⟩ := hcut
        have HD7 := Lib.hid hD7
        have HA7 := Lib.hid hA7
        have HC7 := Lib.hid hC7
        have HB7 := Lib.hid hB7
        have HRC7 := Lib.hid (sRuleF_row fr true t iv wk ct hu un p n c)
        have HCA := Lib.hid fun (W : World) (hW : Below w.heap.size w W) => clean_any fr true t iv wk ct hu un p n c W l dl (fun k a b e => (HRO.out k a b e).below hW) (HRD.out.below hW) HNS.out HNC.out
        clear hD7 hA7 hC7 hB7 x0 y1 y2 g1 g2 HD6 HA6 HC6 HB6
        go_wp2_with ((with_reducible refine gd_load 25 ?_); refine wpl_load_row0 rfl 25 _ rfl D 25 18 18 _ rfl HD7.out (by decide) d2 HU.out.1 HU.out.2 info25s ?_; rw [HRC7.out])
        refine (HCA.out _ HB7.out).mono ?_; rintro e w8 ⟨⟨b, rfl, hcl⟩, hb8⟩
        have HD8 := Lib.hid (below_row HD7.out hb8 HD7.out.lt)
        have HA8' := Lib.hid (below_row HA7.out hb8 HA7.out.lt)
        have HC8' := Lib.hid (below_row HC7.out hb8 HC7.out.lt)
        have HB8' := Lib.hid (HB7.out.trans (hb8.mono HB7.out.size))
        clear hb8 HD7 HA7 HC7 HB7
        have HA7 := HA8'
        have HC7 := HC8'
        have HB7 := HB8'
        clear HA8' HC8' HB8'
        have z6 : w8.cell? ⟨D, 6, none⟩ = some (.bool hu) := HD8.out.cell (i := 6) (by omega)
        have z7 : w8.cell? ⟨D, 7, none⟩ = some (.int .i64 un) := HD8.out.cell (i := 7) (by omega)
        generalize w8 = wd at *
        cases b with
        | false =>
          clear hcl
          go_wp2_with (first | ((with_reducible refine gd_load 28 ?_); refine wpl_load_row0 rfl 28 _ rfl w.heap.size 28 22 22 _ rfl HA7.out (by decide) d8 HU8.out.1 HU8.out.2 info28s ?_) | ((with_reducible refine gd_store 28 ?_); refine wpl_store_row rfl 28 _ _ rfl C 0 28 22 _ (rowA 22 (sSetF t true fr hs st iv wk ct hu un p n c pr nr cr px nx cx)) rfl rfl HC7.out (by simp [rowA_size]) (by rw [info28s, rowA_size]) (rowA_all fun i hi => sSetF_one _ _ _ _ _ _ _ _ _ _ _ _ _ _ _ _ _ _ _ i hi) ?_; intro w9 HC9 hg9))
          exact textRet (by rfl) (by rfl) (by rfl) (by rfl) rfl HC9 d8 HU8.out.1 HU8.out.2 (fun i hi => sSetF_one _ _ _ _ _ _ _ _ _ _ _ _ _ _ _ _ _ _ _ i hi) (fun h => by cases h) (HB7.out.grown hg9 HB7.out.size (fun k hk => by cases hk; exact hCle))
        | true =>
        have HCL := Lib.hid (hcl rfl)
        clear hcl
        cases hu with
        | false =>
          have hun0 : false = true → un ≠ 0 := fun h => by cases h
          have a3 := HA7.out.cell (i := 3) (by omega)
          have a4 := HA7.out.cell (i := 4) (by omega)
          have b3 := HA7.out.frozen 3
          have b4 := HA7.out.frozen 4
          have a9 := HA7.out.cell (i := 9) (by omega)
          have b9 := HA7.out.frozen 9
          have hrow := ((HA7.out.set 3 (.bool false)).set 4 (.int .i64 0)).set 9 (.int .i64 0)
          have HC8 := Lib.hid (show (((wd.setCell ⟨w.heap.size, 3, none⟩ (.bool false)).setCell ⟨w.heap.size, 4, none⟩ (.int .i64 0)).setCell ⟨w.heap.size, 9, none⟩ (.int .i64 0)).rowIs C 28 22 (sSetF 0 false 0 false 0 0 0 0 false 0 (fun _ => none) (fun _ => 0) (fun _ => 0) none 0 0 none 0 0) from ((HC7.out.setOther hCne _).setOther hCne _).setOther hCne _)
          have HB8 := Lib.hid (((HB7.out.setCell (p := ⟨w.heap.size, 3, none⟩) (Nat.le_refl _) (.bool false)).setCell (p := ⟨w.heap.size, 4, none⟩) (Nat.le_refl _) (.int .i64 0)).setCell (p := ⟨w.heap.size, 9, none⟩) (Nat.le_refl _) (.int .i64 0))
          have HA8 := Lib.hid (show ((((wd.setCell ⟨w.heap.size, 3, none⟩ (.bool false)).setCell ⟨w.heap.size, 4, none⟩ (.int .i64 0)).setCell ⟨w.heap.size, 9, none⟩ (.int .i64 0)).rowIs w.heap.size 28 22 (sSetF t true fr false 0 iv wk ct false 0 p n c pr nr cr px nx cx)) from hrow.congr fun i hi => setEnd0 t fr hs st iv wk ct un p n c pr nr cr px nx cx i hi)
          have HSAY := Lib.hid (show TextSays t true fr hs st iv wk ct false un p n c pr nr cr px nx cx l dl rds exs (sSetF t true fr false 0 iv wk ct false 0 p n c pr nr cr px nx cx) from ⟨spanB HI0.out, hnr2, hnx2, HALL.out, (fun _ => ⟨HCL.out, hun0, (fun i _ => rfl)⟩), (fun h => by cases h)⟩)
          clear hrow
          go_wp2_with (first | ((with_reducible refine gd_load 28 ?_); refine wpl_load_row0 rfl 28 _ rfl w.heap.size 28 22 22 _ rfl HA8.out (by decide) d8 HU8.out.1 HU8.out.2 info28s ?_) | ((with_reducible refine gd_store 28 ?_); refine wpl_store_row rfl 28 _ _ rfl C 0 28 22 _ (rowA 22 (sSetF t true fr false 0 iv wk ct false 0 p n c pr nr cr px nx cx)) rfl rfl HC8.out (by simp [rowA_size]) (by rw [info28s, rowA_size]) (rowA_all fun i hi => sSetF_one _ _ _ _ _ _ _ _ _ _ _ _ _ _ _ _ _ _ _ i hi) ?_; intro w9 HC9 hg9))
          exact textRet (by rfl) (by rfl) (by rfl) (by rfl) rfl HC9 d8 HU8.out.1 HU8.out.2 (fun i hi => sSetF_one _ _ _ _ _ _ _ _ _ _ _ _ _ _ _ _ _ _ _ i hi) (fun _ => HSAY.out) (HB8.out.grown hg9 HB8.out.size (fun k hk => by cases hk; exact hCle))
        | true =>
          by_cases u0 : un = 0
          · subst u0
            go_wp2_with (first | ((with_reducible refine gd_load 28 ?_); refine wpl_load_row0 rfl 28 _ rfl w.heap.size 28 22 22 _ rfl HA7.out (by decide) d8 HU8.out.1 HU8.out.2 info28s ?_) | ((with_reducible refine gd_store 28 ?_); refine wpl_store_row rfl 28 _ _ rfl C 0 28 22 _ (rowA 22 (sSetF t true fr hs st iv wk ct true 0 p n c pr nr cr px nx cx)) rfl rfl HC7.out (by simp [rowA_size]) (by rw [info28s, rowA_size]) (rowA_all fun i hi => sSetF_one _ _ _ _ _ _ _ _ _ _ _ _ _ _ _ _ _ _ _ i hi) ?_; intro w9 HC9 hg9))
            exact textRet (by rfl) (by rfl) (by rfl) (by rfl) rfl HC9 d8 HU8.out.1 HU8.out.2 (fun i hi => sSetF_one _ _ _ _ _ _ _ _ _ _ _ _ _ _ _ _ _ _ _ i hi) (fun h => by cases h) (HB7.out.grown hg9 HB7.out.size (fun k hk => by cases hk; exact hCle))
          have hun0 : true = true → un ≠ 0 := fun _ => u0
          have u0b : (un == 0) = false := by simpa using u0
          have a3 := HA7.out.cell (i := 3) (by omega)
          have a4 := HA7.out.cell (i := 4) (by omega)
          have b3 := HA7.out.frozen 3
          have b4 := HA7.out.frozen 4
          have hrow := (HA7.out.set 3 (.bool false)).set 4 (.int .i64 0)
          have HC8 := Lib.hid (show ((wd.setCell ⟨w.heap.size, 3, none⟩ (.bool false)).setCell ⟨w.heap.size, 4, none⟩ (.int .i64 0)).rowIs C 28 22 (sSetF 0 false 0 false 0 0 0 0 false 0 (fun _ => none) (fun _ => 0) (fun _ => 0) none 0 0 none 0 0) from (HC7.out.setOther hCne _).setOther hCne _)
          have HB8 := Lib.hid ((HB7.out.setCell (p := ⟨w.heap.size, 3, none⟩) (Nat.le_refl _) (.bool false)).setCell (p := ⟨w.heap.size, 4, none⟩) (Nat.le_refl _) (.int .i64 0))
          have HA8 := Lib.hid (show (((wd.setCell ⟨w.heap.size, 3, none⟩ (.bool false)).setCell ⟨w.heap.size, 4, none⟩ (.int .i64 0)).rowIs w.heap.size 28 22 (sSetF t true fr false 0 iv wk ct true un p n c pr nr cr px nx cx)) from hrow.congr fun i hi => setEnd1 t fr hs st iv wk ct un p n c pr nr cr px nx cx i hi)
          have HSAY := Lib.hid (show TextSays t true fr hs st iv wk ct true un p n c pr nr cr px nx cx l dl rds exs (sSetF t true fr false 0 iv wk ct true un p n c pr nr cr px nx cx) from ⟨spanB HI0.out, hnr2, hnx2, HALL.out, (fun _ => ⟨HCL.out, hun0, (fun i _ => rfl)⟩), (fun h => by cases h)⟩)
          clear hrow
          go_wp2_with (first | ((with_reducible refine gd_load 28 ?_); refine wpl_load_row0 rfl 28 _ rfl w.heap.size 28 22 22 _ rfl HA8.out (by decide) d8 HU8.out.1 HU8.out.2 info28s ?_) | ((with_reducible refine gd_store 28 ?_); refine wpl_store_row rfl 28 _ _ rfl C 0 28 22 _ (rowA 22 (sSetF t true fr false 0 iv wk ct true un p n c pr nr cr px nx cx)) rfl rfl HC8.out (by simp [rowA_size]) (by rw [info28s, rowA_size]) (rowA_all fun i hi => sSetF_one _ _ _ _ _ _ _ _ _ _ _ _ _ _ _ _ _ _ _ i hi) ?_; intro w9 HC9 hg9))
          exact textRet (by rfl) (by rfl) (by rfl) (by rfl) rfl HC9 d8 HU8.out.1 HU8.out.2 (fun i hi => sSetF_one _ _ _ _ _ _ _ _ _ _ _ _ _ _ _ _ _ _ _ i hi) (fun _ => HSAY.out) (HB8.out.grown hg9 HB8.out.size (fun k hk => by cases hk; exact hCle))
end Go.Proofs.YtnlpjncljbaapaaGreatDoor
