/- A rule made, a set's methods, walked. -/
import Derived.Test.YtnlpjncljbaapaaGreatDoorBr
import Derived.Test.YtnlpjncljbaapaaGreatDoorRo
import Derived.Deep.RegionLaw
namespace Go.Proofs.YtnlpjncljbaapaaGreatDoor
open Go.RowKit

theorem rowA_congr {n : Nat} {f g : Nat → Value} (h : ∀ k, k < n → f k = g k) : rowA n f = rowA n g := by
  unfold rowA
  congr 1
  exact List.map_congr_left fun k hk => h k (List.mem_range.1 hk)
/-- A rule in memory: its options, its start. -/
def RuleAt (w : World) (G : Nat) (arg : Nat → Value) (s : Int) : Prop := ∃ f : Nat → Value, w.rowIs G 124 60 f ∧ (∀ k, k < 19 → f k = arg k) ∧ f 39 = .int .i64 s ∧ f 40 = .int .i64 0 ∧ ∀ k, (f k).oneCell' = true
theorem RuleAt.of_block {w w' : World} {G : Nat} {arg : Nat → Value} {s : Int} (h : RuleAt w G arg s) (e : w'.heap[G]? = w.heap[G]?) : RuleAt w' G arg s := by
  obtain ⟨f, h1, h2⟩ := h
  exact ⟨f, h1.of_block e, h2⟩
theorem RuleAt.lt {w : World} {G : Nat} {arg : Nat → Value} {s : Int} (h : RuleAt w G arg s) : G < w.heap.size := by
  obtain ⟨f, h1, _⟩ := h
  exact h1.lt
/-- What is asked of options: that they are in bounds, and that their rows are there. -/
structure OptOk (w : World) (fr t iv wk wn ct un u2 : Int) (p : Nat → Option Addr) (n c : Nat → Nat) (l : Nat → List Int) (ds : List (Int × Int)) : Prop where
  row : ∀ k, 9 ≤ k → k < 19 → k ≠ 14 → RowI w (p k) (n k) (l k)
  day : RowD w (p 14) (n 14) ds
  fr : 0 ≤ fr ∧ fr ≤ 6
  t : 0 ≤ t ∧ t < 315537897600
  len : ∀ k, (l k).length ≤ 1000
  dlen : ds.length ≤ 1000
  prod : max 1 (l 15).length * max 1 (l 16).length * max 1 (l 17).length ≤ 1000
  bd : ∀ k, k < 8 → ∀ x ∈ l (bCell k), inB x (bLo k) (bHi k) (bPm k)
  dbd : ∀ d ∈ ds, -53 ≤ d.2 ∧ d.2 ≤ 53
  iv : 0 ≤ iv
theorem OptOk.below {w w' : World} {fr t iv wk wn ct un u2 : Int} {p : Nat → Option Addr} {n c : Nat → Nat} {l : Nat → List Int} {ds : List (Int × Int)} (h : OptOk w fr t iv wk wn ct un u2 p n c l ds) (hb : Below w.heap.size w w') : OptOk w' fr t iv wk wn ct un u2 p n c l ds :=
  ⟨fun k h1 h2 h3 => (h.row k h1 h2 h3).below hb, h.day.below hb, h.fr, h.t, h.len, h.dlen, h.prod, h.bd, h.dbd, h.iv⟩
/-- The start that a rule has. -/
def startOf (t : Int) : Int := if t = 0 then 62135596800 else t
theorem build_any {w : World} {fr t iv wk wn ct un u2 : Int} {p : Nat → Option Addr} {n c : Nat → Nat} {l : Nat → List Int} {ds : List (Int × Int)} (h : OptOk w fr t iv wk wn ct un u2 p n c l ds) :
    Calls Tryz.prog 115 #[.agg (rowA 19 (optF fr t 0 iv wk wn ct un u2 p n c))] w fun e w' => GivesRule (optF fr t 0 iv wk wn ct un u2 p n c) (startOf t) w e w' := by
  rw [← optV_row]
  have b0 := h.bd 2 (by decide)
  have b1 := h.bd 1 (by decide)
  have b2 := h.bd 0 (by decide)
  refine build_ok fr t iv wk wn ct un u2 p n c l ds w h.row h.day h.fr h.t _ rfl h.len h.dlen h.prod ?_ ?_ ?_
  · intro x hx
    have := b0 x hx
    simp [inB, bLo, bHi, bPm] at this
    exact this
  · intro x hx
    have := b1 x hx
    simp [inB, bLo, bHi, bPm] at this
    exact this
  · intro x hx
    have := b2 x hx
    simp [inB, bLo, bHi, bPm] at this
    exact this
theorem bounds_any {w : World} {fr t iv wk wn ct un u2 : Int} {p : Nat → Option Addr} {n c : Nat → Nat} {l : Nat → List Int} {ds : List (Int × Int)} (h : OptOk w fr t iv wk wn ct un u2 p n c l ds) :
    Calls Tryz.prog 114 #[.agg (rowA 19 (optF fr t 0 iv wk wn ct un u2 p n c))] w fun e w' => e = .returned .nilIface ∧ Below w.heap.size w w' := by
  rw [← optV_row]
  refine bounds_ok fr t 0 iv wk wn ct un u2 p n c l ds w (fun k hk => ?_) h.day (fun k hk => ?_) (by have := h.dlen; omega) h.bd h.dbd h.iv
  · match k, hk with
    | 0, _ | 1, _ | 2, _ | 3, _ | 4, _ | 5, _ | 6, _ | 7, _ => exact h.row _ (by decide) (by decide) (by decide)
  · have := h.len (bCell k)
    omega
theorem alloc124g (ρ : Operand → Value) (d : Option Tmp) (ty : TypeId) (ps : String) (af : Array Edge) (g : Option (Nat × Bool)) (w : World) : (execOp ρ { dst := d, op := Op.alloc 124, type := ty, pos := ps, after := af, guard := g }).run Tryz.prog w = .ok (.value (.pointer (some ⟨w.heap.size, 0, none⟩))) (w.alloc (.cells zA 124)) := by kernel_rfl
/-- A new rule behind a pointer, and no error. -/
def GivesNew (arg : Nat → Value) (s : Int) (w : World) (e : Ending) (w' : World) : Prop := ∃ G, e = .returned (.tuple #[.pointer (some ⟨G, 0, none⟩), .nilIface]) ∧ RuleAt w' G arg s ∧ w.heap.size ≤ G ∧ Below w.heap.size w w'
set_option maxRecDepth 100000 in
set_option maxHeartbeats 4000000 in
theorem new_any {w : World} {fr t iv wk wn ct un u2 : Int} {p : Nat → Option Addr} {n c : Nat → Nat} {l : Nat → List Int} {ds : List (Int × Int)} (h : OptOk w fr t iv wk wn ct un u2 p n c l ds) :
    Calls Tryz.prog 71 #[.agg (rowA 19 (optF fr t 0 iv wk wn ct un u2 p n c))] w fun e w' => GivesNew (optF fr t 0 iv wk wn ct un u2 p n c) (startOf t) w e w' := by
  have hrow := World.rowIs_alloc w (rowA 19 (optF fr t 0 iv wk wn ct un u2 p n c)) 122 (optF fr t 0 iv wk wn ct un u2 p n c) (fun i hi => rowA_get (by rwa [rowA_size] at hi))
  rw [rowA_size] at hrow
  have HW := Lib.hid hrow
  have HV := Lib.hid fun W (h : OptOk W fr t iv wk wn ct un u2 p n c l ds) => bounds_any h
  have HC := Lib.hid fun W (h : OptOk W fr t iv wk wn ct un u2 p n c l ds) => build_any h
  have HB1 := Lib.hid (below_a1 (w := w) (o := .cells (rowA 19 (optF fr t 0 iv wk wn ct un u2 p n c)) 122))
  have HK1 := Lib.hid (h.below HB1.out)
  obtain ⟨d2, hu2, hd2⟩ := u122
  have HU := Lib.hid (And.intro hu2 hd2)
  clear hrow h hu2 hd2
  generalize optF fr t 0 iv wk wn ct un u2 p n c = arg at *
  go_enter Tryz.func71, Tryz.ntmps71
  go_wp2_with (with_reducible refine gd_load 122 ?_; refine wpl_load_row0 rfl 122 _ rfl w.heap.size 122 19 19 arg rfl HW.out (by decide) d2 HU.out.1 HU.out.2 info122s ?_)
  refine (HV.out _ HK1.out).mono ?_; rintro e w1 ⟨rfl, hb⟩
  have HK2 := Lib.hid (HK1.out.below hb)
  have HW2 := Lib.hid (below_row HW.out hb (by simp))
  have HB2 := Lib.hid (HB1.out.trans (hb.mono HB1.out.size))
  clear hb
  go_wp2_with (with_reducible refine gd_load 122 ?_; refine wpl_load_row0 rfl 122 _ rfl w.heap.size 122 19 19 arg rfl HW2.out (by decide) d2 HU.out.1 HU.out.2 info122s ?_)
  refine (HC.out _ HK2.out).mono ?_; rintro e w2 ⟨f, rfl, h1, h2, h3, h4, hb⟩
  have HB3 := Lib.hid (HB2.out.trans (hb.mono HB2.out.size))
  have HF := Lib.hid (And.intro h1 (And.intro h2 (And.intro h3 h4)))
  clear hb h1 h2 h3 h4
  go_wp2_with (first
    | (with_reducible refine gd_alloc 124 ?_; refine wpl_valw rfl _ (alloc124g _ _ _ _ _ _ _) ?_)
    | (with_reducible refine gd_store 124 ?_; refine wpl_store_last rfl 124 _ _ rfl zA (rowA 60 f) rfl rfl (info124r f) (by rw [zA_row, rowA_size, rowA_size]) (rowA_all fun i _ => HF.out.2.2.2 i) ?_))
  go_ret2
  refine ⟨w2.heap.size, rfl, ⟨f, ?_, HF.out⟩, HB3.out.size, HB3.out.alloc HB3.out.size _⟩
  have := World.rowIs_alloc w2 (rowA 60 f) 124 f (fun i hi => rowA_get (by rwa [rowA_size] at hi))
  rwa [rowA_size] at this
end Go.Proofs.YtnlpjncljbaapaaGreatDoor

/- A set's methods, walked. -/
namespace Go.Proofs.YtnlpjncljbaapaaGreatDoor
open Go.RowKit

/-- Only such blocks have turned, and what is new. -/
structure Ch (X : Nat → Prop) (w w' : World) : Prop where
  os : w'.os = w.os
  tape : w'.tape = w.tape
  output : w'.output = w.output
  size : w.heap.size ≤ w'.heap.size
  block : ∀ i, i < w.heap.size → ¬ X i → w'.heap[i]? = w.heap[i]?
theorem Ch.refl (X : Nat → Prop) (w : World) : Ch X w w := ⟨rfl, rfl, rfl, Nat.le_refl _, fun _ _ _ => rfl⟩
theorem Ch.trans {X : Nat → Prop} {a b c : World} (h : Ch X a b) (k : Ch X b c) : Ch X a c :=
  ⟨k.os.trans h.os, k.tape.trans h.tape, k.output.trans h.output, Nat.le_trans h.size k.size, fun i hi hx => (k.block i (Nat.lt_of_lt_of_le hi h.size) hx).trans (h.block i hi hx)⟩
theorem Ch.mono {X Y : Nat → Prop} {a b : World} (h : Ch X a b) (hxy : ∀ i, i < a.heap.size → X i → Y i) : Ch Y a b := ⟨h.os, h.tape, h.output, h.size, fun i hi hy => h.block i hi fun hx => hy (hxy i hi hx)⟩
theorem Ch.of_below {X : Nat → Prop} {B : Nat} {w w' : World} (h : Below B w w') (hB : w.heap.size ≤ B) : Ch X w w' := ⟨h.os, h.tape, h.output, h.size, fun i hi _ => h.block i (Nat.lt_of_lt_of_le hi hB)⟩
theorem Ch.of_grown {X : Nat → Prop} {w w' : World} {row : Option Nat} (h : w.grownBy w' row) (hr : ∀ g, row = some g → X g) : Ch X w w' := ⟨h.os, h.tape, h.output, h.size, fun i hi hx => h.block i hi fun e => hx (hr i e.symm)⟩
theorem Ch.set {X : Nat → Prop} {w : World} {g k : Nat} {u : Value} (hg : X g) : Ch X w (w.setCell ⟨g, k, none⟩ u) := .of_grown (grown_set (World.grownBy.refl _ _) k u) fun x e => by injection e with e; exact e ▸ hg
theorem Ch.drew {X : Nat → Prop} {w w' : World} (h : Ch X w w') : Ch X w w'.drew := ⟨h.os, h.tape, h.output, h.size, h.block⟩
theorem Ch.alloc {X : Nat → Prop} {w : World} (o : Obj) : Ch X w (w.alloc o) := .of_below (B := w.heap.size) below_a1 (Nat.le_refl _)
theorem Ch.cell {X : Nat → Prop} {w w' : World} (h : Ch X w w') {g o : Nat} (hg : g < w.heap.size) (hx : ¬ X g) : w'.cell? ⟨g, o, none⟩ = w.cell? ⟨g, o, none⟩ := World.cell?_of_block (h.block g hg hx)
theorem Ch.below {X : Nat → Prop} {B : Nat} {w0 w w' : World} (hb : Below B w0 w) (h : Ch X w w') (hX : ∀ i, X i → B ≤ i) (hz : B ≤ w.heap.size) : Below B w0 w' :=
  ⟨h.os.trans hb.os, h.tape.trans hb.tape, h.output.trans hb.output, Nat.le_trans hb.size h.size, fun i hi => (h.block i (by omega) (fun hx => by have := hX i hx; omega)).trans (hb.block i hi)⟩
/-- A set's cells. -/
def setF (st : Int) (rp rd ex : Value) : Nat → Value
  | 0 => .int .i64 st
  | 1 => .int .i64 0
  | 2 => rp
  | 3 => rd
  | _ => ex

end Go.Proofs.YtnlpjncljbaapaaGreatDoor

/- A set's methods, walked: its start, its rule, its dates. -/
namespace Go.Proofs.YtnlpjncljbaapaaGreatDoor
open Go.RowKit

theorem setF_upd0 (st st' : Int) (rp rd ex : Value) : upd (upd (setF st rp rd ex) 0 (.int .i64 st')) 1 (.int .i64 0) = setF st' rp rd ex := by
  funext k
  match k with
  | 0 | 1 | 2 | 3 => rfl
  | k + 4 => rfl
theorem setF_upd3 (st : Int) (rp rd rd' ex : Value) : upd (setF st rp rd ex) 3 rd' = setF st rp rd' ex := by
  funext k
  match k with
  | 0 | 1 | 2 | 3 => rfl
  | k + 4 => rfl
theorem setF_upd4 {w : World} {S t : Nat} {st : Int} {rp rd ex ex' : Value} (h : w.rowIs S t 5 (upd (setF st rp rd ex) 4 ex')) : w.rowIs S t 5 (setF st rp rd ex') :=
  World.rowIs.congr h fun k hk => by
    match k, hk with
    | 0, _ | 1, _ | 2, _ | 3, _ | 4, _ => rfl
    | k + 5, hk => omega
def SetTurned (S : Nat) (st : Int) (rp rd ex : Value) (w : World) (e : Ending) (w' : World) : Prop := e = .returned (.tuple #[]) ∧ w'.rowIs S 132 5 (setF st rp rd ex) ∧ w.grownBy w' (some S)
set_option maxRecDepth 100000 in
set_option maxHeartbeats 4000000 in
theorem sStart_any {w : World} {S : Nat} {st0 st : Int} {rd ex : Value} (h : w.rowIs S 132 5 (setF st0 (.pointer none) rd ex)) :
    Calls Tryz.prog 69 #[.pointer (some ⟨S, 0, none⟩), .agg #[.int .i64 st, .int .i64 0]] w fun e w' => SetTurned S st (.pointer none) rd ex w e w' := by
  have HB1 := Lib.hid (below_a1 (w := w) (o := .cells #[.int .i64 st, .int .i64 0] 109))
  have HF1 := Lib.hid (h.alloc (.cells #[.int .i64 st, .int .i64 0] 109))
  clear h
  go_enter Tryz.func69, Tryz.ntmps69
  go_wp2_with fail
  refine (truncate_any st 0 _ _).mono ?_; rintro e w1 ⟨rfl, hb⟩
  have HF2 := Lib.hid (below_row HF1.out hb HF1.out.lt)
  have HB2 := Lib.hid (HB1.out.trans (hb.mono HB1.out.size))
  obtain ⟨v1, x1⟩ : ∃ v, w1.cell? ⟨S, 0, none⟩ = some v := ⟨_, HF2.out.cell (by decide)⟩
  obtain ⟨v2, x2⟩ : ∃ v, w1.cell? ⟨S, 1, none⟩ = some v := ⟨_, HF2.out.cell (by decide)⟩
  have z1 := HF2.out.frozen 0
  have z2 := HF2.out.frozen 1
  have x3 : w1.cell? ⟨S, 2, none⟩ = some (.pointer none) := HF2.out.cell (by decide)
  clear hb
  go_wp2_with fail
  go_end0
  refine ⟨rfl, ?_, grown_set (grown_set (show w.grownBy w1 (some S) from ⟨HB2.out.os, HB2.out.tape, HB2.out.output, HB2.out.size, fun i hi _ => HB2.out.block i hi⟩) 0 _) 1 _⟩
  have := (HF2.out.set 0 (.int .i64 st)).set 1 (.int .i64 0)
  exact World.rowIs.congr this fun k _ => congrFun (setF_upd0 st0 st (.pointer none) rd ex) k
theorem isZero_no (s : Int) (w : World) (hs : s ≠ 0) : Calls Tryz.prog 77 #[.agg #[.int .i64 s, .int .i64 0]] w fun e w' => e = .returned (.bool false) ∧ Below w.heap.size w w' :=
  (isZero_any s 0 w).mono fun _ _ ⟨he, hb⟩ => ⟨by rw [he]; simp [hs], hb⟩
def SetRuled (S G : Nat) (st : Int) (arg : Nat → Value) (rd ex : Value) (w : World) (e : Ending) (w' : World) : Prop := e = .returned (.tuple #[]) ∧ w'.rowIs S 132 5 (setF st (.pointer (some ⟨G, 0, none⟩)) rd ex) ∧ RuleAt w' G arg (startOf st) ∧ Ch (fun i => i = S ∨ i = G) w w'
end Go.Proofs.YtnlpjncljbaapaaGreatDoor
