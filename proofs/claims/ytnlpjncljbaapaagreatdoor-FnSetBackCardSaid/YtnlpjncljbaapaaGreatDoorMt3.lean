/- A rule made, a set's methods, walked. -/
import Derived.Test.YtnlpjncljbaapaaGreatDoorBr
import Derived.Test.YtnlpjncljbaapaaGreatDoorDs
import Derived.Deep.RegionLaw
namespace Go.Proofs.YtnlpjncljbaapaaGreatDoor
open Go.RowKit

theorem rowA_congr {n : Nat} {f g : Nat → Value} (h : ∀ k, k < n → f k = g k) : rowA n f = rowA n g := by
  unfold rowA
  congr 1
  exact List.map_congr_left fun k hk => h k (List.mem_range.1 hk)
/-- A rule in memory: its options, its start. -/
def RuleAt (w : World) (G : Nat) (arg : Nat → Value) (s : Int) : Prop := ∃ f : Nat → Value, w.rowIs G 124 60 f ∧ (∀ k, k < 19 → f k = arg k) ∧ f 39 = .int .i64 s ∧ f 40 = .int .i64 0 ∧ ∀ k, (f k).oneCell' = true
theorem RuleAt.of_block {w w' : World} {G : Nat} {arg : Nat → Value} {s : Int} (h : RuleAt w G arg s) (e : w'.heap[G]? = w.heap[G]?) : RuleAt w' G arg s := by
  obtain ⟨f, h1, h2⟩ := h
  exact ⟨f, h1.of_block e, h2⟩
theorem RuleAt.lt {w : World} {G : Nat} {arg : Nat → Value} {s : Int} (h : RuleAt w G arg s) : G < w.heap.size := by
  obtain ⟨f, h1, _⟩ := h
  exact h1.lt
/-- What is asked of options: that they are in bounds, and that their rows are there. -/
structure OptOk (w : World) (fr t iv wk wn ct un u2 : Int) (p : Nat → Option Addr) (n c : Nat → Nat) (l : Nat → List Int) (ds : List (Int × Int)) : Prop where
  row : ∀ k, 9 ≤ k → k < 19 → k ≠ 14 → RowI w (p k) (n k) (l k)
  day : RowD w (p 14) (n 14) ds
  fr : 0 ≤ fr ∧ fr ≤ 6
  t : 0 ≤ t ∧ t < 315537897600
  len : ∀ k, (l k).length ≤ 1000
  dlen : ds.length ≤ 1000
  prod : max 1 (l 15).length * max 1 (l 16).length * max 1 (l 17).length ≤ 1000
  bd : ∀ k, k < 8 → ∀ x ∈ l (bCell k), inB x (bLo k) (bHi k) (bPm k)
  dbd : ∀ d ∈ ds, -53 ≤ d.2 ∧ d.2 ≤ 53
  iv : 0 ≤ iv
theorem OptOk.below {w w' : World} {fr t iv wk wn ct un u2 : Int} {p : Nat → Option Addr} {n c : Nat → Nat} {l : Nat → List Int} {ds : List (Int × Int)} (h : OptOk w fr t iv wk wn ct un u2 p n c l ds) (hb : Below w.heap.size w w') : OptOk w' fr t iv wk wn ct un u2 p n c l ds :=
  ⟨fun k h1 h2 h3 => (h.row k h1 h2 h3).below hb, h.day.below hb, h.fr, h.t, h.len, h.dlen, h.prod, h.bd, h.dbd, h.iv⟩
/-- The start that a rule has. -/
def startOf (t : Int) : Int := if t = 0 then 62135596800 else t
theorem build_any {w : World} {fr t iv wk wn ct un u2 : Int} {p : Nat → Option Addr} {n c : Nat → Nat} {l : Nat → List Int} {ds : List (Int × Int)} (h : OptOk w fr t iv wk wn ct un u2 p n c l ds) :
    Calls Tryz.prog 115 #[.agg (rowA 19 (optF fr t 0 iv wk wn ct un u2 p n c))] w fun e w' => GivesRule (optF fr t 0 iv wk wn ct un u2 p n c) (startOf t) w e w' := by
  rw [← optV_row]
  have b0 := h.bd 2 (by decide)
  have b1 := h.bd 1 (by decide)
  have b2 := h.bd 0 (by decide)
  refine build_ok fr t iv wk wn ct un u2 p n c l ds w h.row h.day h.fr h.t _ rfl h.len h.dlen h.prod ?_ ?_ ?_
  · intro x hx
    have := b0 x hx
    simp [inB, bLo, bHi, bPm] at this
    exact this
  · intro x hx
    have := b1 x hx
    simp [inB, bLo, bHi, bPm] at this
    exact this
  · intro x hx
    have := b2 x hx
    simp [inB, bLo, bHi, bPm] at this
    exact this
theorem bounds_any {w : World} {fr t iv wk wn ct un u2 : Int} {p : Nat → Option Addr} {n c : Nat → Nat} {l : Nat → List Int} {ds : List (Int × Int)} (h : OptOk w fr t iv wk wn ct un u2 p n c l ds) :
    Calls Tryz.prog 114 #[.agg (rowA 19 (optF fr t 0 iv wk wn ct un u2 p n c))] w fun e w' => e = .returned .nilIface ∧ Below w.heap.size w w' := by
  rw [← optV_row]
  refine bounds_ok fr t 0 iv wk wn ct un u2 p n c l ds w (fun k hk => ?_) h.day (fun k hk => ?_) (by have := h.dlen; omega) h.bd h.dbd h.iv
  · match k, hk with
    | 0, _ | 1, _ | 2, _ | 3, _ | 4, _ | 5, _ | 6, _ | 7, _ => exact h.row _ (by decide) (by decide) (by decide)
  · have := h.len (bCell k)
    omega
theorem alloc124g (ρ : Operand → Value) (d : Option Tmp) (ty : TypeId) (ps : String) (af : Array Edge) (g : Option (Nat × Bool)) (w : World) : (execOp ρ { dst := d, op := Op.alloc 124, type := ty, pos := ps, after := af, guard := g }).run Tryz.prog w = .ok (.value (.pointer (some ⟨w.heap.size, 0, none⟩))) (w.alloc (.cells zA 124)) := by kernel_rfl
/-- A new rule behind a pointer, and no error. -/
def GivesNew (arg : Nat → Value) (s : Int) (w : World) (e : Ending) (w' : World) : Prop := ∃ G, e = .returned (.tuple #[.pointer (some ⟨G, 0, none⟩), .nilIface]) ∧ RuleAt w' G arg s ∧ w.heap.size ≤ G ∧ Below w.heap.size w w'
set_option maxRecDepth 100000 in
set_option maxHeartbeats 4000000 in
theorem new_any {w : World} {fr t iv wk wn ct un u2 : Int} {p : Nat → Option Addr} {n c : Nat → Nat} {l : Nat → List Int} {ds : List (Int × Int)} (h : OptOk w fr t iv wk wn ct un u2 p n c l ds) :
    Calls Tryz.prog 71 #[.agg (rowA 19 (optF fr t 0 iv wk wn ct un u2 p n c))] w fun e w' => GivesNew (optF fr t 0 iv wk wn ct un u2 p n c) (startOf t) w e w' := by
  have hrow := World.rowIs_alloc w (rowA 19 (optF fr t 0 iv wk wn ct un u2 p n c)) 122 (optF fr t 0 iv wk wn ct un u2 p n c) (fun i hi => rowA_get (by rwa [rowA_size] at hi))
  rw [rowA_size] at hrow
  have HW := Lib.hid hrow
  have HV := Lib.hid fun W (h : OptOk W fr t iv wk wn ct un u2 p n c l ds) => bounds_any h
  have HC := Lib.hid fun W (h : OptOk W fr t iv wk wn ct un u2 p n c l ds) => build_any h
  have HB1 := Lib.hid (below_a1 (w := w) (o := .cells (rowA 19 (optF fr t 0 iv wk wn ct un u2 p n c)) 122))
  have HK1 := Lib.hid (h.below HB1.out)
  obtain ⟨d2, hu2, hd2⟩ := u122
  have HU := Lib.hid (And.intro hu2 hd2)
  clear hrow h hu2 hd2
  generalize optF fr t 0 iv wk wn ct un u2 p n c = arg at *
  go_enter Tryz.func71, Tryz.ntmps71
  go_wp2_with (with_reducible refine gd_load 122 ?_; refine wpl_load_row0 rfl 122 _ rfl w.heap.size 122 19 19 arg rfl HW.out (by decide) d2 HU.out.1 HU.out.2 info122s ?_)
  refine (HV.out _ HK1.out).mono ?_; rintro e w1 ⟨rfl, hb⟩
  have HK2 := Lib.hid (HK1.out.below hb)
  have HW2 := Lib.hid (below_row HW.out hb (by simp))
  have HB2 := Lib.hid (HB1.out.trans (hb.mono HB1.out.size))
  clear hb
  go_wp2_with (with_reducible refine gd_load 122 ?_; refine wpl_load_row0 rfl 122 _ rfl w.heap.size 122 19 19 arg rfl HW2.out (by decide) d2 HU.out.1 HU.out.2 info122s ?_)
  refine (HC.out _ HK2.out).mono ?_; rintro e w2 ⟨f, rfl, h1, h2, h3, h4, hb⟩
  have HB3 := Lib.hid (HB2.out.trans (hb.mono HB2.out.size))
  have HF := Lib.hid (And.intro h1 (And.intro h2 (And.intro h3 h4)))
  clear hb h1 h2 h3 h4
  go_wp2_with (first
    | (with_reducible refine gd_alloc 124 ?_; refine wpl_valw rfl _ (alloc124g _ _ _ _ _ _ _) ?_)
    | (with_reducible refine gd_store 124 ?_; refine wpl_store_last rfl 124 _ _ rfl zA (rowA 60 f) rfl rfl (info124r f) (by rw [zA_row, rowA_size, rowA_size]) (rowA_all fun i _ => HF.out.2.2.2 i) ?_))
  go_ret2
  refine ⟨w2.heap.size, rfl, ⟨f, ?_, HF.out⟩, HB3.out.size, HB3.out.alloc HB3.out.size _⟩
  have := World.rowIs_alloc w2 (rowA 60 f) 124 f (fun i hi => rowA_get (by rwa [rowA_size] at hi))
  rwa [rowA_size] at this
end Go.Proofs.YtnlpjncljbaapaaGreatDoor

/- A set's methods, walked. -/
namespace Go.Proofs.YtnlpjncljbaapaaGreatDoor
open Go.RowKit

/-- Only such blocks have turned, and what is new. -/
structure Ch (X : Nat → Prop) (w w' : World) : Prop where
  os : w'.os = w.os
  tape : w'.tape = w.tape
  output : w'.output = w.output
  size : w.heap.size ≤ w'.heap.size
  block : ∀ i, i < w.heap.size → ¬ X i → w'.heap[i]? = w.heap[i]?
theorem Ch.refl (X : Nat → Prop) (w : World) : Ch X w w := ⟨rfl, rfl, rfl, Nat.le_refl _, fun _ _ _ => rfl⟩
theorem Ch.trans {X : Nat → Prop} {a b c : World} (h : Ch X a b) (k : Ch X b c) : Ch X a c :=
  ⟨k.os.trans h.os, k.tape.trans h.tape, k.output.trans h.output, Nat.le_trans h.size k.size, fun i hi hx => (k.block i (Nat.lt_of_lt_of_le hi h.size) hx).trans (h.block i hi hx)⟩
theorem Ch.mono {X Y : Nat → Prop} {a b : World} (h : Ch X a b) (hxy : ∀ i, i < a.heap.size → X i → Y i) : Ch Y a b := ⟨h.os, h.tape, h.output, h.size, fun i hi hy => h.block i hi fun hx => hy (hxy i hi hx)⟩
theorem Ch.of_below {X : Nat → Prop} {B : Nat} {w w' : World} (h : Below B w w') (hB : w.heap.size ≤ B) : Ch X w w' := ⟨h.os, h.tape, h.output, h.size, fun i hi _ => h.block i (Nat.lt_of_lt_of_le hi hB)⟩
theorem Ch.of_grown {X : Nat → Prop} {w w' : World} {row : Option Nat} (h : w.grownBy w' row) (hr : ∀ g, row = some g → X g) : Ch X w w' := ⟨h.os, h.tape, h.output, h.size, fun i hi hx => h.block i hi fun e => hx (hr i e.symm)⟩
theorem Ch.set {X : Nat → Prop} {w : World} {g k : Nat} {u : Value} (hg : X g) : Ch X w (w.setCell ⟨g, k, none⟩ u) := .of_grown (grown_set (World.grownBy.refl _ _) k u) fun x e => by injection e with e; exact e ▸ hg
theorem Ch.drew {X : Nat → Prop} {w w' : World} (h : Ch X w w') : Ch X w w'.drew := ⟨h.os, h.tape, h.output, h.size, h.block⟩
theorem Ch.alloc {X : Nat → Prop} {w : World} (o : Obj) : Ch X w (w.alloc o) := .of_below (B := w.heap.size) below_a1 (Nat.le_refl _)
theorem Ch.cell {X : Nat → Prop} {w w' : World} (h : Ch X w w') {g o : Nat} (hg : g < w.heap.size) (hx : ¬ X g) : w'.cell? ⟨g, o, none⟩ = w.cell? ⟨g, o, none⟩ := World.cell?_of_block (h.block g hg hx)
theorem Ch.below {X : Nat → Prop} {B : Nat} {w0 w w' : World} (hb : Below B w0 w) (h : Ch X w w') (hX : ∀ i, X i → B ≤ i) (hz : B ≤ w.heap.size) : Below B w0 w' :=
  ⟨h.os.trans hb.os, h.tape.trans hb.tape, h.output.trans hb.output, Nat.le_trans hb.size h.size, fun i hi => (h.block i (by omega) (fun hx => by have := hX i hx; omega)).trans (hb.block i hi)⟩
/-- A set's cells. -/
def setF (st : Int) (rp rd ex : Value) : Nat → Value
  | 0 => .int .i64 st
  | 1 => .int .i64 0
  | 2 => rp
  | 3 => rd
  | _ => ex

theorem optF_start (fr t t' iv wk wn ct un u2 : Int) (p : Nat → Option Addr) (n c : Nat → Nat) (k : Nat) (hk : k ≠ 1) : optF fr t 0 iv wk wn ct un u2 p n c k = optF fr t' 0 iv wk wn ct un u2 p n c k := by
  match k, hk with
  | 0, _ | 2, _ | 3, _ | 4, _ | 5, _ | 6, _ | 7, _ | 8, _ => rfl
  | k + 9, _ => rfl
def RuleTurned (G : Nat) (arg : Nat → Value) (s : Int) (w : World) (e : Ending) (w' : World) : Prop := e = .returned (.tuple #[]) ∧ RuleAt w' G arg s ∧ w.grownBy w' (some G)
set_option maxRecDepth 100000 in
set_option maxHeartbeats 4000000 in
theorem rrStart_any {w : World} {G : Nat} {t0 s0 fr t iv wk wn ct un u2 : Int} {p : Nat → Option Addr} {n c : Nat → Nat} {l : Nat → List Int} {ds : List (Int × Int)} (hR : RuleAt w G (optF fr t0 0 iv wk wn ct un u2 p n c) s0) (h : OptOk w fr t iv wk wn ct un u2 p n c l ds)
    (hrow : ∀ k, 9 ≤ k → k < 19 → k ≠ 14 → ∀ g, p k = some ⟨g, 0, none⟩ → l k ≠ [] → g ≠ G) (hrow2 : ∀ g, p 14 = some ⟨g, 0, none⟩ → ds ≠ [] → g ≠ G) :
    Calls Tryz.prog 113 #[.pointer (some ⟨G, 0, none⟩), .agg #[.int .i64 t, .int .i64 0]] w fun e w' => RuleTurned G (optF fr t 0 iv wk wn ct un u2 p n c) (startOf t) w e w' := by
  obtain ⟨f, hf, hf1, hf2, hf3, hf4⟩ := hR
  obtain ⟨d2, hu2, hd2⟩ := u122
  have HU := Lib.hid (And.intro hu2 hd2)
  have hGl := hf.lt
  have HB1 := Lib.hid (below_a1 (w := w) (o := .cells #[.int .i64 t, .int .i64 0] 109))
  have HF1 := Lib.hid (hf.alloc (.cells #[.int .i64 t, .int .i64 0] 109))
  have HA := Lib.hid hf1
  have HO := Lib.hid hf4
  have HC := Lib.hid fun W (h : OptOk W fr t iv wk wn ct un u2 p n c l ds) => build_any h
  have HOK := Lib.hid h
  have HRW := Lib.hid (And.intro hrow hrow2)
  clear hu2 hd2 hf hf1 hf2 hf3 hf4 h hrow hrow2
  go_enter Tryz.func113, Tryz.ntmps113
  go_wp2_with fail
  refine (truncate_any t 0 _ _).mono ?_; rintro e w1 ⟨rfl, hb⟩
  have HF2 := Lib.hid (below_row HF1.out hb HF1.out.lt)
  have HB2 := Lib.hid (HB1.out.trans (hb.mono HB1.out.size))
  obtain ⟨v1, x1⟩ : ∃ v, w1.cell? ⟨G, 1, none⟩ = some v := ⟨_, HF2.out.cell (by decide)⟩
  obtain ⟨v2, x2⟩ : ∃ v, w1.cell? ⟨G, 2, none⟩ = some v := ⟨_, HF2.out.cell (by decide)⟩
  have z1 := HF2.out.frozen 1
  have z2 := HF2.out.frozen 2
  clear hb HF1 HB1
  have HF3 := Lib.hid ((HF2.out.set 1 (.int .i64 t)).set 2 (.int .i64 0))
  have HG3 := Lib.hid (grown_set (grown_set (show w.grownBy w1 (some G) from ⟨HB2.out.os, HB2.out.tape, HB2.out.output, HB2.out.size, fun i hi _ => HB2.out.block i hi⟩) 1 (.int .i64 t)) 2 (.int .i64 0))
  have hE : rowA 19 (fun j => if j = 2 then Value.int .i64 0 else if j = 1 then Value.int .i64 t else f j) = rowA 19 (optF fr t 0 iv wk wn ct un u2 p n c) := rowA_congr fun k hk => by
    by_cases h2 : k = 2
    · subst h2; rfl
    · by_cases h1 : k = 1
      · subst h1; rfl
      · rw [if_neg h2, if_neg h1, HA.out k hk]
        exact optF_start _ _ _ _ _ _ _ _ _ _ _ _ _ h1
  have HE := Lib.hid hE
  clear hE
  go_upto_region 2 with fail
  generalize (w1.setCell ⟨G, 1, none⟩ (.int .i64 t)).setCell ⟨G, 2, none⟩ (.int .i64 0) = w3 at *
  have HK := Lib.hid (show OptOk w3 fr t iv wk wn ct un u2 p n c l ds from ⟨fun k h1 h2 h3 => ⟨(HOK.out.row k h1 h2 h3).1, fun i x hx => by
      obtain ⟨g, e, hg, hc⟩ := (HOK.out.row k h1 h2 h3).2 i x hx
      have hne : g ≠ G := HRW.out.1 k h1 h2 h3 g e (fun e0 => by rw [e0] at hx; simp at hx)
      exact ⟨g, e, Nat.lt_of_lt_of_le hg HG3.out.size, (HG3.out.cell_far ⟨g, i, none⟩ hg (fun e => hne (by injection e))).trans hc⟩⟩,
    ⟨HOK.out.day.1, fun i k m hx => by
      obtain ⟨g, e, hg, hc, hc2⟩ := HOK.out.day.2 i k m hx
      have hne : g ≠ G := HRW.out.2 g e (fun e0 => by rw [e0] at hx; simp at hx)
      exact ⟨g, e, Nat.lt_of_lt_of_le hg HG3.out.size, (HG3.out.cell_far ⟨g, i * 2, none⟩ hg (fun e => hne (by injection e))).trans hc, (HG3.out.cell_far ⟨g, i * 2 + 1, none⟩ hg (fun e => hne (by injection e))).trans hc2⟩⟩,
    HOK.out.fr, HOK.out.t, HOK.out.len, HOK.out.dlen, HOK.out.prod, HOK.out.bd, HOK.out.dbd, HOK.out.iv⟩)
  clear x1 x2 z1 z2 HF2 HB2
  go_wp2_with (with_reducible refine gd_load 122 ?_; refine wpl_load_row0 rfl 122 _ rfl G 124 60 19 _ rfl HF3.out (by decide) d2 HU.out.1 HU.out.2 info122s ?_; rw [HE.out])
  refine (HC.out _ HK.out).mono ?_; rintro e w4 ⟨g, rfl, h1, h2, h3, h4, hb⟩
  have HF4 := Lib.hid (below_row HF3.out hb HF3.out.lt)
  have HG4 := Lib.hid (HG3.out.trans (show w3.grownBy w4 (some G) from ⟨hb.os, hb.tape, hb.output, hb.size, fun i hi _ => hb.block i hi⟩))
  have HH := Lib.hid (And.intro h1 (And.intro h2 (And.intro h3 h4)))
  clear hb h1 h2 h3 h4
  go_wp2_with (with_reducible refine gd_store 124 ?_; refine wpl_store_row rfl 124 _ _ rfl G 0 124 60 _ (rowA 60 g) rfl rfl HF4.out (le_rowA 0 60 60 g (by decide)) (info124r g) (rowA_all fun i _ => HH.out.2.2.2 i) ?_; intro w5 hr5 hg5; have HR5 := Lib.hid hr5; have HG5 := Lib.hid (HG4.out.trans hg5); clear hr5 hg5)
  go_end0
  refine ⟨rfl, ⟨_, HR5.out, fun k hk => ?_, ?_, ?_, updR_one (fun k => ?_) HH.out.2.2.2⟩, HG5.out⟩
  · rw [updR_in (by omega) (by omega), Nat.sub_zero]; exact HH.out.1 k hk
  · rw [updR_in (by omega) (by omega), Nat.sub_zero]; exact HH.out.2.1
  · rw [updR_in (by omega) (by omega), Nat.sub_zero]; exact HH.out.2.2.1
  · by_cases e2 : k = 2
    · rw [if_pos e2]; rfl
    · rw [if_neg e2]
      by_cases e1 : k = 1
      · rw [if_pos e1]; rfl
      · rw [if_neg e1]; exact HO.out k
end Go.Proofs.YtnlpjncljbaapaaGreatDoor

/- A set's methods, walked: its start, its rule, its dates. -/
namespace Go.Proofs.YtnlpjncljbaapaaGreatDoor
open Go.RowKit

theorem setF_upd0 (st st' : Int) (rp rd ex : Value) : upd (upd (setF st rp rd ex) 0 (.int .i64 st')) 1 (.int .i64 0) = setF st' rp rd ex := by
  funext k
  match k with
  | 0 | 1 | 2 | 3 => rfl
  | k + 4 => rfl
theorem setF_upd2 (st : Int) (rp rp' rd ex : Value) : upd (setF st rp rd ex) 2 rp' = setF st rp' rd ex := by
  funext k
  match k with
  | 0 | 1 | 2 | 3 => rfl
  | k + 4 => rfl
theorem setF_upd3 (st : Int) (rp rd rd' ex : Value) : upd (setF st rp rd ex) 3 rd' = setF st rp rd' ex := by
  funext k
  match k with
  | 0 | 1 | 2 | 3 => rfl
  | k + 4 => rfl
theorem setF_upd4 {w : World} {S t : Nat} {st : Int} {rp rd ex ex' : Value} (h : w.rowIs S t 5 (upd (setF st rp rd ex) 4 ex')) : w.rowIs S t 5 (setF st rp rd ex') :=
  World.rowIs.congr h fun k hk => by
    match k, hk with
    | 0, _ | 1, _ | 2, _ | 3, _ | 4, _ => rfl
    | k + 5, hk => omega
def SetTurned (S : Nat) (st : Int) (rp rd ex : Value) (w : World) (e : Ending) (w' : World) : Prop := e = .returned (.tuple #[]) ∧ w'.rowIs S 132 5 (setF st rp rd ex) ∧ w.grownBy w' (some S)
set_option maxRecDepth 100000 in
set_option maxHeartbeats 4000000 in
theorem sStart_any {w : World} {S : Nat} {st0 st : Int} {rd ex : Value} (h : w.rowIs S 132 5 (setF st0 (.pointer none) rd ex)) :
    Calls Tryz.prog 69 #[.pointer (some ⟨S, 0, none⟩), .agg #[.int .i64 st, .int .i64 0]] w fun e w' => SetTurned S st (.pointer none) rd ex w e w' := by
  have HB1 := Lib.hid (below_a1 (w := w) (o := .cells #[.int .i64 st, .int .i64 0] 109))
  have HF1 := Lib.hid (h.alloc (.cells #[.int .i64 st, .int .i64 0] 109))
  clear h
  go_enter Tryz.func69, Tryz.ntmps69
  go_wp2_with fail
  refine (truncate_any st 0 _ _).mono ?_; rintro e w1 ⟨rfl, hb⟩
  have HF2 := Lib.hid (below_row HF1.out hb HF1.out.lt)
  have HB2 := Lib.hid (HB1.out.trans (hb.mono HB1.out.size))
  obtain ⟨v1, x1⟩ : ∃ v, w1.cell? ⟨S, 0, none⟩ = some v := ⟨_, HF2.out.cell (by decide)⟩
  obtain ⟨v2, x2⟩ : ∃ v, w1.cell? ⟨S, 1, none⟩ = some v := ⟨_, HF2.out.cell (by decide)⟩
  have z1 := HF2.out.frozen 0
  have z2 := HF2.out.frozen 1
  have x3 : w1.cell? ⟨S, 2, none⟩ = some (.pointer none) := HF2.out.cell (by decide)
  clear hb
  go_wp2_with fail
  go_end0
  refine ⟨rfl, ?_, grown_set (grown_set (show w.grownBy w1 (some S) from ⟨HB2.out.os, HB2.out.tape, HB2.out.output, HB2.out.size, fun i hi _ => HB2.out.block i hi⟩) 0 _) 1 _⟩
  have := (HF2.out.set 0 (.int .i64 st)).set 1 (.int .i64 0)
  exact World.rowIs.congr this fun k _ => congrFun (setF_upd0 st0 st (.pointer none) rd ex) k
theorem isZero_no (s : Int) (w : World) (hs : s ≠ 0) : Calls Tryz.prog 77 #[.agg #[.int .i64 s, .int .i64 0]] w fun e w' => e = .returned (.bool false) ∧ Below w.heap.size w w' :=
  (isZero_any s 0 w).mono fun _ _ ⟨he, hb⟩ => ⟨by rw [he]; simp [hs], hb⟩
def SetRuled (S G : Nat) (st : Int) (arg : Nat → Value) (rd ex : Value) (w : World) (e : Ending) (w' : World) : Prop := e = .returned (.tuple #[]) ∧ w'.rowIs S 132 5 (setF st (.pointer (some ⟨G, 0, none⟩)) rd ex) ∧ RuleAt w' G arg (startOf st) ∧ Ch (fun i => i = S ∨ i = G) w w'
set_option maxRecDepth 100000 in
set_option maxHeartbeats 4000000 in
theorem sRule_any {w : World} {S G : Nat} {s0 fr st iv wk wn ct un u2 : Int} {rp rd ex : Value} {p : Nat → Option Addr} {n c : Nat → Nat} {l : Nat → List Int} {ds : List (Int × Int)} (hS : w.rowIs S 132 5 (setF st rp rd ex)) (hR : RuleAt w G (optF fr 0 0 iv wk wn ct un u2 p n c) s0) (h : OptOk w fr st iv wk wn ct un u2 p n c l ds)
    (hrow : ∀ k, 9 ≤ k → k < 19 → k ≠ 14 → ∀ g, p k = some ⟨g, 0, none⟩ → l k ≠ [] → g ≠ G) (hrow2 : ∀ g, p 14 = some ⟨g, 0, none⟩ → ds ≠ [] → g ≠ G) (hst : st ≠ 0) (hne : S ≠ G) :
    Calls Tryz.prog 73 #[.pointer (some ⟨S, 0, none⟩), .pointer (some ⟨G, 0, none⟩)] w fun e w' => SetRuled S G st (optF fr st 0 iv wk wn ct un u2 p n c) rd ex w e w' := by
  have hRR := hR
  obtain ⟨f, hf, hf1, _⟩ := hR
  have x1 : w.cell? ⟨G, 1, none⟩ = some (.int .i64 0) := (hf.cell (i := 1) (by decide)).trans (congrArg some (hf1 1 (by decide)))
  have x2 : w.cell? ⟨G, 2, none⟩ = some (.int .i64 0) := (hf.cell (i := 2) (by decide)).trans (congrArg some (hf1 2 (by decide)))
  have HST := Lib.hid hst
  have HN := Lib.hid hne
  have HS := Lib.hid hS
  have HC := Lib.hid fun W (hR : RuleAt W G (optF fr 0 0 iv wk wn ct un u2 p n c) s0) (h : OptOk W fr st iv wk wn ct un u2 p n c l ds) => rrStart_any hR h hrow hrow2
  have HR := Lib.hid hRR
  have HK := Lib.hid h
  clear hRR hf hf1 hst hne hS h hrow hrow2
  go_enter Tryz.func73, Tryz.ntmps73
  go_wp2_with fail
  refine (isZero_any 0 0 _).mono ?_; rintro e w1 ⟨rfl, hb⟩
  have HB1 := Lib.hid hb
  have HS1 := Lib.hid (below_row HS.out hb HS.out.lt)
  have HR1 := Lib.hid (HR.out.of_block (hb.block G HR.out.lt))
  have HK1 := Lib.hid (HK.out.below hb)
  have y0 : w1.cell? ⟨S, 0, none⟩ = some (.int .i64 st) := HS1.out.cell (i := 0) (by decide)
  have y1 : w1.cell? ⟨S, 1, none⟩ = some (.int .i64 0) := HS1.out.cell (i := 1) (by decide)
  clear hb x1 x2
  go_wp2_with fail
  refine (isZero_no st _ HST.out).mono ?_; rintro e w2 ⟨rfl, hb⟩
  have HB2 := Lib.hid (HB1.out.trans (hb.mono HB1.out.size))
  have HS2 := Lib.hid (below_row HS1.out hb HS1.out.lt)
  have HR2 := Lib.hid (HR1.out.of_block (hb.block G HR1.out.lt))
  have HK2 := Lib.hid (HK1.out.below hb)
  have z0 : w2.cell? ⟨S, 0, none⟩ = some (.int .i64 st) := HS2.out.cell (i := 0) (by decide)
  have z1 : w2.cell? ⟨S, 1, none⟩ = some (.int .i64 0) := HS2.out.cell (i := 1) (by decide)
  clear hb y0 y1
  go_wp2_with fail
  refine (HC.out _ HR2.out HK2.out).mono ?_; rintro e w3 ⟨rfl, hR3, hG⟩
  have HS3 := Lib.hid (HS2.out.of_block (hG.block S HS2.out.lt (fun e => HN.out (by injection e))))
  have HR3 := Lib.hid hR3
  have HG3 := Lib.hid hG
  obtain ⟨v2, q2⟩ : ∃ v, w3.cell? ⟨S, 2, none⟩ = some v := ⟨_, HS3.out.cell (by decide)⟩
  have q3 := HS3.out.frozen 2
  clear hR3 hG z0 z1
  go_wp2_with fail
  go_end0
  refine ⟨rfl, World.rowIs.congr (HS3.out.set 2 _) fun k _ => congrFun (setF_upd2 st rp _ rd ex) k, HR3.out.of_block (Below.heap_setCell _ _ _ _ (Ne.symm HN.out)), ?_⟩
  exact (Ch.of_below (X := fun i => i = S ∨ i = G) HB2.out (Nat.le_refl _)).trans ((Ch.of_grown HG3.out (fun g e => by injection e with e; exact .inr e.symm)).trans (.set (.inl rfl)))
/-- A date is put behind those of a set. -/
def SetDated (S B : Nat) (st : Int) (rp : Value) (other : Value) (ks : Bool) (v : Value) (ts : List Int) (w : World) (e : Ending) (w' : World) : Prop :=
  ∃ g cap, e = .returned (.tuple #[]) ∧ w'.rowIs S 132 5 (bif ks then setF st rp (.slice (some ⟨g, 0, none⟩) ts.length cap) other else setF st rp other (.slice (some ⟨g, 0, none⟩) ts.length cap)) ∧ w'.ownsRow B 109 2 (.slice (some ⟨g, 0, none⟩) ts.length cap) ts.length (timeVs ts) ∧
    (some g = v.ownBlock ∨ w.heap.size ≤ g) ∧ Ch (fun i => i = S ∨ some i = v.ownBlock) w w'
set_option maxRecDepth 100000 in
set_option maxHeartbeats 4000000 in
theorem sRDate_any {w : World} {S B : Nat} {st t : Int} {rp rd ex : Value} {ts : List Int} (hS : w.rowIs S 132 5 (setF st rp rd ex)) (ho : w.ownsRow B 109 2 rd ts.length (timeVs ts)) (hB : B ≤ w.heap.size) (hSB : S < B) (hl : ts.length ≤ 1000000) :
    Calls Tryz.prog 100 #[.pointer (some ⟨S, 0, none⟩), .agg #[.int .i64 t, .int .i64 0]] w fun e w' => SetDated S B st rp ex true rd (ts ++ [t]) w e w' := by
  have HS := Lib.hid (hS.alloc (.cells #[.int .i64 t, .int .i64 0] 109))
  have HO := Lib.hid (ho.alloc (.cells #[.int .i64 t, .int .i64 0] 109))
  have HB1 := Lib.hid (below_a1 (w := w) (o := .cells #[.int .i64 t, .int .i64 0] 109))
  have hSl := hS.lt
  obtain ⟨i0, hi0, hzz⟩ := Option.map_eq_some_iff.1 info109
  simp only [Prod.mk.injEq] at hzz
  obtain ⟨hz0, hz1, hz2⟩ := hzz
  have HI := Lib.hid (And.intro hi0 (And.intro hz0 (And.intro hz1 hz2)))
  have hm2 : (ts.length + 1) * 16 ≤ 140737488355328 := by omega
  have x3 : (w.alloc (.cells #[.int .i64 t, .int .i64 0] 109)).cell? ⟨S, 3, none⟩ = some rd := HS.out.cell (i := 3) (by decide)
  have y0 : (w.alloc (.cells #[.int .i64 t, .int .i64 0] 109)).cell? ⟨w.heap.size, 0, none⟩ = some (.int .i64 t) := by simp
  have y1 : (w.alloc (.cells #[.int .i64 t, .int .i64 0] 109)).cell? ⟨w.heap.size, 1, none⟩ = some (.int .i64 0) := by simp
  have hz : (w.alloc (.cells #[.int .i64 t, .int .i64 0] 109)).heap.size = w.heap.size + 1 := by simp
  have HZ := Lib.hid hz
  clear hS ho hi0 hz0 hz1 hz2 hz
  go_enter Tryz.func100, Tryz.ntmps100
  go_upto_region 1 with fail
  generalize hw1 : w.alloc (.cells #[.int .i64 t, .int .i64 0] 109) = w1 at *
  have hl1 : w.heap.size < w1.heap.size := by have := HZ.out; omega
  have hS1 : S < w1.heap.size := by omega
  generalize hX : w.heap.size = X at *
  have HX := Lib.hid hX
  clear hw1 hX
  go_region_law
    (first
      | (go_simp; go_at_call 112; refine (truncate_any t 0 _ _).mono ?_; rintro e w6 ⟨rfl, hb6⟩; have HS6 := Lib.hid (below_row (w := w1.drew) HS.out.drew hb6 hS1); have HO6 := Lib.hid (own_below (own_drew HO.out) hb6); have d3 : w6.cell? ⟨S, 3, none⟩ = some rd := (hb6.cell (p := ⟨S, 3, none⟩) hS1).trans x3; have HC6 := Lib.hid (Ch.of_below (X := fun i => i = S ∨ some i = rd.ownBlock) (w := w1.drew) hb6 (Nat.le_refl _)); have hz6 : w1.heap.size ≤ w6.heap.size := hb6.size; have hS6 : S < w6.heap.size := Nat.lt_of_lt_of_le hS1 hb6.size; clear hb6)
      | (refine step_append_lies _ rfl (.tmp 8) (.tmp 11) 113 rfl B 109 i0 (.agg #[.int .i64 0, .int .i64 0]) 2 16 Tryz.underlying113 HI.out.1 HI.out.2.1 HI.out.2.2.1 HI.out.2.2.2 rfl (by decide) rd ts.length (timeVs ts) (by simp [Act.eval]) (HO6.out.alloc _) ⟨w6.heap.size, 0, none⟩ 1 1 [.int .i64 t, .int .i64 0] (by simp [Act.eval]) rfl (World.news_of_block (cs := #[.int .i64 t, .int .i64 0]) (t := 109) (fr := (0, 0)) (heap_alloc_new w6 _)) (by simp [Value.oneCell']) (by decide) (by simp only [maxLen]; omega) (by omega) (by rw [World.size_alloc]; omega) _ rfl ?_; intro g7 cap7 w8 hown7 hgrow7 hat7 hlt7; have HS8 := Lib.hid ((HS6.out.alloc (.cells #[.int .i64 t, .int .i64 0] 109)).of_block (hgrow7.block S (by rw [World.size_alloc]; omega) (fun e => by have := (HO6.out.lt S e.symm).1; omega))); have e3 : w8.cell? ⟨S, 3, none⟩ = some rd := HS8.out.cell (i := 3) (by decide); have q3 := HS8.out.frozen 3))
  all_goals
    go_wp2_with fail
    go_end0
    have hlen : (ts ++ [t]).length = ts.length + 1 := by simp
    unfold SetDated
    rw [hlen, timeVs_snoc]
    refine ⟨g7, cap7, rfl, World.rowIs.congr (HS8.out.set 3 _) fun k _ => congrFun (setF_upd3 st rp _ _ ex) k, own_set hown7 hSB, ?_, ?_⟩
    · rcases hat7 with h | h
      · exact .inl h.symm
      · right
        rw [HX.out, h]
        simp
        omega
    · have h1 : Ch (fun i => i = S ∨ some i = rd.ownBlock) w w1 := Ch.of_below HB1.out (by have := HX.out; omega)
      exact h1.drew.trans (HC6.out.trans ((Ch.alloc _).trans ((Ch.of_grown hgrow7 (fun g e => .inr e.symm)).trans (.set (.inl rfl)))))
set_option maxRecDepth 100000 in
set_option maxHeartbeats 4000000 in
theorem sExDate_any {w : World} {S B : Nat} {st t : Int} {rp rd ex : Value} {ts : List Int} (hS : w.rowIs S 132 5 (setF st rp rd ex)) (ho : w.ownsRow B 109 2 ex ts.length (timeVs ts)) (hB : B ≤ w.heap.size) (hSB : S < B) (hl : ts.length ≤ 1000000) :
    Calls Tryz.prog 101 #[.pointer (some ⟨S, 0, none⟩), .agg #[.int .i64 t, .int .i64 0]] w fun e w' => SetDated S B st rp rd false ex (ts ++ [t]) w e w' := by
  have HS := Lib.hid (hS.alloc (.cells #[.int .i64 t, .int .i64 0] 109))
  have HO := Lib.hid (ho.alloc (.cells #[.int .i64 t, .int .i64 0] 109))
  have HB1 := Lib.hid (below_a1 (w := w) (o := .cells #[.int .i64 t, .int .i64 0] 109))
  have hSl := hS.lt
  obtain ⟨i0, hi0, hzz⟩ := Option.map_eq_some_iff.1 info109
  simp only [Prod.mk.injEq] at hzz
  obtain ⟨hz0, hz1, hz2⟩ := hzz
  have HI := Lib.hid (And.intro hi0 (And.intro hz0 (And.intro hz1 hz2)))
  have hm2 : (ts.length + 1) * 16 ≤ 140737488355328 := by omega
  have x3 : (w.alloc (.cells #[.int .i64 t, .int .i64 0] 109)).cell? ⟨S, 4, none⟩ = some ex := HS.out.cell (i := 4) (by decide)
  have y0 : (w.alloc (.cells #[.int .i64 t, .int .i64 0] 109)).cell? ⟨w.heap.size, 0, none⟩ = some (.int .i64 t) := by simp
  have y1 : (w.alloc (.cells #[.int .i64 t, .int .i64 0] 109)).cell? ⟨w.heap.size, 1, none⟩ = some (.int .i64 0) := by simp
  have hz : (w.alloc (.cells #[.int .i64 t, .int .i64 0] 109)).heap.size = w.heap.size + 1 := by simp
  have HZ := Lib.hid hz
  clear hS ho hi0 hz0 hz1 hz2 hz
  go_enter Tryz.func101, Tryz.ntmps101
  go_upto_region 1 with fail
  generalize hw1 : w.alloc (.cells #[.int .i64 t, .int .i64 0] 109) = w1 at *
  have hl1 : w.heap.size < w1.heap.size := by have := HZ.out; omega
  have hS1 : S < w1.heap.size := by omega
  generalize hX : w.heap.size = X at *
  have HX := Lib.hid hX
  clear hw1 hX
  go_region_law
    (first
      | (go_simp; go_at_call 112; refine (truncate_any t 0 _ _).mono ?_; rintro e w6 ⟨rfl, hb6⟩; have HS6 := Lib.hid (below_row (w := w1.drew) HS.out.drew hb6 hS1); have HO6 := Lib.hid (own_below (own_drew HO.out) hb6); have d3 : w6.cell? ⟨S, 4, none⟩ = some ex := (hb6.cell (p := ⟨S, 4, none⟩) hS1).trans x3; have HC6 := Lib.hid (Ch.of_below (X := fun i => i = S ∨ some i = ex.ownBlock) (w := w1.drew) hb6 (Nat.le_refl _)); have hz6 : w1.heap.size ≤ w6.heap.size := hb6.size; have hS6 : S < w6.heap.size := Nat.lt_of_lt_of_le hS1 hb6.size; clear hb6)
      | (refine step_append_lies _ rfl (.tmp 8) (.tmp 11) 113 rfl B 109 i0 (.agg #[.int .i64 0, .int .i64 0]) 2 16 Tryz.underlying113 HI.out.1 HI.out.2.1 HI.out.2.2.1 HI.out.2.2.2 rfl (by decide) ex ts.length (timeVs ts) (by simp [Act.eval]) (HO6.out.alloc _) ⟨w6.heap.size, 0, none⟩ 1 1 [.int .i64 t, .int .i64 0] (by simp [Act.eval]) rfl (World.news_of_block (cs := #[.int .i64 t, .int .i64 0]) (t := 109) (fr := (0, 0)) (heap_alloc_new w6 _)) (by simp [Value.oneCell']) (by decide) (by simp only [maxLen]; omega) (by omega) (by rw [World.size_alloc]; omega) _ rfl ?_; intro g7 cap7 w8 hown7 hgrow7 hat7 hlt7; have HS8 := Lib.hid ((HS6.out.alloc (.cells #[.int .i64 t, .int .i64 0] 109)).of_block (hgrow7.block S (by rw [World.size_alloc]; omega) (fun e => by have := (HO6.out.lt S e.symm).1; omega))); have e3 : w8.cell? ⟨S, 4, none⟩ = some ex := HS8.out.cell (i := 4) (by decide); have q3 := HS8.out.frozen 4))
  all_goals
    go_wp2_with fail
    go_end0
    have hlen : (ts ++ [t]).length = ts.length + 1 := by simp
    unfold SetDated
    rw [hlen, timeVs_snoc]
    refine ⟨g7, cap7, rfl, setF_upd4 (HS8.out.set 4 _), own_set hown7 hSB, ?_, ?_⟩
    · rcases hat7 with h | h
      · exact .inl h.symm
      · right
        rw [HX.out, h]
        simp
        omega
    · have h1 : Ch (fun i => i = S ∨ some i = ex.ownBlock) w w1 := Ch.of_below HB1.out (by have := HX.out; omega)
      exact h1.drew.trans (HC6.out.trans ((Ch.alloc _).trans ((Ch.of_grown hgrow7 (fun g e => .inr e.symm)).trans (.set (.inl rfl)))))
end Go.Proofs.YtnlpjncljbaapaaGreatDoor
