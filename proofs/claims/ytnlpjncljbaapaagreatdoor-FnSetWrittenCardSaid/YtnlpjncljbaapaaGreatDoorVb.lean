/- The bounds of a rule's numbers, walked. -/
import Derived.Test.YtnlpjncljbaapaaGreatDoorRo
namespace Go.Proofs.YtnlpjncljbaapaaGreatDoor
open Go.RowKit

def inB (v lo hi : Int) (pm : Bool) : Prop := (lo ≤ v ∧ v ≤ hi) ∨ (pm = true ∧ v ≤ -lo ∧ -hi ≤ v)
set_option maxRecDepth 100000 in
set_option maxHeartbeats 1000000 in
theorem chk_ok (s : ByteArray) (v lo hi : Int) (pm : Bool) (b : Nat) (w : World) (h0 : w.cell? ⟨b, 0, none⟩ = some (.int .i64 lo)) (h1 : w.cell? ⟨b, 1, none⟩ = some (.int .i64 hi)) (hlo : 0 ≤ lo) (hlo2 : lo ≤ 400) (hhi : 0 ≤ hi) (hhi2 : hi ≤ 400) (h : inB v lo hi pm) :
    Calls Tryz.prog 158 #[.string s, .int .i64 v, .slice (some ⟨b, 0, none⟩) 2 2, .bool pm] w fun e w' => e = .returned .nilIface ∧ w' = w := by
  have hi0 : (0 : Int) < ((2 : Nat) : Int) := by decide
  have hi1 : (1 : Int) < ((2 : Nat) : Int) := by decide
  have e1 : IntKind.i64.wrap (-lo) = -lo := by simp [IntKind.wrap, IntKind.bits, IntKind.signed]; omega
  have e2 : IntKind.i64.wrap (-hi) = -hi := by simp [IntKind.wrap, IntKind.bits, IntKind.signed]; omega
  unfold inB at h
  go_enter Tryz.func158, Tryz.ntmps158
  go_wp2
  all_goals first
    | (exfalso; rcases h with ⟨h1, h2⟩ | ⟨h3, h1, h2⟩ <;> first | omega | exact absurd h3 (by decide) | (simp_all <;> omega))
    | (go_ret; exact ⟨rfl, rfl⟩)
/-- A row of numbers, for reading: a slice's address and length hold these. -/
def RowI (w : World) (p : Option Addr) (n : Nat) (l : List Int) : Prop := n = l.length ∧ ∀ (i : Nat) x, l[i]? = some x → ∃ g, p = some ⟨g, 0, none⟩ ∧ g < w.heap.size ∧ w.cell? ⟨g, i, none⟩ = some (.int .i64 x)
def RowD (w : World) (p : Option Addr) (n : Nat) (l : List (Int × Int)) : Prop := n = l.length ∧ ∀ (i : Nat) k m, l[i]? = some (k, m) → ∃ g, p = some ⟨g, 0, none⟩ ∧ g < w.heap.size ∧ w.cell? ⟨g, i * 2, none⟩ = some (.int .i64 k) ∧ w.cell? ⟨g, i * 2 + 1, none⟩ = some (.int .i64 m)
theorem RowI.below {w w' : World} {p : Option Addr} {n : Nat} {l : List Int} (h : RowI w p n l) (hb : Below w.heap.size w w') : RowI w' p n l :=
  ⟨h.1, fun i x hx => by obtain ⟨g, e, hg, hc⟩ := h.2 i x hx; exact ⟨g, e, Nat.lt_of_lt_of_le hg hb.size, (hb.cell hg).trans hc⟩⟩
theorem RowD.below {w w' : World} {p : Option Addr} {n : Nat} {l : List (Int × Int)} (h : RowD w p n l) (hb : Below w.heap.size w w') : RowD w' p n l :=
  ⟨h.1, fun i k m hx => by obtain ⟨g, e, hg, hc, hc2⟩ := h.2 i k m hx; exact ⟨g, e, Nat.lt_of_lt_of_le hg hb.size, (hb.cell hg).trans hc, (hb.cell hg).trans hc2⟩⟩
def bCell : Nat → Nat
  | 0 => 17
  | 1 => 16
  | 2 => 15
  | 3 => 11
  | 4 => 12
  | 5 => 13
  | 6 => 10
  | 7 => 9
  | _ => 9
def bLo : Nat → Int
  | 0 => 0
  | 1 => 0
  | 2 => 0
  | 3 => 1
  | 4 => 1
  | 5 => 1
  | 6 => 1
  | 7 => 1
  | _ => 0
def bHi : Nat → Int
  | 0 => 59
  | 1 => 59
  | 2 => 23
  | 3 => 31
  | 4 => 366
  | 5 => 53
  | 6 => 12
  | 7 => 366
  | _ => 0
def bPm : Nat → Bool
  | 0 => false
  | 1 => false
  | 2 => false
  | 3 => true
  | 4 => true
  | 5 => true
  | 6 => false
  | 7 => true
  | _ => false
def bNm : Nat → ByteArray
  | 0 => ⟨#[98, 121, 115, 101, 99, 111, 110, 100]⟩
  | 1 => ⟨#[98, 121, 109, 105, 110, 117, 116, 101]⟩
  | 2 => ⟨#[98, 121, 104, 111, 117, 114]⟩
  | 3 => ⟨#[98, 121, 109, 111, 110, 116, 104, 100, 97, 121]⟩
  | 4 => ⟨#[98, 121, 121, 101, 97, 114, 100, 97, 121]⟩
  | 5 => ⟨#[98, 121, 119, 101, 101, 107, 110, 111]⟩
  | 6 => ⟨#[98, 121, 109, 111, 110, 116, 104]⟩
  | 7 => ⟨#[98, 121, 115, 101, 116, 112, 111, 115]⟩
  | _ => ⟨#[]⟩
theorem b_bd (k : Nat) : 0 ≤ bLo k ∧ bLo k ≤ 400 ∧ 0 ≤ bHi k ∧ bHi k ≤ 400 := by
  match k with
  | 0 | 1 | 2 | 3 | 4 | 5 | 6 | 7 => decide
  | k + 8 => simp [bLo, bHi]
/-- The table of bounds in memory. -/
structure BTab (w : World) (B S : Nat) (p : Nat → Option Addr) (n c : Nat → Nat) : Prop where
  row : ∀ k, k < 8 → w.cell? ⟨B, k * 4, none⟩ = some (.slice (p (bCell k)) (n (bCell k)) (c (bCell k))) ∧ w.cell? ⟨B, k * 4 + 1, none⟩ = some (.string (bNm k)) ∧ w.cell? ⟨B, k * 4 + 2, none⟩ = some (.slice (some ⟨S + k, 0, none⟩) 2 2) ∧ w.cell? ⟨B, k * 4 + 3, none⟩ = some (.bool (bPm k))
  lo : ∀ k, k < 8 → w.cell? ⟨S + k, 0, none⟩ = some (.int .i64 (bLo k)) ∧ w.cell? ⟨S + k, 1, none⟩ = some (.int .i64 (bHi k))
  b : B < w.heap.size
  s : S + 8 ≤ B
theorem BTab.below {w w' : World} {B S : Nat} {p : Nat → Option Addr} {n c : Nat → Nat} (h : BTab w B S p n c) (hb : Below w.heap.size w w') : BTab w' B S p n c where
  row := fun k hk => ⟨(hb.cell h.b).trans (h.row k hk).1, (hb.cell h.b).trans (h.row k hk).2.1, (hb.cell h.b).trans (h.row k hk).2.2.1, (hb.cell h.b).trans (h.row k hk).2.2.2⟩
  lo := fun k hk => by
    have := h.b; have := h.s
    exact ⟨(hb.cell (p := ⟨S + k, 0, none⟩) (by simp; omega)).trans (h.lo k hk).1, (hb.cell (p := ⟨S + k, 1, none⟩) (by simp; omega)).trans (h.lo k hk).2⟩
  b := Nat.lt_of_lt_of_le h.b hb.size
  s := h.s
/-- Options as a value. -/
def optV (fr t t2 iv wk wn ct un u2 : Int) (p : Nat → Option Addr) (n c : Nat → Nat) : Value :=
  .agg #[.int .i64 fr, .int .i64 t, .int .i64 t2, .int .i64 iv, .int .i64 wk, .int .i64 wn, .int .i64 ct, .int .i64 un, .int .i64 u2, .slice (p 9) (n 9) (c 9), .slice (p 10) (n 10) (c 10), .slice (p 11) (n 11) (c 11), .slice (p 12) (n 12) (c 12), .slice (p 13) (n 13) (c 13), .slice (p 14) (n 14) (c 14), .slice (p 15) (n 15) (c 15), .slice (p 16) (n 16) (c 16), .slice (p 17) (n 17) (c 17), .slice (p 18) (n 18) (c 18)]
theorem cell_new {W : World} {c : Array Value} {t : TypeId} {b i : Nat} (hb : b = W.heap.size) : (W.alloc (.cells c t)).cell? ⟨b, i, none⟩ = c[i]? := by subst hb; simp
theorem cell_old {W : World} {o : Obj} {b i : Nat} (hb : b < W.heap.size) : (W.alloc o).cell? ⟨b, i, none⟩ = W.cell? ⟨b, i, none⟩ := World.cell?_alloc_lt _ _ _ hb
def bW (w : World) (c0 : Array Value) (p : Nat → Option Addr) (n c : Nat → Nat) : World :=
  (((((((((w.alloc (.cells c0 122)).alloc (.cells #[.int .i64 0, .int .i64 59] 3)).alloc (.cells #[.int .i64 0, .int .i64 59] 3)).alloc (.cells #[.int .i64 0, .int .i64 23] 3)).alloc (.cells #[.int .i64 1, .int .i64 31] 3)).alloc (.cells #[.int .i64 1, .int .i64 366] 3)).alloc (.cells #[.int .i64 1, .int .i64 53] 3)).alloc (.cells #[.int .i64 1, .int .i64 12] 3)).alloc (.cells #[.int .i64 1, .int .i64 366] 3)).alloc (.cells #[.slice (p 17) (n 17) (c 17), .string ⟨#[98, 121, 115, 101, 99, 111, 110, 100]⟩, .slice (some ⟨w.heap.size + 1, 0, none⟩) 2 2, .bool false, .slice (p 16) (n 16) (c 16), .string ⟨#[98, 121, 109, 105, 110, 117, 116, 101]⟩, .slice (some ⟨w.heap.size + 1 + 1, 0, none⟩) 2 2, .bool false, .slice (p 15) (n 15) (c 15), .string ⟨#[98, 121, 104, 111, 117, 114]⟩, .slice (some ⟨w.heap.size + 1 + 1 + 1, 0, none⟩) 2 2, .bool false, .slice (p 11) (n 11) (c 11), .string ⟨#[98, 121, 109, 111, 110, 116, 104, 100, 97, 121]⟩, .slice (some ⟨w.heap.size + 1 + 1 + 1 + 1, 0, none⟩) 2 2, .bool true, .slice (p 12) (n 12) (c 12), .string ⟨#[98, 121, 121, 101, 97, 114, 100, 97, 121]⟩, .slice (some ⟨w.heap.size + 1 + 1 + 1 + 1 + 1, 0, none⟩) 2 2, .bool true, .slice (p 13) (n 13) (c 13), .string ⟨#[98, 121, 119, 101, 101, 107, 110, 111]⟩, .slice (some ⟨w.heap.size + 1 + 1 + 1 + 1 + 1 + 1, 0, none⟩) 2 2, .bool true, .slice (p 10) (n 10) (c 10), .string ⟨#[98, 121, 109, 111, 110, 116, 104]⟩, .slice (some ⟨w.heap.size + 1 + 1 + 1 + 1 + 1 + 1 + 1, 0, none⟩) 2 2, .bool false, .slice (p 9) (n 9) (c 9), .string ⟨#[98, 121, 115, 101, 116, 112, 111, 115]⟩, .slice (some ⟨w.heap.size + 1 + 1 + 1 + 1 + 1 + 1 + 1 + 1, 0, none⟩) 2 2, .bool true] 229)
set_option maxHeartbeats 1000000 in
theorem bW_tab (w : World) (c0 : Array Value) (p : Nat → Option Addr) (n c : Nat → Nat) : BTab (bW w c0 p n c) (w.heap.size + 9) (w.heap.size + 1) p n c where
  row := fun k hk => by
    match k, hk with
    | 0, _ => exact ⟨(cell_new (by simp)).trans rfl, (cell_new (by simp)).trans rfl, (cell_new (by simp)).trans rfl, (cell_new (by simp)).trans rfl⟩
    | 1, _ => exact ⟨(cell_new (by simp)).trans rfl, (cell_new (by simp)).trans rfl, (cell_new (by simp)).trans rfl, (cell_new (by simp)).trans rfl⟩
    | 2, _ => exact ⟨(cell_new (by simp)).trans rfl, (cell_new (by simp)).trans rfl, (cell_new (by simp)).trans rfl, (cell_new (by simp)).trans rfl⟩
    | 3, _ => exact ⟨(cell_new (by simp)).trans rfl, (cell_new (by simp)).trans rfl, (cell_new (by simp)).trans rfl, (cell_new (by simp)).trans rfl⟩
    | 4, _ => exact ⟨(cell_new (by simp)).trans rfl, (cell_new (by simp)).trans rfl, (cell_new (by simp)).trans rfl, (cell_new (by simp)).trans rfl⟩
    | 5, _ => exact ⟨(cell_new (by simp)).trans rfl, (cell_new (by simp)).trans rfl, (cell_new (by simp)).trans rfl, (cell_new (by simp)).trans rfl⟩
    | 6, _ => exact ⟨(cell_new (by simp)).trans rfl, (cell_new (by simp)).trans rfl, (cell_new (by simp)).trans rfl, (cell_new (by simp)).trans rfl⟩
    | 7, _ => exact ⟨(cell_new (by simp)).trans rfl, (cell_new (by simp)).trans rfl, (cell_new (by simp)).trans rfl, (cell_new (by simp)).trans rfl⟩
  lo := fun k hk => by
    match k, hk with
    | 0, _ => exact ⟨(cell_old (by simp)).trans ((cell_old (by simp)).trans ((cell_old (by simp)).trans ((cell_old (by simp)).trans ((cell_old (by simp)).trans ((cell_old (by simp)).trans ((cell_old (by simp)).trans ((cell_old (by simp)).trans ((cell_new (by simp <;> omega)).trans rfl)))))))), (cell_old (by simp)).trans ((cell_old (by simp)).trans ((cell_old (by simp)).trans ((cell_old (by simp)).trans ((cell_old (by simp)).trans ((cell_old (by simp)).trans ((cell_old (by simp)).trans ((cell_old (by simp)).trans ((cell_new (by simp <;> omega)).trans rfl))))))))⟩
    | 1, _ => exact ⟨(cell_old (by simp)).trans ((cell_old (by simp)).trans ((cell_old (by simp)).trans ((cell_old (by simp)).trans ((cell_old (by simp)).trans ((cell_old (by simp)).trans ((cell_old (by simp)).trans ((cell_new (by simp <;> omega)).trans rfl))))))), (cell_old (by simp)).trans ((cell_old (by simp)).trans ((cell_old (by simp)).trans ((cell_old (by simp)).trans ((cell_old (by simp)).trans ((cell_old (by simp)).trans ((cell_old (by simp)).trans ((cell_new (by simp <;> omega)).trans rfl)))))))⟩
    | 2, _ => exact ⟨(cell_old (by simp)).trans ((cell_old (by simp)).trans ((cell_old (by simp)).trans ((cell_old (by simp)).trans ((cell_old (by simp)).trans ((cell_old (by simp)).trans ((cell_new (by simp <;> omega)).trans rfl)))))), (cell_old (by simp)).trans ((cell_old (by simp)).trans ((cell_old (by simp)).trans ((cell_old (by simp)).trans ((cell_old (by simp)).trans ((cell_old (by simp)).trans ((cell_new (by simp <;> omega)).trans rfl))))))⟩
    | 3, _ => exact ⟨(cell_old (by simp)).trans ((cell_old (by simp)).trans ((cell_old (by simp)).trans ((cell_old (by simp)).trans ((cell_old (by simp)).trans ((cell_new (by simp <;> omega)).trans rfl))))), (cell_old (by simp)).trans ((cell_old (by simp)).trans ((cell_old (by simp)).trans ((cell_old (by simp)).trans ((cell_old (by simp)).trans ((cell_new (by simp <;> omega)).trans rfl)))))⟩
    | 4, _ => exact ⟨(cell_old (by simp)).trans ((cell_old (by simp)).trans ((cell_old (by simp)).trans ((cell_old (by simp)).trans ((cell_new (by simp <;> omega)).trans rfl)))), (cell_old (by simp)).trans ((cell_old (by simp)).trans ((cell_old (by simp)).trans ((cell_old (by simp)).trans ((cell_new (by simp <;> omega)).trans rfl))))⟩
    | 5, _ => exact ⟨(cell_old (by simp)).trans ((cell_old (by simp)).trans ((cell_old (by simp)).trans ((cell_new (by simp <;> omega)).trans rfl))), (cell_old (by simp)).trans ((cell_old (by simp)).trans ((cell_old (by simp)).trans ((cell_new (by simp <;> omega)).trans rfl)))⟩
    | 6, _ => exact ⟨(cell_old (by simp)).trans ((cell_old (by simp)).trans ((cell_new (by simp <;> omega)).trans rfl)), (cell_old (by simp)).trans ((cell_old (by simp)).trans ((cell_new (by simp <;> omega)).trans rfl))⟩
    | 7, _ => exact ⟨(cell_old (by simp)).trans ((cell_new (by simp <;> omega)).trans rfl), (cell_old (by simp)).trans ((cell_new (by simp <;> omega)).trans rfl)⟩
  b := by simp [bW]
  s := by omega
theorem bW_below (w : World) (c0 : Array Value) (p : Nat → Option Addr) (n c : Nat → Nat) : Below w.heap.size w (bW w c0 p n c) := by
  unfold bW
  iterate 10 refine Below.alloc ?_ (by simp <;> omega) _
  exact Below.refl _ _
theorem bW_box (w : World) (c0 : Array Value) (p : Nat → Option Addr) (n c : Nat → Nat) (i : Nat) : (bW w c0 p n c).cell? ⟨w.heap.size, i, none⟩ = c0[i]? := (cell_old (by simp <;> omega)).trans ((cell_old (by simp <;> omega)).trans ((cell_old (by simp <;> omega)).trans ((cell_old (by simp <;> omega)).trans ((cell_old (by simp <;> omega)).trans ((cell_old (by simp <;> omega)).trans ((cell_old (by simp <;> omega)).trans ((cell_old (by simp <;> omega)).trans ((cell_old (by simp <;> omega)).trans (cell_new rfl)))))))))
set_option maxRecDepth 100000 in
set_option maxHeartbeats 8000000 in
theorem bounds_ok (fr t t2 iv wk wn ct un u2 : Int) (p : Nat → Option Addr) (n c : Nat → Nat) (l : Nat → List Int) (ds : List (Int × Int)) (w : World) (hr : ∀ k, k < 8 → RowI w (p (bCell k)) (n (bCell k)) (l (bCell k))) (hd : RowD w (p 14) (n 14) ds)
    (hl : ∀ k, k < 8 → (l (bCell k)).length ≤ 1000000) (hl2 : ds.length ≤ 1000000) (hv : ∀ k, k < 8 → ∀ x ∈ l (bCell k), inB x (bLo k) (bHi k) (bPm k)) (hdv : ∀ d ∈ ds, -53 ≤ d.2 ∧ d.2 ≤ 53) (hiv : 0 ≤ iv) :
    Calls Tryz.prog 114 #[optV fr t t2 iv wk wn ct un u2 p n c] w fun e w' => e = .returned .nilIface ∧ Below w.heap.size w w' := by
  have HR := Lib.hid hr
  have HD := Lib.hid hd
  have HV := Lib.hid hv
  have HDV := Lib.hid hdv
  have HL := Lib.hid hl
  clear hr hd hv hdv hl
  unfold optV
  go_enter Tryz.func114, Tryz.ntmps114
  go_wp2_with fail
  have HW : Hid (∀ W : World, W = bW w #[.int .i64 fr, .int .i64 t, .int .i64 t2, .int .i64 iv, .int .i64 wk, .int .i64 wn, .int .i64 ct, .int .i64 un, .int .i64 u2, .slice (p 9) (n 9) (c 9), .slice (p 10) (n 10) (c 10), .slice (p 11) (n 11) (c 11), .slice (p 12) (n 12) (c 12), .slice (p 13) (n 13) (c 13), .slice (p 14) (n 14) (c 14), .slice (p 15) (n 15) (c 15), .slice (p 16) (n 16) (c 16), .slice (p 17) (n 17) (c 17), .slice (p 18) (n 18) (c 18)] p n c → BTab W (w.heap.size + 9) (w.heap.size + 1) p n c ∧ Below w.heap.size w W ∧ W.cell? ⟨w.heap.size, 14, none⟩ = some (.slice (p 14) (n 14) (c 14)) ∧ W.cell? ⟨w.heap.size, 3, none⟩ = some (.int .i64 iv)) := by
    rintro W rfl
    exact ⟨bW_tab _ _ _ _ _, bW_below _ _ _ _ _, bW_box _ _ _ _ _ _, bW_box _ _ _ _ _ _⟩
  generalize hw1 : World.alloc _ (Obj.cells _ 229) = w1
  obtain ⟨hT, hB, hb14, hb3⟩ := HW.out w1 (hw1.symm.trans rfl)
  have HT := Lib.hid hT
  have HB := Lib.hid hB
  have hs := hT.b
  have HB14 := Lib.hid hb14
  have HB3 := Lib.hid hb3
  clear hw1 hT hB hb14 hb3 HW
  go_loopw [47] (fun v wr => ∃ k : Nat, k ≤ 8 ∧ v = .int .i64 k ∧ Below w1.heap.size w1 wr) (fun v _ => 8 - (intOf v).toNat)
  case atStart => exact ⟨0, Nat.zero_le _, rfl, Below.refl _ _⟩
  case round =>
    obtain ⟨k, hk, rfl, hb⟩ := hrel
    have HK := Lib.hid hb
    by_cases hk8 : k < 8
    · have hT := HT.out.below hb
      obtain ⟨t0, t1, t2', t3⟩ := hT.row k hk8
      obtain ⟨l0, l1⟩ := hT.lo k hk8
      obtain ⟨hnl, hcells⟩ := (HR.out k hk8).below (HB.out.trans (hb.mono HB.out.size))
      have HC := Lib.hid hcells
      have HVk := Lib.hid (HV.out k hk8)
      have hlen := HL.out k hk8
      obtain ⟨d1, d2, d3, d4⟩ := b_bd k
      have hsz := hb.size
      have hS : w.heap.size + 1 + k < wr.heap.size := by omega
      generalize p (bCell k) = pk at *
      generalize n (bCell k) = nk at *
      generalize c (bCell k) = ck at *
      generalize l (bCell k) = lk at *
      generalize bLo k = lo at *
      generalize bHi k = hh at *
      generalize bPm k = pm at *
      generalize bNm k = nm at *
      have L0 := Lib.hid ((cell_old (o := .cells #[.slice pk nk ck, .string nm, .slice (some ⟨w.heap.size + 1 + k, 0, none⟩) 2 2, .bool pm] 229) hS).trans l0)
      have L1 := Lib.hid ((cell_old (o := .cells #[.slice pk nk ck, .string nm, .slice (some ⟨w.heap.size + 1 + k, 0, none⟩) 2 2, .bool pm] 229) hS).trans l1)
      have HN := Lib.hid hnl
      have hk8i : (k : Int) < 8 := by omega
      clear hT hcells hnl hb l0 l1
      go_wp2_with fail
      go_loop [54] (fun v => ∃ i : Nat, i ≤ nk ∧ v = .int .i64 i) (fun v => nk - (intOf v).toNat)
      case atStart => exact ⟨0, Nat.zero_le _, rfl⟩
      case round =>
        obtain ⟨i, hi, rfl⟩ := hrel
        by_cases hin : i < nk
        · have hil : i < lk.length := by have := HN.out; omega
          obtain ⟨g, rfl, hg, hc⟩ := HC.out i _ (List.getElem?_eq_getElem hil)
          have HX := Lib.hid (HVk.out _ (List.getElem_mem hil))
          generalize lk[i] = x at *
          have HCK := Lib.hid (chk_ok nm x lo hh pm _ _ L0.out L1.out d1 d2 d3 d4 HX.out)
          clear HX
          go_wp2_with fail
          refine HCK.out.mono ?_; rintro e w2 ⟨rfl, rfl⟩
          go_wp2_with fail
          go_round
          case rel => exact ⟨i + 1, by omega, by go_num⟩
          case measure => simp [intOf]; omega
        · have hin' : i = nk := by omega
          subst hin'
          clear hin
          go_wp2_with fail
          go_roundw
          case rel => exact ⟨k + 1, by omega, by go_num, HK.out.alloc HK.out.size _⟩
          case measure => simp [intOf]; omega
    · have hk' : k = 8 := by omega
      subst hk'
      have hb14 := (hb.cell (p := ⟨w.heap.size, 14, none⟩) (by simp; omega)).trans HB14.out
      obtain ⟨hnl, hcells⟩ := HD.out.below (HB.out.trans (hb.mono HB.out.size))
      have HC := Lib.hid hcells
      have HN := Lib.hid hnl
      have hsz := hb.size
      generalize p 14 = pk at *
      generalize n 14 = nk at *
      generalize c 14 = ck at *
      have hk8i : ¬ ((8 : Nat) : Int) < 8 := by omega
      clear hk8 hcells hnl hb
      go_wp2_with fail
      go_loopw [75] (fun v wr' => ∃ i : Nat, i ≤ nk ∧ v = .int .i64 i ∧ Below wr.heap.size wr wr') (fun v _ => nk - (intOf v).toNat)
      case atStart => exact ⟨0, Nat.zero_le _, rfl, Below.refl _ _⟩
      case round =>
        obtain ⟨i, hi, rfl, hb⟩ := hrel
        have HBr := Lib.hid hb
        have hsz2 := hb.size
        by_cases hin : i < nk
        · have hil : i < ds.length := by have := HN.out; omega
          obtain ⟨g, rfl, hg, hc, hc2⟩ := HC.out i _ _ (List.getElem?_eq_getElem hil)
          have hdx := HDV.out _ (List.getElem_mem hil)
          have hc := (hb.cell (p := ⟨g, i * 2, none⟩) hg).trans hc
          have hc2 := (hb.cell (p := ⟨g, i * 2 + 1, none⟩) hg).trans hc2
          generalize ds[i].1 = xd at *
          generalize ds[i].2 = xn at *
          obtain ⟨x1, x2⟩ := hdx
          clear hb
          go_wp2_with fail
          go_roundw
          case rel => exact ⟨i + 1, by omega, by go_num, HBr.out.alloc HBr.out.size _⟩
          case measure => simp [intOf]; omega
        · have hin' : i = nk := by omega
          subst hin'
          have hb3 := (hb.cell (p := ⟨w.heap.size, 3, none⟩) (by simp; omega)).trans ((HK.out.cell (p := ⟨w.heap.size, 3, none⟩) (by simp; omega)).trans HB3.out)
          clear hin hb
          go_wp2_with fail
          go_ret
          exact ⟨rfl, HB.out.trans ((HK.out.mono HB.out.size).trans (HBr.out.mono (Nat.le_trans HB.out.size hsz)))⟩
end Go.Proofs.YtnlpjncljbaapaaGreatDoor
