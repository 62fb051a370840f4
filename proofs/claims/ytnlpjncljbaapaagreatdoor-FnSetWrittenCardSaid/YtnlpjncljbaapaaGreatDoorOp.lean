/- A set that comes in, opened. -/
import Derived.Test.YtnlpjncljbaapaaGreatDoorAg
import Derived.OpenShut
import Derived.Lib.SmallJoins
namespace Go.Proofs.YtnlpjncljbaapaaGreatDoor
open Go.RowKit Go.ChangeShapes Go.WideShapes Go.Joins Go.Deep

theorem list_of {α : Type} {P : Nat → α → Prop} : ∀ (n : Nat), (∀ i, i < n → ∃ x, P i x) → ∃ l : List α, l.length = n ∧ ∀ i x, l[i]? = some x → P i x
  | 0, _ => ⟨[], rfl, fun i x h => by simp at h⟩
  | n + 1, h => by
    obtain ⟨l, hl, hp⟩ := list_of n fun i hi => h i (by omega)
    obtain ⟨x, hx⟩ := h n (by omega)
    refine ⟨l ++ [x], by simp [hl], fun i y hy => ?_⟩
    rcases Nat.lt_or_ge i n with hi | hi
    · rw [List.getElem?_append_left (by omega)] at hy
      exact hp i y hy
    · rw [List.getElem?_append_right (by omega), hl] at hy
      rcases Nat.eq_zero_or_pos (i - n) with h0 | h0
      · rw [h0] at hy
        obtain rfl : x = y := by simpa using hy
        obtain rfl : i = n := by omega
        exact hx
      · rw [List.getElem?_eq_none (by simp; omega)] at hy
        cases hy
theorem cell_in {w : World} {g o : Nat} {v : Value} (h : w.cell? ⟨g, o, none⟩ = some v) : g < w.heap.size := by
  rcases Nat.lt_or_ge g w.heap.size with h' | h'
  · exact h'
  · simp [World.cell?, Array.getElem?_eq_none h'] at h
section
variable {H : Type} {enc : TypeId × Value → H} {w : World} {base : Nat} {held : Bool}
theorem ints_of {t e : TypeId} {fuel : Nat} {cs : List Value} {x : DataW H × List MemPlace} (ht : Tryz.prog.underlying t = some (.slice e)) (he : Tryz.prog.underlying e = some (.int .i64)) (hc : Tryz.prog.cellsOf e = 1) (h : DataW.trod enc Tryz.prog w base (fun _ => true) held fuel t cs = some x) :
    ∃ (p : Option Addr) (n c : Nat) (l : List Int), cs = [.slice p n c] ∧ RowO w p n l ∧ n ≤ c ∧ (p = none → c = 0) := by
  rcases open_ints ht he hc h with ⟨hcs, _⟩ | ⟨a, len, cap, zs, hcs, _, hl, hm, hz, hx, hcell, hwz⟩
  · exact ⟨none, 0, 0, [], hcs, ⟨rfl, fun i x h => by simp at h⟩, Nat.le_refl _, fun _ => rfl⟩
  · have hz : zs.length = cap := by simpa using hz
    refine ⟨some a, len, cap, zs.take len, hcs, ⟨by simp; omega, fun i x h => ?_⟩, hl, fun h => by cases h⟩
    have hi : i < (zs.take len).length := (List.getElem?_eq_some_iff.1 h).1
    simp at hi
    obtain ⟨b, off, rfl, hc⟩ := ints_at hcell (by omega)
    have hx : zs[i]? = some x := by rwa [List.getElem?_take_of_lt (by omega)] at h
    have h1 := hc i (by omega)
    rw [List.getD_eq_getElem?_getD, hx] at h1
    exact ⟨b, off, rfl, cell_in h1, h1⟩
theorem at_of {cs : List Value} {o : Nat} {v : Value} (h : (cs.drop o).take 1 = [v]) : cs[o]? = some v := by
  have : ((cs.drop o).take 1)[0]? = some v := by rw [h]; rfl
  simpa using this
theorem at_of2 {cs : List Value} {o m k : Nat} {v : Value} (h : ((((cs.drop o).take m).drop k).take 1) = [v]) : cs[o + k]? = some v := by
  have h1 := at_of h
  have hi : k < m := by
    have := (List.getElem?_eq_some_iff.1 h1).1
    simp at this
    omega
  rwa [List.getElem?_take_of_lt hi, List.getElem?_drop] at h1
theorem ints22 {fuel : Nat} {cs : List Value} {x : DataW H × List MemPlace} (h : DataW.trod enc Tryz.prog w base (fun _ => true) held fuel 22 cs = some x) : ∃ (p : Option Addr) (n c : Nat) (l : List Int), cs = [.slice p n c] ∧ RowO w p n l ∧ n ≤ c ∧ (p = none → c = 0) :=
  ints_of Tryz.underlying22 Tryz.underlying3 (by kernel_rfl) h
theorem ints26 {fuel : Nat} {cs : List Value} {x : DataW H × List MemPlace} (h : DataW.trod enc Tryz.prog w base (fun _ => true) held fuel 26 cs = some x) : ∃ (p : Option Addr) (n c : Nat) (l : List Int), cs = [.slice p n c] ∧ RowO w p n l ∧ n ≤ c ∧ (p = none → c = 0) :=
  ints_of Tryz.underlying26 Tryz.underlying2 (by kernel_rfl) h
theorem cells3 : Tryz.prog.cellsOf 3 = 1 := by kernel_rfl
theorem cells2 : Tryz.prog.cellsOf 2 = 1 := by kernel_rfl
theorem cells4 : Tryz.prog.cellsOf 4 = 1 := by kernel_rfl
theorem cells5 : Tryz.prog.cellsOf 5 = 1 := by kernel_rfl
theorem cells22 : Tryz.prog.cellsOf 22 = 1 := by kernel_rfl
theorem cells23 : Tryz.prog.cellsOf 23 = 1 := by kernel_rfl
theorem cells25 : Tryz.prog.cellsOf 25 = 18 := by kernel_rfl
theorem cells26 : Tryz.prog.cellsOf 26 = 1 := by kernel_rfl
theorem cells28 : Tryz.prog.cellsOf 28 = 22 := by kernel_rfl
theorem cells98 : Tryz.prog.cellsOf 98 = 2 := by kernel_rfl
set_option maxRecDepth 100000 in
theorem days_of {fuel : Nat} {cs : List Value} {x : DataW H × List MemPlace} (h : DataW.trod enc Tryz.prog w base (fun _ => true) held fuel 23 cs = some x) :
    ∃ (p : Option Addr) (n c : Nat) (dl : List (Int × Int)), cs = [.slice p n c] ∧ RowDO w p n dl ∧ n ≤ c ∧ (p = none → c = 0) := by
  rcases open_slice Tryz.underlying23 h with ⟨hcs, _⟩ | ⟨a, len, cap, m, k, D, Pl, hcs, _, hl, _, hm, _, hel⟩
  · exact ⟨none, 0, 0, [], hcs, ⟨rfl, fun i k m h => by simp at h⟩, Nat.le_refl _, fun _ => rfl⟩
  · have hm : m = cap := by simpa using hm
    have hspot : 0 < len → a.spot = none := fun h0 => by
      obtain ⟨cs', h1, h2⟩ := hel 0 (by omega)
      rw [cells98] at h1
      obtain ⟨_, h3, h4⟩ := World.cells?_some h1
      obtain ⟨y0, y1, n2, _, _, h5, h6⟩ := trod_struct2 Tryz.underlying98 h2
      simp only [cells3] at h5
      obtain ⟨z0, e0, _, _⟩ := DataW.trod_int Tryz.underlying3 h5
      have c0 := h4 0 (by omega)
      rw [at_of e0] at c0
      simpa [Addr.add] using World.cell?_spot c0
    obtain ⟨dl, hdl, hd⟩ := list_of (α := Int × Int) (P := fun i d => ∃ g o, a = ⟨g, o, none⟩ ∧ g < w.heap.size ∧ w.cell? ⟨g, o + i * 2, none⟩ = some (.int .i64 d.1) ∧ w.cell? ⟨g, o + i * 2 + 1, none⟩ = some (.int .i64 d.2)) len (fun i hi => by
      obtain ⟨cs', h1, h2⟩ := hel i (by omega)
      rw [cells98] at h1
      obtain ⟨_, h3, h4⟩ := World.cells?_some h1
      obtain ⟨y0, y1, n2, _, _, h5, h6⟩ := trod_struct2 Tryz.underlying98 h2
      simp only [cells3] at h5 h6
      obtain ⟨z0, e0, _, _⟩ := DataW.trod_int Tryz.underlying3 h5
      obtain ⟨z1, e1, _, _⟩ := DataW.trod_int Tryz.underlying3 h6
      have c0 := h4 0 (by omega)
      have c1 := h4 1 (by omega)
      rw [at_of e0] at c0
      rw [at_of e1] at c1
      obtain ⟨g, o, spot⟩ := a
      obtain rfl : spot = none := hspot (by omega)
      rw [Go.WideShapes.add_plain, Go.WideShapes.add_plain] at c0 c1
      exact ⟨(z0, z1), g, o, rfl, cell_in c0, c0, c1⟩)
    refine ⟨some a, len, cap, dl, hcs, ⟨hdl.symm, fun i k' m' h => ?_⟩, hl, fun h => by cases h⟩
    obtain ⟨g, o, e, h1, h2, h3⟩ := hd i _ h
    exact ⟨g, o, by rw [e], h1, h2, h3⟩
set_option maxRecDepth 100000 in
set_option maxHeartbeats 4000000 in
theorem open_set {b0 : Nat} {v : Value} {d : DataW H} {ps : List MemPlace} (hv : Value.okWide Tryz.prog w .any b0 28 v) (h : DataW.Trod enc Tryz.prog w base (fun _ => true) held 28 v d ps) :
    ∃ (t : Int) (hr : Bool) (fr : Nat) (hs : Bool) (st iv wk ct : Int) (hu : Bool) (un : Int) (p : Nat → Option Addr) (n c : Nat → Nat) (pr : Option Addr) (nr cr : Nat) (px : Option Addr) (nx cx : Nat) (l : Nat → List Int) (dl : List (Int × Int)) (rds exs : List Int),
      v = .agg (sSetC t hr fr hs st iv wk ct hu un p n c pr nr cr px nx cx) ∧ SetIn w p n c pr nr cr px nx cx l dl rds exs := by
  obtain ⟨cs, rfl, hsz⟩ := okWide_struct Tryz.underlying28 hv
  rw [cells28] at hsz
  obtain ⟨fuel, hf⟩ := h
  obtain ⟨xs, m, _, _, _, hlen, hfs⟩ := DataW.trod_struct Tryz.underlying28 hf
  have hx : ∀ i, i < 5 → ∃ y, xs[i]? = some y := fun i hi => ⟨_, List.getElem?_eq_getElem (by rw [hlen]; exact hi)⟩
  obtain ⟨y0, e0⟩ := hx 0 (by omega)
  obtain ⟨y1, e1⟩ := hx 1 (by omega)
  obtain ⟨y2, e2⟩ := hx 2 (by omega)
  obtain ⟨y3, e3⟩ := hx 3 (by omega)
  obtain ⟨y4, e4⟩ := hx 4 (by omega)
  have h0 : DataW.trod enc Tryz.prog w base (fun _ => true) held m 2 ((cs.toList.drop 0).take (Tryz.prog.cellsOf 2)) = some y0 := (hfs 0 _ rfl).trans e0
  rw [cells2] at h0
  have h1 : DataW.trod enc Tryz.prog w base (fun _ => true) held m 4 ((cs.toList.drop 1).take (Tryz.prog.cellsOf 4)) = some y1 := (hfs 1 _ rfl).trans e1
  rw [cells4] at h1
  have h2 : DataW.trod enc Tryz.prog w base (fun _ => true) held m 25 ((cs.toList.drop 2).take (Tryz.prog.cellsOf 25)) = some y2 := (hfs 2 _ rfl).trans e2
  rw [cells25] at h2
  have h3 : DataW.trod enc Tryz.prog w base (fun _ => true) held m 26 ((cs.toList.drop 20).take (Tryz.prog.cellsOf 26)) = some y3 := (hfs 3 _ rfl).trans e3
  rw [cells26] at h3
  have h4 : DataW.trod enc Tryz.prog w base (fun _ => true) held m 26 ((cs.toList.drop 21).take (Tryz.prog.cellsOf 26)) = some y4 := (hfs 4 _ rfl).trans e4
  rw [cells26] at h4
  obtain ⟨t, k0, _, _⟩ := DataW.trod_int Tryz.underlying2 h0
  obtain ⟨hr, k1, _⟩ := DataW.trod_bool Tryz.underlying4 h1
  obtain ⟨pr, nr, cr, rds, k3, r3, _, _⟩ := ints26 h3
  obtain ⟨px, nx, cx, exs, k4, r4, _, z4⟩ := ints26 h4
  obtain ⟨zs, m2, _, _, _, hlen2, hgs⟩ := DataW.trod_struct Tryz.underlying25 h2
  have hz : ∀ i, i < 18 → ∃ y, zs[i]? = some y := fun i hi => ⟨_, List.getElem?_eq_getElem (by rw [hlen2]; exact hi)⟩
  obtain ⟨x0, f0⟩ := hz 0 (by omega)
  have g0 : DataW.trod enc Tryz.prog w base (fun _ => true) held m2 5 ((((cs.toList.drop 2).take 18).drop 0).take (Tryz.prog.cellsOf 5)) = some x0 := (hgs 0 _ rfl).trans f0
  rw [cells5] at g0
  obtain ⟨x1, f1⟩ := hz 1 (by omega)
  have g1 : DataW.trod enc Tryz.prog w base (fun _ => true) held m2 4 ((((cs.toList.drop 2).take 18).drop 1).take (Tryz.prog.cellsOf 4)) = some x1 := (hgs 1 _ rfl).trans f1
  rw [cells4] at g1
  obtain ⟨x2, f2⟩ := hz 2 (by omega)
  have g2 : DataW.trod enc Tryz.prog w base (fun _ => true) held m2 2 ((((cs.toList.drop 2).take 18).drop 2).take (Tryz.prog.cellsOf 2)) = some x2 := (hgs 2 _ rfl).trans f2
  rw [cells2] at g2
  obtain ⟨x3, f3⟩ := hz 3 (by omega)
  have g3 : DataW.trod enc Tryz.prog w base (fun _ => true) held m2 3 ((((cs.toList.drop 2).take 18).drop 3).take (Tryz.prog.cellsOf 3)) = some x3 := (hgs 3 _ rfl).trans f3
  rw [cells3] at g3
  obtain ⟨x4, f4⟩ := hz 4 (by omega)
  have g4 : DataW.trod enc Tryz.prog w base (fun _ => true) held m2 3 ((((cs.toList.drop 2).take 18).drop 4).take (Tryz.prog.cellsOf 3)) = some x4 := (hgs 4 _ rfl).trans f4
  rw [cells3] at g4
  obtain ⟨x5, f5⟩ := hz 5 (by omega)
  have g5 : DataW.trod enc Tryz.prog w base (fun _ => true) held m2 3 ((((cs.toList.drop 2).take 18).drop 5).take (Tryz.prog.cellsOf 3)) = some x5 := (hgs 5 _ rfl).trans f5
  rw [cells3] at g5
  obtain ⟨x6, f6⟩ := hz 6 (by omega)
  have g6 : DataW.trod enc Tryz.prog w base (fun _ => true) held m2 4 ((((cs.toList.drop 2).take 18).drop 6).take (Tryz.prog.cellsOf 4)) = some x6 := (hgs 6 _ rfl).trans f6
  rw [cells4] at g6
  obtain ⟨x7, f7⟩ := hz 7 (by omega)
  have g7 : DataW.trod enc Tryz.prog w base (fun _ => true) held m2 2 ((((cs.toList.drop 2).take 18).drop 7).take (Tryz.prog.cellsOf 2)) = some x7 := (hgs 7 _ rfl).trans f7
  rw [cells2] at g7
  obtain ⟨x8, f8⟩ := hz 8 (by omega)
  have g8 : DataW.trod enc Tryz.prog w base (fun _ => true) held m2 22 ((((cs.toList.drop 2).take 18).drop 8).take (Tryz.prog.cellsOf 22)) = some x8 := (hgs 8 _ rfl).trans f8
  rw [cells22] at g8
  obtain ⟨x9, f9⟩ := hz 9 (by omega)
  have g9 : DataW.trod enc Tryz.prog w base (fun _ => true) held m2 22 ((((cs.toList.drop 2).take 18).drop 9).take (Tryz.prog.cellsOf 22)) = some x9 := (hgs 9 _ rfl).trans f9
  rw [cells22] at g9
  obtain ⟨x10, f10⟩ := hz 10 (by omega)
  have g10 : DataW.trod enc Tryz.prog w base (fun _ => true) held m2 22 ((((cs.toList.drop 2).take 18).drop 10).take (Tryz.prog.cellsOf 22)) = some x10 := (hgs 10 _ rfl).trans f10
  rw [cells22] at g10
  obtain ⟨x11, f11⟩ := hz 11 (by omega)
  have g11 : DataW.trod enc Tryz.prog w base (fun _ => true) held m2 22 ((((cs.toList.drop 2).take 18).drop 11).take (Tryz.prog.cellsOf 22)) = some x11 := (hgs 11 _ rfl).trans f11
  rw [cells22] at g11
  obtain ⟨x12, f12⟩ := hz 12 (by omega)
  have g12 : DataW.trod enc Tryz.prog w base (fun _ => true) held m2 22 ((((cs.toList.drop 2).take 18).drop 12).take (Tryz.prog.cellsOf 22)) = some x12 := (hgs 12 _ rfl).trans f12
  rw [cells22] at g12
  obtain ⟨x13, f13⟩ := hz 13 (by omega)
  have g13 : DataW.trod enc Tryz.prog w base (fun _ => true) held m2 23 ((((cs.toList.drop 2).take 18).drop 13).take (Tryz.prog.cellsOf 23)) = some x13 := (hgs 13 _ rfl).trans f13
  rw [cells23] at g13
  obtain ⟨x14, f14⟩ := hz 14 (by omega)
  have g14 : DataW.trod enc Tryz.prog w base (fun _ => true) held m2 22 ((((cs.toList.drop 2).take 18).drop 14).take (Tryz.prog.cellsOf 22)) = some x14 := (hgs 14 _ rfl).trans f14
  rw [cells22] at g14
  obtain ⟨x15, f15⟩ := hz 15 (by omega)
  have g15 : DataW.trod enc Tryz.prog w base (fun _ => true) held m2 22 ((((cs.toList.drop 2).take 18).drop 15).take (Tryz.prog.cellsOf 22)) = some x15 := (hgs 15 _ rfl).trans f15
  rw [cells22] at g15
  obtain ⟨x16, f16⟩ := hz 16 (by omega)
  have g16 : DataW.trod enc Tryz.prog w base (fun _ => true) held m2 22 ((((cs.toList.drop 2).take 18).drop 16).take (Tryz.prog.cellsOf 22)) = some x16 := (hgs 16 _ rfl).trans f16
  rw [cells22] at g16
  obtain ⟨x17, f17⟩ := hz 17 (by omega)
  have g17 : DataW.trod enc Tryz.prog w base (fun _ => true) held m2 22 ((((cs.toList.drop 2).take 18).drop 17).take (Tryz.prog.cellsOf 22)) = some x17 := (hgs 17 _ rfl).trans f17
  rw [cells22] at g17
  obtain ⟨fr, q0, _, w0⟩ := DataW.trod_int Tryz.underlying5 g0
  obtain ⟨hs, q1, _⟩ := DataW.trod_bool Tryz.underlying4 g1
  obtain ⟨st, q2, _, _⟩ := DataW.trod_int Tryz.underlying2 g2
  obtain ⟨iv, q3, _, _⟩ := DataW.trod_int Tryz.underlying3 g3
  obtain ⟨wk, q4, _, _⟩ := DataW.trod_int Tryz.underlying3 g4
  obtain ⟨ct, q5, _, _⟩ := DataW.trod_int Tryz.underlying3 g5
  obtain ⟨hu, q6, _⟩ := DataW.trod_bool Tryz.underlying4 g6
  obtain ⟨un, q7, _, _⟩ := DataW.trod_int Tryz.underlying2 g7
  obtain ⟨p8, n8, c8, l8, q8, r8, s8, _⟩ := ints22 g8
  obtain ⟨p9, n9, c9, l9, q9, r9, s9, _⟩ := ints22 g9
  obtain ⟨p10, n10, c10, l10, q10, r10, s10, _⟩ := ints22 g10
  obtain ⟨p11, n11, c11, l11, q11, r11, s11, _⟩ := ints22 g11
  obtain ⟨p12, n12, c12, l12, q12, r12, s12, _⟩ := ints22 g12
  obtain ⟨p13, n13, c13, dl, q13, r13, s13, _⟩ := days_of g13
  obtain ⟨p14, n14, c14, l14, q14, r14, s14, _⟩ := ints22 g14
  obtain ⟨p15, n15, c15, l15, q15, r15, s15, _⟩ := ints22 g15
  obtain ⟨p16, n16, c16, l16, q16, r16, s16, _⟩ := ints22 g16
  obtain ⟨p17, n17, c17, l17, q17, r17, s17, _⟩ := ints22 g17
  have hfr : 0 ≤ fr ∧ fr ≤ 255 := bounds_u8 w0
  obtain ⟨frn, rfl⟩ : ∃ k : Nat, fr = k := ⟨fr.toNat, by omega⟩
  refine ⟨t, hr, frn, hs, st, iv, wk, ct, hu, un, fun k => match k with | 8 => p8 | 9 => p9 | 10 => p10 | 11 => p11 | 12 => p12 | 13 => p13 | 14 => p14 | 15 => p15 | 16 => p16 | 17 => p17 | _ => none,
    fun k => match k with | 8 => n8 | 9 => n9 | 10 => n10 | 11 => n11 | 12 => n12 | 13 => n13 | 14 => n14 | 15 => n15 | 16 => n16 | 17 => n17 | _ => 0,
    fun k => match k with | 8 => c8 | 9 => c9 | 10 => c10 | 11 => c11 | 12 => c12 | 13 => c13 | 14 => c14 | 15 => c15 | 16 => c16 | 17 => c17 | _ => 0,
    pr, nr, cr, px, nx, cx, fun k => match k with | 8 => l8 | 9 => l9 | 10 => l10 | 11 => l11 | 12 => l12 | 14 => l14 | 15 => l15 | 16 => l16 | 17 => l17 | _ => [], dl, rds, exs, ?_, ?_⟩
  · have hall : ∀ i, i < 22 → cs.toList[i]? = (sSetC t hr frn hs st iv wk ct hu un (fun k => match k with | 8 => p8 | 9 => p9 | 10 => p10 | 11 => p11 | 12 => p12 | 13 => p13 | 14 => p14 | 15 => p15 | 16 => p16 | 17 => p17 | _ => none) (fun k => match k with | 8 => n8 | 9 => n9 | 10 => n10 | 11 => n11 | 12 => n12 | 13 => n13 | 14 => n14 | 15 => n15 | 16 => n16 | 17 => n17 | _ => 0) (fun k => match k with | 8 => c8 | 9 => c9 | 10 => c10 | 11 => c11 | 12 => c12 | 13 => c13 | 14 => c14 | 15 => c15 | 16 => c16 | 17 => c17 | _ => 0) pr nr cr px nx cx)[i]? := fun i hi => by
      match i, hi with
      | 0, _ => exact at_of k0
      | 1, _ => exact at_of k1
      | 2, _ => exact at_of2 q0
      | 3, _ => exact at_of2 q1
      | 4, _ => exact at_of2 q2
      | 5, _ => exact at_of2 q3
      | 6, _ => exact at_of2 q4
      | 7, _ => exact at_of2 q5
      | 8, _ => exact at_of2 q6
      | 9, _ => exact at_of2 q7
      | 10, _ => exact at_of2 q8
      | 11, _ => exact at_of2 q9
      | 12, _ => exact at_of2 q10
      | 13, _ => exact at_of2 q11
      | 14, _ => exact at_of2 q12
      | 15, _ => exact at_of2 q13
      | 16, _ => exact at_of2 q14
      | 17, _ => exact at_of2 q15
      | 18, _ => exact at_of2 q16
      | 19, _ => exact at_of2 q17
      | 20, _ => exact at_of k3
      | 21, _ => exact at_of k4
      | i + 22, h => exact absurd h (by omega)
    congr 1
    apply Array.ext_getElem?
    intro i
    by_cases hi : i < 22
    · rw [← Array.getElem?_toList, hall i hi]
    · rw [Array.getElem?_eq_none (by omega), Array.getElem?_eq_none (by show 22 ≤ i; omega)]
  · refine ⟨fun k h1 h2 h3 => ?_, r13, fun k h1 h2 => ?_, r3, r4, z4⟩
    · have hk : k = 8 ∨ k = 9 ∨ k = 10 ∨ k = 11 ∨ k = 12 ∨ k = 14 ∨ k = 15 ∨ k = 16 ∨ k = 17 := by omega
      rcases hk with h | h | h | h | h | h | h | h | h <;> subst h <;> assumption
    · have hk : k = 8 ∨ k = 9 ∨ k = 10 ∨ k = 11 ∨ k = 12 ∨ k = 13 ∨ k = 14 ∨ k = 15 ∨ k = 16 ∨ k = 17 := by omega
      rcases hk with h | h | h | h | h | h | h | h | h | h <;> subst h <;> assumption
end
end Go.Proofs.YtnlpjncljbaapaaGreatDoor
