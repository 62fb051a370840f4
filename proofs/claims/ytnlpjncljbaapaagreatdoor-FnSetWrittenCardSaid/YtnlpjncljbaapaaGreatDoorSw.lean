/- sort.Sort over moments, walked weakly: it ends, and nothing but the row is turned. -/
import Derived.Test.YtnlpjncljbaapaaGreatDoorZu
import Derived.RegionTactic
import Derived.Laws.AppendOwn
import Derived.Maps.AppendAt
import Derived.Deep.OwnRows
import Derived.OwnWalk
import Derived.BigRegion
import Derived.Shelf.Abstract
import Derived.Deep.RegionLaw
namespace Go.Proofs.YtnlpjncljbaapaaGreatDoor
open Go.RowKit

/-- A row of moments in memory, whatever they are, in a block that may be longer. -/
def TRow (w : World) (R n : Nat) : Prop := ∃ (N : Nat) (F : Nat → Value), n * 2 ≤ N ∧ w.rowIs R 109 N F ∧ ∀ k, k < n * 2 → ∃ x : Int, F k = .int .i64 x
theorem TRow.set {w : World} {R n : Nat} (h : TRow w R n) (k : Nat) (x : Int) : TRow (w.setCell ⟨R, k, none⟩ (.int .i64 x)) R n := by
  obtain ⟨N, F, hN, hf, hi⟩ := h
  refine ⟨N, _, hN, hf.set k _, fun j hj => ?_⟩
  by_cases h : j = k
  · exact ⟨x, if_pos h⟩
  · obtain ⟨y, hy⟩ := hi j hj
    exact ⟨y, (if_neg h).trans hy⟩
theorem TRow.cell {w : World} {R n k : Nat} (h : TRow w R n) (hk : k < n * 2) : ∃ x, w.cell? ⟨R, k, none⟩ = some (.int .i64 x) := by
  obtain ⟨N, F, hN, hf, hi⟩ := h
  obtain ⟨x, hx⟩ := hi k hk
  exact ⟨x, (hf.cell (by omega)).trans (congrArg some hx)⟩
theorem TRow.frozen {w : World} {R n : Nat} (h : TRow w R n) (k : Nat) : w.frozen? ⟨R, k, none⟩ = false := by
  obtain ⟨N, F, hN, hf, hi⟩ := h
  exact hf.frozen k
theorem TRow.lt {w : World} {R n : Nat} (h : TRow w R n) : R < w.heap.size := by
  obtain ⟨N, F, hN, hf, hi⟩ := h
  exact hf.lt
theorem TRow.of_block {w w' : World} {R n : Nat} (h : TRow w R n) (hb : w'.heap[R]? = w.heap[R]?) : TRow w' R n := by
  obtain ⟨N, F, hN, hf, hi⟩ := h
  exact ⟨N, F, hN, hf.of_block hb, hi⟩
theorem TRow.other {w : World} {R n : Nat} (h : TRow w R n) {p : Addr} (hp : R ≠ p.block) (u : Value) : TRow (w.setCell p u) R n := by
  obtain ⟨N, F, hN, hf, hi⟩ := h
  exact ⟨N, F, hN, hf.setOther hp u, hi⟩
theorem TRow.below {w w' : World} {R n B : Nat} (h : TRow w R n) (hb : Below B w w') (hB : R < B) : TRow w' R n := h.of_block (hb.block R hB)
theorem TRow.of_own {w : World} {B g n cap : Nat} {xs : List Value} (h : w.ownsRow B 109 2 (.slice (some ⟨g, 0, none⟩) n cap) n xs) (hx : ∀ u ∈ xs, ∃ x : Int, u = .int .i64 x) : TRow w g n := by
  have hlen := h.1
  rcases h.2 with ⟨h', _⟩ | ⟨g', cap', cur, h', hb, hg, hnc, hcm, hcs, htake⟩
  · cases h'
  · simp only [Value.slice.injEq, Option.some.injEq, Addr.mk.injEq, and_true, true_and] at h'
    obtain ⟨rfl, rfl⟩ := h'
    have hsz : n * 2 ≤ cur.size := by rw [hcs]; omega
    refine ⟨cur.size, fun i => cur[i]?.getD undef, hsz, ⟨cur, hg, rfl, fun i hi => by simp [hi]⟩, fun k hk => ?_⟩
    have h1 : k < xs.length := by omega
    obtain ⟨x, hx'⟩ := hx xs[k] (List.getElem_mem h1)
    refine ⟨x, ?_⟩
    have h2 : cur[k]? = some xs[k] := by
      have e : (cur.toList.take (n * 2))[k]? = xs[k]? := by rw [htake]
      rw [List.getElem?_take, if_pos hk, List.getElem?_eq_getElem h1] at e
      simpa using e
    show cur[k]?.getD undef = _
    rw [h2, ← hx']
    rfl
/-- What a step of the sort may turn. -/
def Sd (R n : Nat) (w w' : World) : Prop := w.grownBy w' (some R) ∧ TRow w' R n
theorem Sd.refl {R n : Nat} {w : World} (h : TRow w R n) : Sd R n w w := ⟨World.grownBy.refl _ _, h⟩
theorem Sd.trans {R n : Nat} {a b c : World} (h : Sd R n a b) (k : Sd R n b c) : Sd R n a c := ⟨h.1.trans k.1, k.2⟩
theorem Sd.of_below {R n : Nat} {w w' : World} (h : TRow w R n) (hb : Below w.heap.size w w') : Sd R n w w' := ⟨⟨hb.os, hb.tape, hb.output, hb.size, fun i hi _ => hb.block i hi⟩, h.below hb h.lt⟩
theorem grown_set {a w : World} {g : Nat} (h : a.grownBy w (some g)) (k : Nat) (u : Value) : a.grownBy (w.setCell ⟨g, k, none⟩ u) (some g) :=
  ⟨h.os, h.tape, h.output, by simpa [World.setCell] using h.size, fun i hi hne => (Below.heap_setCell w ⟨g, k, none⟩ u i (by rintro rfl; exact hne rfl)).trans (h.block i hi hne)⟩
theorem Sd.set {R n : Nat} {a w : World} (h : Sd R n a w) (k : Nat) (x : Int) : Sd R n a (w.setCell ⟨R, k, none⟩ (.int .i64 x)) := ⟨grown_set h.1 k _, h.2.set k x⟩
theorem Sd.drewN {R n : Nat} {a w : World} (h : Sd R n a w) (k : Nat) : Sd R n a (w.drewN k) := ⟨⟨h.1.os, h.1.tape, h.1.output, h.1.size, h.1.block⟩, h.2⟩
theorem Sd.drew {R n : Nat} {a w : World} (h : Sd R n a w) : Sd R n a w.drew := ⟨⟨h.1.os, h.1.tape, h.1.output, h.1.size, h.1.block⟩, h.2⟩
/-- A call ends, and turns the row alone; it hands back nothing, a bool. -/
def SdU (R n : Nat) (w : World) (e : Ending) (w' : World) : Prop := e = .returned (.tuple #[]) ∧ Sd R n w w'
def SdB (R n : Nat) (w : World) (e : Ending) (w' : World) : Prop := ∃ b, e = .returned (.bool b) ∧ Sd R n w w'

set_option maxHeartbeats 1000000 in
theorem less_w (R n c i j : Nat) (w : World) (h : TRow w R n) (hi : i < n) (hj : j < n) (_hn : n ≤ 4000000000) :
    Calls Tryz.prog 273 #[.slice (some ⟨R, 0, none⟩) n c, .int .i64 i, .int .i64 j] w fun e w' => SdB R n w e w' := by
  obtain ⟨x0, c0⟩ := h.cell (k := i * 2) (by omega)
  obtain ⟨x1, c1⟩ := h.cell (k := i * 2 + 1) (by omega)
  obtain ⟨y0, d0⟩ := h.cell (k := j * 2) (by omega)
  obtain ⟨y1, d1⟩ := h.cell (k := j * 2 + 1) (by omega)
  have HR := Lib.hid h
  have i1 : (i : Int) < (n : Int) := by omega
  have j1 : (j : Int) < (n : Int) := by omega
  clear h
  go_enter Tryz.func273, Tryz.ntmps273
  go_wp2
  go_region_law (go_simp; go_at_call 275; refine (before_any _ _ _ _ _).mono ?_; rintro e w' ⟨rfl, hb⟩)
  all_goals
    go_wp2
    go_ret
    refine ⟨_, rfl, ?_⟩
    exact (Sd.refl HR.out).drew.trans (Sd.of_below (w := w.drew) HR.out hb)

set_option maxHeartbeats 4000000 in
theorem swap_w (R n c i j : Nat) (w : World) (h : TRow w R n) (hi : i < n) (hj : j < n) (_hn : n ≤ 4000000000) :
    Calls Tryz.prog 274 #[.slice (some ⟨R, 0, none⟩) n c, .int .i64 i, .int .i64 j] w fun e w' => SdU R n w e w' := by
  obtain ⟨x0, c0⟩ := h.cell (k := i * 2) (by omega)
  obtain ⟨x1, c1⟩ := h.cell (k := i * 2 + 1) (by omega)
  obtain ⟨y0, d0⟩ := h.cell (k := j * 2) (by omega)
  obtain ⟨y1, d1⟩ := h.cell (k := j * 2 + 1) (by omega)
  have g0 := h.frozen (i * 2)
  have g1 := h.frozen (i * 2 + 1)
  have g2 := h.frozen (j * 2)
  have g3 := h.frozen (j * 2 + 1)
  have h2 := (h.set (i * 2) y0).set (i * 2 + 1) y1
  obtain ⟨z0, e0⟩ := h2.cell (k := j * 2) (by omega)
  obtain ⟨z1, e1⟩ := h2.cell (k := j * 2 + 1) (by omega)
  have HR := Lib.hid (Sd.refl h)
  have i1 : (i : Int) < (n : Int) := by omega
  have j1 : (j : Int) < (n : Int) := by omega
  clear h h2
  go_enter Tryz.func274, Tryz.ntmps274
  go_wp2
  go_region
  all_goals
    go_wp2
    go_end0
    exact ⟨rfl, ((((HR.out.set _ _).set _ _).set _ _).set _ _).drew⟩
theorem mLess (R n c : Nat) (w : World) : Sem.run Tryz.prog (method 456 239 (.slice (some ⟨R, 0, none⟩) n c) "Less") w = .ok (273, .slice (some ⟨R, 0, none⟩) n c) w := by kernel_rfl
theorem mSwap (R n c : Nat) (w : World) : Sem.run Tryz.prog (method 456 239 (.slice (some ⟨R, 0, none⟩) n c) "Swap") w = .ok (274, .slice (some ⟨R, 0, none⟩) n c) w := by kernel_rfl
theorem pred_cast {j : Nat} (h : 0 < j) : ((j - 1 : Nat) : Int) = (j : Int) - 1 := by omega
theorem less_p (R n c j : Nat) (w : World) (h : TRow w R n) (hj : j < n) (h0 : 0 < j) (hn : n ≤ 4000000000) :
    Calls Tryz.prog 273 #[.slice (some ⟨R, 0, none⟩) n c, .int .i64 j, .int .i64 ((j : Int) - 1)] w fun e w' => SdB R n w e w' := by
  rw [← pred_cast h0]
  exact less_w R n c j (j - 1) w h hj (by omega) hn
theorem swap_p (R n c j : Nat) (w : World) (h : TRow w R n) (hj : j < n) (h0 : 0 < j) (hn : n ≤ 4000000000) :
    Calls Tryz.prog 274 #[.slice (some ⟨R, 0, none⟩) n c, .int .i64 j, .int .i64 ((j : Int) - 1)] w fun e w' => SdU R n w e w' := by
  rw [← pred_cast h0]
  exact swap_w R n c j (j - 1) w h hj (by omega) hn

set_option maxRecDepth 100000 in
set_option maxHeartbeats 2000000 in
theorem insertion_w (R n c a b : Nat) (w : World) (h : TRow w R n) (hab : a ≤ b) (hb : b ≤ n) (hn : n ≤ 4000000000) :
    Calls Tryz.prog 226 #[.iface 239 (.slice (some ⟨R, 0, none⟩) n c), .int .i64 a, .int .i64 b] w fun e w' => SdU R n w e w' := by
  have HH := Lib.hid h
  have mL := mLess R n c
  have mS := mSwap R n c
  clear h
  go_enter Tryz.func226, Tryz.ntmps226
  go_wp2
  go_loopw [6] (fun vi wr => ∃ i : Nat, vi = .int .i64 i ∧ a < i ∧ i ≤ b + 1 ∧ Sd R n w wr) (fun vi _ => b + 1 - (intOf vi).toNat)
  case atStart => exact ⟨a + 1, by go_num, by omega, by omega, Sd.refl HH.out⟩
  case round =>
    obtain ⟨i, rfl, hai, hib, hs⟩ := hrel
    have HS := Lib.hid hs
    clear hs
    by_cases hlt : i < b
    · go_wp2
      go_loopw [7] (fun vj wr2 => ∃ j : Nat, vj = .int .i64 j ∧ a ≤ j ∧ j ≤ i ∧ Sd R n w wr2) (fun vj _ => (intOf vj).toNat)
      case atStart => exact ⟨i, rfl, by omega, Nat.le_refl _, HS.out⟩
      case round =>
        clear HS
        obtain ⟨j, rfl, haj, hji, hs⟩ := hrel
        have HS := Lib.hid hs
        have HL := Lib.hid fun (h0 : 0 < j) => less_p R n c j wr hs.2 (by omega) h0 hn
        clear hs
        by_cases hja : a < j
        · have HW := Lib.hid fun W (hW : TRow W R n) => swap_p R n c j W hW (by omega) (by omega) hn
          have HL := Lib.hid (HL.out (by omega))
          go_wp2_with fail
          refine HL.out.mono ?_; rintro e w1 ⟨bb, rfl, h1⟩
          have H1 := Lib.hid h1
          clear h1
          cases bb with
          | true =>
            go_wp2_with fail
            refine (HW.out _ H1.out.2).mono ?_; rintro e w2 ⟨rfl, h2⟩
            have H2 := Lib.hid h2
            clear h2
            go_wp2_with fail
            go_roundw
            case rel => exact ⟨j - 1, by rw [pred_cast (by omega)], by omega, by omega, HS.out.trans (H1.out.trans H2.out)⟩
            case measure => simp [intOf]; omega
          | false =>
            go_wp2_with fail
            go_roundw
            case rel => exact ⟨i + 1, by go_num, by omega, by omega, HS.out.trans H1.out⟩
            case measure => simp [intOf]; omega
        · go_wp2
          go_roundw
          case rel => exact ⟨i + 1, by go_num, by omega, by omega, HS.out⟩
          case measure => simp [intOf]; omega
    · go_wp2
      go_end0
      exact ⟨rfl, HS.out⟩
end Go.Proofs.YtnlpjncljbaapaaGreatDoor
