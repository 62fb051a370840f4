/- StrToDtStart and StrToDatesInLoc, walked. -/
import Derived.Test.YtnlpjncljbaapaaGreatDoorPb
namespace Go.Proofs.YtnlpjncljbaapaaGreatDoor
open Go.RowKit

theorem idx_none {c : UInt8} {l : List UInt8} (h : c ∉ l) : idx c l = l.length := by
  induction l with
  | nil => rfl
  | cons a l ih =>
    simp only [List.mem_cons, not_or] at h
    unfold idx
    rw [if_neg (fun e => h.1 e.symm), ih h.2]
    rfl
theorem splitL_one {c : UInt8} {l : List UInt8} (h : c ∉ l) : splitL c l = [l] := by
  rw [splitL, dif_neg (by rw [idx_none h]; omega)]
theorem dg_ne {n : Int} {c : UInt8} (h : c.toNat < 48 ∨ 57 < c.toNat) : c ≠ dg n := by
  rintro rfl
  have := dg_toNat n
  omega
theorem dateL_no {c : UInt8} (h : c.toNat < 48 ∨ 57 < c.toNat) (h1 : c ≠ 84) (h2 : c ≠ 90) (t : Int) : c ∉ dateL t := by
  simp [dateL, dateBytes, dg_ne h, h1, h2]

theorem keep2b {w w' : World} {o : Obj} {u v : Value} {t : TypeId} (hb : Below ((w.alloc o).alloc (.cells #[u, v] t)).heap.size ((w.alloc o).alloc (.cells #[u, v] t)) w') :
    w'.cell? ⟨w.heap.size + 1, 0, none⟩ = some u ∧ w'.cell? ⟨w.heap.size + 1, 1, none⟩ = some v ∧ w'.frozen? ⟨w.heap.size + 1, 0, none⟩ = false ∧ w'.frozen? ⟨w.heap.size + 1, 1, none⟩ = false ∧ w.heap.size + 1 < w'.heap.size := by
  have e : w.heap.size + 1 = (w.alloc o).heap.size := by rw [World.size_alloc]
  have h := keep2 (w := w.alloc o) (w' := w') (u := u) (v := v) (t := t) (hb.mono (by simp))
  rw [← e] at h
  exact h
theorem keep2c {W w2 : World} {g : Nat} {u v : Value} (hb : Below W.heap.size W w2) (hz : g < W.heap.size) (k0 : W.cell? ⟨g, 0, none⟩ = some u) (k1 : W.cell? ⟨g, 1, none⟩ = some v) (l0 : W.frozen? ⟨g, 0, none⟩ = false) (l1 : W.frozen? ⟨g, 1, none⟩ = false) :
    w2.cell? ⟨g, 0, none⟩ = some u ∧ w2.cell? ⟨g, 1, none⟩ = some v ∧ w2.frozen? ⟨g, 0, none⟩ = false ∧ w2.frozen? ⟨g, 1, none⟩ = false ∧ g < w2.heap.size :=
  ⟨(hb.cell hz).trans k0, (hb.cell hz).trans k1, (hb.frozen hz).trans l0, (hb.frozen hz).trans l1, Nat.lt_of_lt_of_le hz hb.size⟩
set_option maxRecDepth 100000 in
set_option maxHeartbeats 2000000 in
theorem dtStart_ok (t : Int) (w : World) (h1 : 0 ≤ t) (h2 : t < 315537897600) :
    Calls Tryz.prog 97 #[.string ⟨(dateL t).toArray⟩, .agg #[]] w fun e w' => GivesTime t w e w' := by
  have S := fun W : World => zzSplit_any ⟨(dateL t).toArray⟩ 58 W (by rw [Lib.size_eq]; simp [dateL_len])
  rw [show splitL 58 (⟨(dateL t).toArray⟩ : ByteArray).data.toList = [dateL t] from splitL_one (dateL_no (by decide) (by decide) (by decide) t)] at S
  have HS := Lib.hid S
  clear S
  have HT := Lib.hid fun W : World => strToTime_date t W h1 h2
  go_enter Tryz.func97, Tryz.ntmps97
  go_wp2_with fail
  refine (HS.out _).mono ?_; rintro e w1 ⟨g, cap, rfl, hcap, hst, hg1, hg2, hb⟩
  have hc : w1.cell? ⟨g, 0, none⟩ = some (.string ⟨(dateL t).toArray⟩) := hst 0 _ rfl
  have hi1 : (0 : Int) < ((1 : Nat) : Int) := by decide
  obtain ⟨k0, k1, l0, l1, hz⟩ := keep2b hb
  have HB := Lib.hid (below_a2.trans (hb.mono (B' := w.heap.size) (by simp; omega)))
  simp only [World.size_alloc] at hg1
  have hne : g ≠ w.heap.size + 1 := by omega
  have hne' : w.heap.size + 1 ≠ g := by omega
  clear hst hb
  go_wp2_with fail
  go_region_held3 (fun w' => w'.cell? ⟨g, 0, none⟩ = some (.string ⟨(dateL t).toArray⟩))
    (first | go_keep | (rw [hb2.cell (p := ⟨g, 0, none⟩) (by simpa using hg2)]; assumption))
    ((go_at_call 144; refine (HT.out _).mono ?_; rintro e w2 ⟨rfl, hb2⟩; obtain ⟨c0, c1, f0, f1, hz2⟩ := keep2c hb2 hz k0 k1 l0 l1))
  go_wp2
  have q0 := two_0 (.int .i64 t) (.int .i64 0) c0
  have q1 := two_1 (.int .i64 t) (.int .i64 0) c1
  have hwz := HB.out.size
  refine bodyPost_ret (v := .tuple #[.agg #[.int .i64 t, .int .i64 0], .nilIface]) (by simp [results, Tryz.results97, go_sem, q0, q1]) rfl ⟨rfl, ?_⟩
  exact ((HB.out.drew.trans (hb2.mono (B' := w.heap.size) (by simpa using hwz))).setCell (by simp) _).setCell (by simp) _
end Go.Proofs.YtnlpjncljbaapaaGreatDoor
