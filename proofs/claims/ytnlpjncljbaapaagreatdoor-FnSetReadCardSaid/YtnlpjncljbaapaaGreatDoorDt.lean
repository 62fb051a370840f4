/- Texts that are no dates: the errors of Parse, walked. -/
import Derived.Test.YtnlpjncljbaapaaGreatDoorNm
namespace Go.Proofs.YtnlpjncljbaapaaGreatDoor
open Go.RowKit

theorem d48 : isDig 48 := by unfold isDig; decide
theorem d49 : isDig 49 := by unfold isDig; decide
theorem d50 : isDig 50 := by unfold isDig; decide
theorem d51 : isDig 51 := by unfold isDig; decide
/-- The zero moment and an error. -/
def GivesNoTime (w : World) (e : Ending) (w' : World) : Prop := (∃ p, e = .returned (.tuple #[.agg #[.int .i64 0, .int .i64 0], .iface 175 (.pointer (some p))])) ∧ Below w.heap.size w w'

set_option maxRecDepth 100000 in
set_option maxHeartbeats 2000000 in
theorem parse_short (s : ByteArray) (w : World) (hs : s.size < 4) :
    Calls Tryz.prog 185 #[.string ⟨#[50, 48, 48, 54, 48, 49, 48, 50, 84, 49, 53, 48, 52, 48, 53, 90]⟩, .string s] w fun e w' => GivesNoTime w e w' := by
  have F1 := Lib.hid fun W : World => digits_short s 4 W hs
  go_enter Tryz.func185, Tryz.ntmps185
  go_wp2_with fail
  refine (errNew_any _ _).mono ?_; rintro e w' ⟨rfl, rfl⟩
  go_wp2_with fail
  refine (F1.out _).mono ?_; rintro e w' ⟨rfl, rfl⟩
  go_wp2_with fail
  exact bodyPost_ret (v := .tuple #[.agg #[.int .i64 0, .int .i64 0], .iface 175 (.pointer (some ⟨w.heap.size + 1, 0, none⟩))]) (by simp [results, Tryz.results185, go_sem]) rfl ⟨⟨_, rfl⟩, below_a2⟩

set_option maxRecDepth 100000 in
set_option maxHeartbeats 2000000 in
theorem parse_2020 (w : World) :
    Calls Tryz.prog 185 #[.string ⟨#[50, 48, 48, 54, 48, 49, 48, 50, 84, 49, 53, 48, 52, 48, 53, 90]⟩, .string ⟨#[50, 48, 50, 48]⟩] w fun e w' => GivesNoTime w e w' := by
  have D1 := fun W : World => digits_ok ⟨#[50, 48, 50, 48]⟩ 4 W (by decide) (by decide) (by decide) (fun k hk h4 => by
    have : k = 0 ∨ k = 1 ∨ k = 2 ∨ k = 3 := by omega
    rcases this with rfl | rfl | rfl | rfl <;> first | exact d48 | exact d49 | exact d50 | exact d51)
  have e1 : dv [50, 48, 50, 48] = 2020 := by decide
  simp only [List.take, List.drop, e1] at D1
  have F1 := Lib.hid D1
  clear D1
  have F2 := Lib.hid fun W : World => digits_short ⟨#[]⟩ 2 W (by decide)
  go_enter Tryz.func185, Tryz.ntmps185
  go_wp2_with fail
  refine (errNew_any _ _).mono ?_; rintro e w' ⟨rfl, rfl⟩
  go_wp2_with fail
  refine (F1.out _).mono ?_; rintro e w' ⟨rfl, q1, rfl⟩
  go_wp2_with fail
  refine (F2.out _).mono ?_; rintro e w' ⟨rfl, rfl⟩
  go_wp2_with fail
  exact bodyPost_ret (v := .tuple #[.agg #[.int .i64 0, .int .i64 0], .iface 175 (.pointer (some ⟨w.heap.size + 1, 0, none⟩))]) (by simp [results, Tryz.results185, go_sem]) rfl ⟨⟨_, rfl⟩, ((pw_drewN below_a2 _).setCell (Nat.le_refl _) _).setCell (Nat.le_refl _) _⟩

set_option maxRecDepth 100000 in
set_option maxHeartbeats 2000000 in
theorem parse_13 (w : World) :
    Calls Tryz.prog 185 #[.string ⟨#[50, 48, 48, 54, 48, 49, 48, 50, 84, 49, 53, 48, 52, 48, 53, 90]⟩, .string ⟨#[50, 48, 50, 48, 49, 51, 48, 49, 84, 48, 48, 48, 48, 48, 48, 90]⟩] w fun e w' => GivesNoTime w e w' := by
  have D1 := fun W : World => digits_ok ⟨#[50, 48, 50, 48, 49, 51, 48, 49, 84, 48, 48, 48, 48, 48, 48, 90]⟩ 4 W (by decide) (by decide) (by decide) (fun k hk h4 => by
    have : k = 0 ∨ k = 1 ∨ k = 2 ∨ k = 3 := by omega
    rcases this with rfl | rfl | rfl | rfl <;> first | exact d48 | exact d49 | exact d50 | exact d51)
  have D2 := fun W : World => digits_ok ⟨#[49, 51, 48, 49, 84, 48, 48, 48, 48, 48, 48, 90]⟩ 2 W (by decide) (by decide) (by decide) (fun k hk h4 => by
    have : k = 0 ∨ k = 1 := by omega
    rcases this with rfl | rfl <;> first | exact d48 | exact d49 | exact d50 | exact d51)
  have e1 : dv [50, 48, 50, 48] = 2020 := by decide
  have e2 : dv [49, 51] = 13 := by decide
  simp only [List.take, List.drop, e1] at D1
  simp only [List.take, List.drop, e2] at D2
  have F1 := Lib.hid D1
  have F2 := Lib.hid D2
  clear D1 D2 e1 e2
  go_enter Tryz.func185, Tryz.ntmps185
  go_wp2_with fail
  refine (errNew_any _ _).mono ?_; rintro e w' ⟨rfl, rfl⟩
  go_wp2_with fail
  refine (F1.out _).mono ?_; rintro e w' ⟨rfl, q1, rfl⟩
  go_wp2_with fail
  refine (F2.out _).mono ?_; rintro e w' ⟨rfl, q2, rfl⟩
  go_wp2_with fail
  exact bodyPost_ret (v := .tuple #[.agg #[.int .i64 0, .int .i64 0], .iface 175 (.pointer (some ⟨w.heap.size + 1, 0, none⟩))]) (by simp [results, Tryz.results185, go_sem]) rfl ⟨⟨_, rfl⟩, ((pw_drewN below_a2 _).setCell (Nat.le_refl _) _).setCell (Nat.le_refl _) _⟩

/-- A piece that is no date. -/
def noDate (p : List UInt8) : Prop := p.length < 4 ∨ p = [50, 48, 50, 48] ∨ p = [50, 48, 50, 48, 49, 51, 48, 49, 84, 48, 48, 48, 48, 48, 48, 90]
set_option maxHeartbeats 1000000 in
theorem strToTime_no (p : List UInt8) (w : World) (h : noDate p) :
    Calls Tryz.prog 144 #[.string ⟨p.toArray⟩, .agg #[]] w fun e w' => GivesNoTime w e w' := by
  have F : Hid (∀ W : World, Calls Tryz.prog 185 #[.string ⟨#[50, 48, 48, 54, 48, 49, 48, 50, 84, 49, 53, 48, 52, 48, 53, 90]⟩, .string ⟨p.toArray⟩] W fun e w' => GivesNoTime W e w') := by
    intro W
    rcases h with h | rfl | rfl
    · exact parse_short _ W (by rw [Lib.size_eq]; exact h)
    · exact parse_2020 W
    · exact parse_13 W
  have hsz : ((⟨p.toArray⟩ : ByteArray).size == 8) = false ∧ ((⟨p.toArray⟩ : ByteArray).size == 15) = false := by
    rw [Lib.size_eq]
    rcases h with h | rfl | rfl
    · have h' : (⟨p.toArray⟩ : ByteArray).data.toList.length < 4 := h
      exact ⟨by rw [beq_eq_false_iff_ne]; omega, by rw [beq_eq_false_iff_ne]; omega⟩
    · decide
    · decide
  generalize (⟨p.toArray⟩ : ByteArray) = s at *
  clear h
  obtain ⟨g1, g2⟩ := hsz
  have i1 : ((s.size : Int) == 8) = false := by rw [beq_eq_false_iff_ne] at g1 ⊢; omega
  have i2 : ((s.size : Int) == 15) = false := by rw [beq_eq_false_iff_ne] at g2 ⊢; omega
  go_enter Tryz.func144, Tryz.ntmps144
  go_wp2_with fail
  refine (F.out _).mono ?_; rintro e w1 ⟨⟨p, rfl⟩, hb⟩
  obtain ⟨hc, hf⟩ := bcell hb
  have hz := hb.size
  simp only [World.size_alloc] at hz
  go_wp2_with fail
  have c0 : w1.cell? ⟨w.heap.size + 1, 0, none⟩ = some (.int .i64 0) := by rw [hc _ _ (by simp)]; simp
  have c1 : w1.cell? ⟨w.heap.size + 1, 1, none⟩ = some (.int .i64 0) := by rw [hc _ _ (by simp)]; simp
  have q0 := two_0 (.int .i64 0) (.int .i64 0) c0
  have q1 := two_1 (.int .i64 0) (.int .i64 0) c1
  refine bodyPost_ret (v := .tuple #[.agg #[.int .i64 0, .int .i64 0], .iface 175 (.pointer (some p))]) (by simp [results, Tryz.results144, go_sem, q0, q1]) rfl ⟨⟨p, rfl⟩, ?_⟩
  exact ((below_a2.trans (hb.mono (B' := w.heap.size) (by simp; omega))).setCell (by simp) _).setCell (by simp) _
end Go.Proofs.YtnlpjncljbaapaaGreatDoor

/- StrToDtStart and StrToDatesInLoc, walked. -/
namespace Go.Proofs.YtnlpjncljbaapaaGreatDoor
open Go.RowKit

theorem idx_none {c : UInt8} {l : List UInt8} (h : c ∉ l) : idx c l = l.length := by
  induction l with
  | nil => rfl
  | cons a l ih =>
    simp only [List.mem_cons, not_or] at h
    unfold idx
    rw [if_neg (fun e => h.1 e.symm), ih h.2]
    rfl
theorem splitL_one {c : UInt8} {l : List UInt8} (h : c ∉ l) : splitL c l = [l] := by
  rw [splitL, dif_neg (by rw [idx_none h]; omega)]
theorem dg_ne {n : Int} {c : UInt8} (h : c.toNat < 48 ∨ 57 < c.toNat) : c ≠ dg n := by
  rintro rfl
  have := dg_toNat n
  omega
theorem dateL_no {c : UInt8} (h : c.toNat < 48 ∨ 57 < c.toNat) (h1 : c ≠ 84) (h2 : c ≠ 90) (t : Int) : c ∉ dateL t := by
  simp [dateL, dateBytes, dg_ne h, h1, h2]

theorem keep2b {w w' : World} {o : Obj} {u v : Value} {t : TypeId} (hb : Below ((w.alloc o).alloc (.cells #[u, v] t)).heap.size ((w.alloc o).alloc (.cells #[u, v] t)) w') :
    w'.cell? ⟨w.heap.size + 1, 0, none⟩ = some u ∧ w'.cell? ⟨w.heap.size + 1, 1, none⟩ = some v ∧ w'.frozen? ⟨w.heap.size + 1, 0, none⟩ = false ∧ w'.frozen? ⟨w.heap.size + 1, 1, none⟩ = false ∧ w.heap.size + 1 < w'.heap.size := by
  have e : w.heap.size + 1 = (w.alloc o).heap.size := by rw [World.size_alloc]
  have h := keep2 (w := w.alloc o) (w' := w') (u := u) (v := v) (t := t) (hb.mono (by simp))
  rw [← e] at h
  exact h
theorem keep2c {W w2 : World} {g : Nat} {u v : Value} (hb : Below W.heap.size W w2) (hz : g < W.heap.size) (k0 : W.cell? ⟨g, 0, none⟩ = some u) (k1 : W.cell? ⟨g, 1, none⟩ = some v) (l0 : W.frozen? ⟨g, 0, none⟩ = false) (l1 : W.frozen? ⟨g, 1, none⟩ = false) :
    w2.cell? ⟨g, 0, none⟩ = some u ∧ w2.cell? ⟨g, 1, none⟩ = some v ∧ w2.frozen? ⟨g, 0, none⟩ = false ∧ w2.frozen? ⟨g, 1, none⟩ = false ∧ g < w2.heap.size :=
  ⟨(hb.cell hz).trans k0, (hb.cell hz).trans k1, (hb.frozen hz).trans l0, (hb.frozen hz).trans l1, Nat.lt_of_lt_of_le hz hb.size⟩
set_option maxRecDepth 100000 in
set_option maxHeartbeats 2000000 in
theorem dtStart_ok (t : Int) (w : World) (h1 : 0 ≤ t) (h2 : t < 315537897600) :
    Calls Tryz.prog 97 #[.string ⟨(dateL t).toArray⟩, .agg #[]] w fun e w' => GivesTime t w e w' := by
  have S := fun W : World => zzSplit_any ⟨(dateL t).toArray⟩ 58 W (by rw [Lib.size_eq]; simp [dateL_len])
  rw [show splitL 58 (⟨(dateL t).toArray⟩ : ByteArray).data.toList = [dateL t] from splitL_one (dateL_no (by decide) (by decide) (by decide) t)] at S
  have HS := Lib.hid S
  clear S
  have HT := Lib.hid fun W : World => strToTime_date t W h1 h2
  go_enter Tryz.func97, Tryz.ntmps97
  go_wp2_with fail
  refine (HS.out _).mono ?_; rintro e w1 ⟨g, cap, rfl, hcap, hst, hg1, hg2, hb⟩
  have hc : w1.cell? ⟨g, 0, none⟩ = some (.string ⟨(dateL t).toArray⟩) := hst 0 _ rfl
  have hi1 : (0 : Int) < ((1 : Nat) : Int) := by decide
  obtain ⟨k0, k1, l0, l1, hz⟩ := keep2b hb
  have HB := Lib.hid (below_a2.trans (hb.mono (B' := w.heap.size) (by simp; omega)))
  simp only [World.size_alloc] at hg1
  have hne : g ≠ w.heap.size + 1 := by omega
  have hne' : w.heap.size + 1 ≠ g := by omega
  clear hst hb
  go_wp2_with fail
  go_region_held3 (fun w' => w'.cell? ⟨g, 0, none⟩ = some (.string ⟨(dateL t).toArray⟩))
    (first | go_keep | (rw [hb2.cell (p := ⟨g, 0, none⟩) (by simpa using hg2)]; assumption))
    ((go_at_call 144; refine (HT.out _).mono ?_; rintro e w2 ⟨rfl, hb2⟩; obtain ⟨c0, c1, f0, f1, hz2⟩ := keep2c hb2 hz k0 k1 l0 l1))
  go_wp2
  have q0 := two_0 (.int .i64 t) (.int .i64 0) c0
  have q1 := two_1 (.int .i64 t) (.int .i64 0) c1
  have hwz := HB.out.size
  refine bodyPost_ret (v := .tuple #[.agg #[.int .i64 t, .int .i64 0], .nilIface]) (by simp [results, Tryz.results97, go_sem, q0, q1]) rfl ⟨rfl, ?_⟩
  exact ((HB.out.drew.trans (hb2.mono (B' := w.heap.size) (by simpa using hwz))).setCell (by simp) _).setCell (by simp) _
end Go.Proofs.YtnlpjncljbaapaaGreatDoor
