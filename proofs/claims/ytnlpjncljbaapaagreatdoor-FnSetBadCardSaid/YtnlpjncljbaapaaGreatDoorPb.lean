/- Texts that are no dates: the errors of Parse, walked. -/
import Derived.Test.YtnlpjncljbaapaaGreatDoorNm
namespace Go.Proofs.YtnlpjncljbaapaaGreatDoor
open Go.RowKit

theorem d48 : isDig 48 := by unfold isDig; decide
theorem d49 : isDig 49 := by unfold isDig; decide
theorem d50 : isDig 50 := by unfold isDig; decide
theorem d51 : isDig 51 := by unfold isDig; decide
/-- The zero moment and an error. -/
def GivesNoTime (w : World) (e : Ending) (w' : World) : Prop := (∃ p, e = .returned (.tuple #[.agg #[.int .i64 0, .int .i64 0], .iface 175 (.pointer (some p))])) ∧ Below w.heap.size w w'

set_option maxRecDepth 100000 in
set_option maxHeartbeats 2000000 in
theorem parse_short (s : ByteArray) (w : World) (hs : s.size < 4) :
    Calls Tryz.prog 185 #[.string ⟨#[50, 48, 48, 54, 48, 49, 48, 50, 84, 49, 53, 48, 52, 48, 53, 90]⟩, .string s] w fun e w' => GivesNoTime w e w' := by
  have F1 := Lib.hid fun W : World => digits_short s 4 W hs
  go_enter Tryz.func185, Tryz.ntmps185
  go_wp2_with fail
  refine (errNew_any _ _).mono ?_; rintro e w' ⟨rfl, rfl⟩
  go_wp2_with fail
  refine (F1.out _).mono ?_; rintro e w' ⟨rfl, rfl⟩
  go_wp2_with fail
  exact bodyPost_ret (v := .tuple #[.agg #[.int .i64 0, .int .i64 0], .iface 175 (.pointer (some ⟨w.heap.size + 1, 0, none⟩))]) (by simp [results, Tryz.results185, go_sem]) rfl ⟨⟨_, rfl⟩, below_a2⟩

set_option maxRecDepth 100000 in
set_option maxHeartbeats 2000000 in
theorem parse_2020 (w : World) :
    Calls Tryz.prog 185 #[.string ⟨#[50, 48, 48, 54, 48, 49, 48, 50, 84, 49, 53, 48, 52, 48, 53, 90]⟩, .string ⟨#[50, 48, 50, 48]⟩] w fun e w' => GivesNoTime w e w' := by
  have D1 := fun W : World => digits_ok ⟨#[50, 48, 50, 48]⟩ 4 W (by decide) (by decide) (by decide) (fun k hk h4 => by
    have : k = 0 ∨ k = 1 ∨ k = 2 ∨ k = 3 := by omega
    rcases this with rfl | rfl | rfl | rfl <;> first | exact d48 | exact d49 | exact d50 | exact d51)
  have e1 : dv [50, 48, 50, 48] = 2020 := by decide
  simp only [List.take, List.drop, e1] at D1
  have F1 := Lib.hid D1
  clear D1
  have F2 := Lib.hid fun W : World => digits_short ⟨#[]⟩ 2 W (by decide)
  go_enter Tryz.func185, Tryz.ntmps185
  go_wp2_with fail
  refine (errNew_any _ _).mono ?_; rintro e w' ⟨rfl, rfl⟩
  go_wp2_with fail
  refine (F1.out _).mono ?_; rintro e w' ⟨rfl, q1, rfl⟩
  go_wp2_with fail
  refine (F2.out _).mono ?_; rintro e w' ⟨rfl, rfl⟩
  go_wp2_with fail
  exact bodyPost_ret (v := .tuple #[.agg #[.int .i64 0, .int .i64 0], .iface 175 (.pointer (some ⟨w.heap.size + 1, 0, none⟩))]) (by simp [results, Tryz.results185, go_sem]) rfl ⟨⟨_, rfl⟩, ((pw_drewN below_a2 _).setCell (Nat.le_refl _) _).setCell (Nat.le_refl _) _⟩

set_option maxRecDepth 100000 in
set_option maxHeartbeats 2000000 in
theorem parse_13 (w : World) :
    Calls Tryz.prog 185 #[.string ⟨#[50, 48, 48, 54, 48, 49, 48, 50, 84, 49, 53, 48, 52, 48, 53, 90]⟩, .string ⟨#[50, 48, 50, 48, 49, 51, 48, 49, 84, 48, 48, 48, 48, 48, 48, 90]⟩] w fun e w' => GivesNoTime w e w' := by
  have D1 := fun W : World => digits_ok ⟨#[50, 48, 50, 48, 49, 51, 48, 49, 84, 48, 48, 48, 48, 48, 48, 90]⟩ 4 W (by decide) (by decide) (by decide) (fun k hk h4 => by
    have : k = 0 ∨ k = 1 ∨ k = 2 ∨ k = 3 := by omega
    rcases this with rfl | rfl | rfl | rfl <;> first | exact d48 | exact d49 | exact d50 | exact d51)
  have D2 := fun W : World => digits_ok ⟨#[49, 51, 48, 49, 84, 48, 48, 48, 48, 48, 48, 90]⟩ 2 W (by decide) (by decide) (by decide) (fun k hk h4 => by
    have : k = 0 ∨ k = 1 := by omega
    rcases this with rfl | rfl <;> first | exact d48 | exact d49 | exact d50 | exact d51)
  have e1 : dv [50, 48, 50, 48] = 2020 := by decide
  have e2 : dv [49, 51] = 13 := by decide
  simp only [List.take, List.drop, e1] at D1
  simp only [List.take, List.drop, e2] at D2
  have F1 := Lib.hid D1
  have F2 := Lib.hid D2
  clear D1 D2 e1 e2
  go_enter Tryz.func185, Tryz.ntmps185
  go_wp2_with fail
  refine (errNew_any _ _).mono ?_; rintro e w' ⟨rfl, rfl⟩
  go_wp2_with fail
  refine (F1.out _).mono ?_; rintro e w' ⟨rfl, q1, rfl⟩
  go_wp2_with fail
  refine (F2.out _).mono ?_; rintro e w' ⟨rfl, q2, rfl⟩
  go_wp2_with fail
  exact bodyPost_ret (v := .tuple #[.agg #[.int .i64 0, .int .i64 0], .iface 175 (.pointer (some ⟨w.heap.size + 1, 0, none⟩))]) (by simp [results, Tryz.results185, go_sem]) rfl ⟨⟨_, rfl⟩, ((pw_drewN below_a2 _).setCell (Nat.le_refl _) _).setCell (Nat.le_refl _) _⟩

/-- A piece that is no date. -/
def noDate (p : List UInt8) : Prop := p.length < 4 ∨ p = [50, 48, 50, 48] ∨ p = [50, 48, 50, 48, 49, 51, 48, 49, 84, 48, 48, 48, 48, 48, 48, 90]
set_option maxHeartbeats 1000000 in
theorem strToTime_no (p : List UInt8) (w : World) (h : noDate p) :
    Calls Tryz.prog 144 #[.string ⟨p.toArray⟩, .agg #[]] w fun e w' => GivesNoTime w e w' := by
  have F : Hid (∀ W : World, Calls Tryz.prog 185 #[.string ⟨#[50, 48, 48, 54, 48, 49, 48, 50, 84, 49, 53, 48, 52, 48, 53, 90]⟩, .string ⟨p.toArray⟩] W fun e w' => GivesNoTime W e w') := by
    intro W
    rcases h with h | rfl | rfl
    · exact parse_short _ W (by rw [Lib.size_eq]; exact h)
    · exact parse_2020 W
    · exact parse_13 W
  have hsz : ((⟨p.toArray⟩ : ByteArray).size == 8) = false ∧ ((⟨p.toArray⟩ : ByteArray).size == 15) = false := by
    rw [Lib.size_eq]
    rcases h with h | rfl | rfl
    · have h' : (⟨p.toArray⟩ : ByteArray).data.toList.length < 4 := h
      exact ⟨by rw [beq_eq_false_iff_ne]; omega, by rw [beq_eq_false_iff_ne]; omega⟩
    · decide
    · decide
  generalize (⟨p.toArray⟩ : ByteArray) = s at *
  clear h
  obtain ⟨g1, g2⟩ := hsz
  have i1 : ((s.size : Int) == 8) = false := by rw [beq_eq_false_iff_ne] at g1 ⊢; omega
  have i2 : ((s.size : Int) == 15) = false := by rw [beq_eq_false_iff_ne] at g2 ⊢; omega
  go_enter Tryz.func144, Tryz.ntmps144
  go_wp2_with fail
  refine (F.out _).mono ?_; rintro e w1 ⟨⟨p, rfl⟩, hb⟩
  obtain ⟨hc, hf⟩ := bcell hb
  have hz := hb.size
  simp only [World.size_alloc] at hz
  go_wp2_with fail
  have c0 : w1.cell? ⟨w.heap.size + 1, 0, none⟩ = some (.int .i64 0) := by rw [hc _ _ (by simp)]; simp
  have c1 : w1.cell? ⟨w.heap.size + 1, 1, none⟩ = some (.int .i64 0) := by rw [hc _ _ (by simp)]; simp
  have q0 := two_0 (.int .i64 0) (.int .i64 0) c0
  have q1 := two_1 (.int .i64 0) (.int .i64 0) c1
  refine bodyPost_ret (v := .tuple #[.agg #[.int .i64 0, .int .i64 0], .iface 175 (.pointer (some p))]) (by simp [results, Tryz.results144, go_sem, q0, q1]) rfl ⟨⟨p, rfl⟩, ?_⟩
  exact ((below_a2.trans (hb.mono (B' := w.heap.size) (by simp; omega))).setCell (by simp) _).setCell (by simp) _
end Go.Proofs.YtnlpjncljbaapaaGreatDoor
