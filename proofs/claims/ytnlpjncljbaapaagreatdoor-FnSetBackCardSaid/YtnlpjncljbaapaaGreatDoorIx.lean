/- zzIndexAny, walked, at texts of ASCII. -/
import Derived.Test.YtnlpjncljbaapaaGreatDoorFw
import Derived.Lib.OthersKept
namespace Go.Proofs.YtnlpjncljbaapaaGreatDoor
open Go.RowKit

theorem byte_ne {a c : UInt8} (h : a ≠ c) : ((a.toNat : Int) == (c.toNat : Int)) = false := by
  rw [beq_eq_false_iff_ne]
  intro e
  exact h (UInt8.toNat_inj.1 (by omega))
theorem iter_keep {W : World} {g : Nat} {o : Obj} (h : W.heap[g]? = some o) (c : ByteArray) (p : Nat) : (W.iter c p).heap[g]? = some o :=
  (Below.heap_alloc W (.stringIter c p) g (Array.getElem?_eq_some_iff.1 h).1).trans h
theorem below_iter {B : Nat} {w W : World} (h : Below B w W) (hB : B ≤ W.heap.size) (c : ByteArray) (p : Nat) : Below B w (W.iter c p) := h.alloc hB _

set_option maxRecDepth 100000 in
set_option maxHeartbeats 2000000 in
theorem zzIndexAny_eq_none (s : ByteArray)  (w : World) (ha : ∀ k (h : k < s.size), k < s.size → s[k].toNat < 128 ∧ s[k] ≠ 61) :
    Calls Tryz.prog 150 #[.string s, .string ⟨#[61]⟩] w fun e w' => e = .returned (.int .i64 (-1)) ∧ Below w.heap.size w w' := by
  have HA := Lib.hid ha
  clear ha
  go_enter Tryz.func150, Tryz.ntmps150
  go_wp2
  go_loopw [] (fun wr => ∃ pos : Nat, pos ≤ s.size ∧ wr.heap[w.heap.size]? = some (.stringIter s pos) ∧ Below w.heap.size w wr) (fun wr => s.size - wr.iterPos w.heap.size)
  case atStart => exact ⟨0, Nat.zero_le _, heap_alloc_new w _, (Below.refl _ _).alloc (Nat.le_refl _) _⟩
  case round =>
    obtain ⟨pos, hle, hit, hb⟩ := hrel
    have HP := Lib.hid (iterPos_of hit)
    by_cases hp : pos < s.size
    · have hps : pos < s.size := by omega
      obtain ⟨h1, h20⟩ := HA.out pos hps hp
      have hnx := fun ty => Lib.run_next_ascii_at (P := Tryz.prog) wr w.heap.size s pos ty hit hps h1
      have hi2 := Lib.iterAt_heap wr w.heap.size s pos (pos + 1) hit
      have hb2 := Lib.below_iterAt hb (Nat.le_refl _) s (pos + 1)
      have hlt : w.heap.size < (wr.iterAt w.heap.size s (pos + 1)).heap.size := (Array.getElem?_eq_some_iff.1 hi2).1
      clear hit hb
      have HI2 := Lib.hid hi2
      have HB2 := Lib.hid hb2
      clear hi2 hb2
      have g0 : ((s[pos].toNat : Int) == 61) = false := byte_ne (c := 61) h20
      go_wp2
      generalize wr.iterAt w.heap.size s (pos + 1) = W1 at *
      have hn0 : ∀ ty, (Instr.next (.pointer (some ⟨W1.heap.size, 0, none⟩)) true ty).run Tryz.prog (W1.iter ⟨#[61]⟩ 0) = .ok (.tuple #[.bool true, .int .i64 0, .int .i32 61]) (W1.iter ⟨#[61]⟩ 1) := fun ty => run_next_ascii W1 ⟨#[61]⟩ 0 ty (by simp [ByteArray.size]) (by decide)
      have hn1 : ∀ ty, (Instr.next (.pointer (some ⟨W1.heap.size, 0, none⟩)) true ty).run Tryz.prog (W1.iter ⟨#[61]⟩ 1) = .ok (.tuple #[.bool false]) (W1.iter ⟨#[61]⟩ 1) := fun ty => run_next_end W1 ⟨#[61]⟩ 1 ty (by simp [ByteArray.size])
      refine wp_loop_rounds 2 ?_
      rw [rounds_succ]
      go_wp2
      rw [rounds_succ]
      go_wp2
      go_roundw
      case rel => exact ⟨pos + 1, by omega, iter_keep HI2.out _ _, below_iter HB2.out (Nat.le_of_lt hlt) _ _⟩
      case measure =>
        rw [HP.out, iterPos_of (iter_keep HI2.out _ _)]
        omega
    · have hps : ¬ pos < s.size := by omega
      have hnx := fun ty => Lib.run_next_end_at (P := Tryz.prog) wr w.heap.size s pos ty hit hps
      clear hit
      go_wp2
      go_ret
      exact ⟨rfl, hb⟩

set_option maxRecDepth 100000 in
set_option maxHeartbeats 2000000 in
theorem zzIndexAny_sc (s : ByteArray) (n : Nat) (hn : n < s.size) (hb0 : s[n] = 58) (w : World) (ha : ∀ k (h : k < s.size), k < n → s[k].toNat < 128 ∧ s[k] ≠ 59 ∧ s[k] ≠ 58) :
    Calls Tryz.prog 150 #[.string s, .string ⟨#[59, 58]⟩] w fun e w' => e = .returned (.int .i64 (n : Int)) ∧ Below w.heap.size w w' := by
  have HA := Lib.hid ha
  clear ha
  go_enter Tryz.func150, Tryz.ntmps150
  go_wp2
  go_loopw [] (fun wr => ∃ pos : Nat, pos ≤ n ∧ wr.heap[w.heap.size]? = some (.stringIter s pos) ∧ Below w.heap.size w wr) (fun wr => s.size - wr.iterPos w.heap.size)
  case atStart => exact ⟨0, Nat.zero_le _, heap_alloc_new w _, (Below.refl _ _).alloc (Nat.le_refl _) _⟩
  case round =>
    obtain ⟨pos, hle, hit, hb⟩ := hrel
    have HP := Lib.hid (iterPos_of hit)
    by_cases hp : pos < n
    · have hps : pos < s.size := by omega
      obtain ⟨h1, h20, h21⟩ := HA.out pos hps hp
      have hnx := fun ty => Lib.run_next_ascii_at (P := Tryz.prog) wr w.heap.size s pos ty hit hps h1
      have hi2 := Lib.iterAt_heap wr w.heap.size s pos (pos + 1) hit
      have hb2 := Lib.below_iterAt hb (Nat.le_refl _) s (pos + 1)
      have hlt : w.heap.size < (wr.iterAt w.heap.size s (pos + 1)).heap.size := (Array.getElem?_eq_some_iff.1 hi2).1
      clear hit hb
      have HI2 := Lib.hid hi2
      have HB2 := Lib.hid hb2
      clear hi2 hb2
      have g0 : ((s[pos].toNat : Int) == 59) = false := byte_ne (c := 59) h20
      have g1 : ((s[pos].toNat : Int) == 58) = false := byte_ne (c := 58) h21
      go_wp2
      generalize wr.iterAt w.heap.size s (pos + 1) = W1 at *
      have hn0 : ∀ ty, (Instr.next (.pointer (some ⟨W1.heap.size, 0, none⟩)) true ty).run Tryz.prog (W1.iter ⟨#[59, 58]⟩ 0) = .ok (.tuple #[.bool true, .int .i64 0, .int .i32 59]) (W1.iter ⟨#[59, 58]⟩ 1) := fun ty => run_next_ascii W1 ⟨#[59, 58]⟩ 0 ty (by simp [ByteArray.size]) (by decide)
      have hn1 : ∀ ty, (Instr.next (.pointer (some ⟨W1.heap.size, 0, none⟩)) true ty).run Tryz.prog (W1.iter ⟨#[59, 58]⟩ 1) = .ok (.tuple #[.bool true, .int .i64 1, .int .i32 58]) (W1.iter ⟨#[59, 58]⟩ 2) := fun ty => run_next_ascii W1 ⟨#[59, 58]⟩ 1 ty (by simp [ByteArray.size]) (by decide)
      have hn2 : ∀ ty, (Instr.next (.pointer (some ⟨W1.heap.size, 0, none⟩)) true ty).run Tryz.prog (W1.iter ⟨#[59, 58]⟩ 2) = .ok (.tuple #[.bool false]) (W1.iter ⟨#[59, 58]⟩ 2) := fun ty => run_next_end W1 ⟨#[59, 58]⟩ 2 ty (by simp [ByteArray.size])
      refine wp_loop_rounds 3 ?_
      rw [rounds_succ]
      go_wp2
      rw [rounds_succ]
      go_wp2
      rw [rounds_succ]
      go_wp2
      go_roundw
      case rel => exact ⟨pos + 1, by omega, iter_keep HI2.out _ _, below_iter HB2.out (Nat.le_of_lt hlt) _ _⟩
      case measure =>
        rw [HP.out, iterPos_of (iter_keep HI2.out _ _)]
        omega
    · obtain rfl : pos = n := by omega
      have hps := hn
      have h1 : s[pos].toNat < 128 := by rw [hb0]; decide
      have hnx := fun ty => Lib.run_next_ascii_at (P := Tryz.prog) wr w.heap.size s pos ty hit hps h1
      have hi2 := Lib.iterAt_heap wr w.heap.size s pos (pos + 1) hit
      have hb2 := Lib.below_iterAt hb (Nat.le_refl _) s (pos + 1)
      have hlt : w.heap.size < (wr.iterAt w.heap.size s (pos + 1)).heap.size := (Array.getElem?_eq_some_iff.1 hi2).1
      clear hit hb
      have HI2 := Lib.hid hi2
      have HB2 := Lib.hid hb2
      clear hi2 hb2
      have g9 : (s[pos].toNat : Int) = 58 := by rw [hb0]; rfl
      clear hb0
      go_wp2
      generalize wr.iterAt w.heap.size s (pos + 1) = W1 at *
      have hn0 : ∀ ty, (Instr.next (.pointer (some ⟨W1.heap.size, 0, none⟩)) true ty).run Tryz.prog (W1.iter ⟨#[59, 58]⟩ 0) = .ok (.tuple #[.bool true, .int .i64 0, .int .i32 59]) (W1.iter ⟨#[59, 58]⟩ 1) := fun ty => run_next_ascii W1 ⟨#[59, 58]⟩ 0 ty (by simp [ByteArray.size]) (by decide)
      have hn1 : ∀ ty, (Instr.next (.pointer (some ⟨W1.heap.size, 0, none⟩)) true ty).run Tryz.prog (W1.iter ⟨#[59, 58]⟩ 1) = .ok (.tuple #[.bool true, .int .i64 1, .int .i32 58]) (W1.iter ⟨#[59, 58]⟩ 2) := fun ty => run_next_ascii W1 ⟨#[59, 58]⟩ 1 ty (by simp [ByteArray.size]) (by decide)
      have hn2 : ∀ ty, (Instr.next (.pointer (some ⟨W1.heap.size, 0, none⟩)) true ty).run Tryz.prog (W1.iter ⟨#[59, 58]⟩ 2) = .ok (.tuple #[.bool false]) (W1.iter ⟨#[59, 58]⟩ 2) := fun ty => run_next_end W1 ⟨#[59, 58]⟩ 2 ty (by simp [ByteArray.size])
      refine wp_loop_rounds 3 ?_
      rw [rounds_succ]
      go_wp2
      rw [rounds_succ]
      go_wp2
      go_ret
      exact ⟨rfl, below_iter HB2.out (Nat.le_of_lt hlt) _ _⟩
end Go.Proofs.YtnlpjncljbaapaaGreatDoor
