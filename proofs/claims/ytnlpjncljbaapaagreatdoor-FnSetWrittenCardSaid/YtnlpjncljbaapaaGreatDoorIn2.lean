/- Numbers and days with commas between them, read. -/
import Derived.Test.YtnlpjncljbaapaaGreatDoorFw
import Derived.Deep.OwnRows
namespace Go.Proofs.YtnlpjncljbaapaaGreatDoor
open Go.RowKit

/-- Whole numbers in a row of memory. -/
def IntsAt (w : World) (g : Nat) (xs : List Int) : Prop := ∀ j x, xs[j]? = some x → w.cell? ⟨g, j, none⟩ = some (.int .i64 x)
theorem IntsAt.keep {w w' : World} {g : Nat} {xs : List Int} (h : IntsAt w g xs) (hk : ∀ j, w'.cell? ⟨g, j, none⟩ = w.cell? ⟨g, j, none⟩) : IntsAt w' g xs := fun j x hx => (hk j).trans (h j x hx)
theorem IntsAt.below {w w' : World} {g B : Nat} {xs : List Int} (h : IntsAt w g xs) (hb : Below B w w') (hg : g < B) : IntsAt w' g xs := h.keep fun _ => hb.cell hg
/-- A call hands back new numbers in a row, and no error. -/
def GivesInts (xs : List Int) (w : World) (e : Ending) (w' : World) : Prop :=
  ∃ g, e = .returned (.tuple #[.slice (some ⟨g, 0, none⟩) xs.length xs.length, .nilIface]) ∧ IntsAt w' g xs ∧ w.heap.size ≤ g ∧ g < w'.heap.size ∧ Below w.heap.size w w'
/-- The pieces are numerals of these numbers. -/
def areInts (ps : List (List UInt8)) (ns : List Int) : Prop := ps.length = ns.length ∧ ∀ (i : Nat) (p : List UInt8) (n : Int), ps[i]? = some p → ns[i]? = some n → p.length ≤ 18 ∧ Lib.atoi p = some n
theorem below_row {B : Nat} {w w' : World} {b : Nat} {t : TypeId} {n : Nat} {f : Nat → Value} (h : w.rowIs b t n f) (hb : Below B w w') (hB : b < B) : w'.rowIs b t n f := h.of_block (hb.block b hB)

set_option maxRecDepth 100000 in
set_option maxHeartbeats 1000000 in
theorem strToInts_ok (s : ByteArray) (ns : List Int) (w : World) (hs : s.size ≤ 100000) (ha : areInts (splitL 44 s.data.toList) ns) :
    Calls Tryz.prog 147 #[.string s] w fun e w' => GivesInts ns w e w' := by
  obtain ⟨hlen, hat⟩ := ha
  have HA := Lib.hid hat
  obtain ⟨l1, l2⟩ := splitL_len 44 s.data.toList
  rw [← Lib.size_eq] at l2
  have HS := Lib.hid fun W : World => zzSplit_any s 44 W (by omega)
  generalize splitL 44 s.data.toList = ps at *
  obtain ⟨N, hN⟩ : ∃ N, N = ps.length := ⟨_, rfl⟩
  have HN := Lib.hid hN
  have HM := Lib.hid hlen
  have hN1 : 1 ≤ N := by omega
  have hN2 : N ≤ 100001 := by omega
  clear hN hlen hat l1 l2
  have hmk := fun W : World => run_make_row' (P := Tryz.prog) 22 3 (.int .i64 0) 8 Tryz.underlying22 info3 rfl .i64 .i64 N (by omega) (by omega) W
  go_enter Tryz.func147, Tryz.ntmps147
  go_wp2_with fail
  refine (HS.out _).mono ?_; rintro e w1 ⟨g, cap, rfl, hcap, hst, hg1, hg2, hb⟩
  rw [← HN.out] at hcap ⊢
  have HT := Lib.hid hst
  clear hst
  go_wp2_with fail
  have hrow := World.rowIs_made w1 (.int .i64 0) N 3
  have hb2 : Below w.heap.size w (w1.alloc (.cells (madeCells #[.int .i64 0] N) 3)) := hb.alloc hb.size _
  have hg3 : g < (w1.alloc (.cells (madeCells #[.int .i64 0] N) 3)).heap.size := by simp; omega
  have HT2 : StrsAt (w1.alloc (.cells (madeCells #[.int .i64 0] N) 3)) g ps := HT.out.keep fun j => World.cell?_alloc_lt _ _ _ hg2
  have hgG : g ≠ w1.heap.size := by omega
  have hgG' : w1.heap.size ≠ g := by omega
  have hwG : w.heap.size ≤ w1.heap.size := hb.size
  generalize w1.heap.size = G at *
  have HT3 := Lib.hid HT2
  clear HT2 HT hb hg2
  go_loopw [6, 7, 8, 16] (fun u _ _ v wr => ∃ k : Nat, k ≤ N ∧ v = .int .i64 k ∧ u = .nilIface ∧ StrsAt wr g ps ∧ wr.rowIs G 3 N (fun j => .int .i64 (if j < k then ns[j]?.getD 0 else 0)) ∧ Below w.heap.size w wr ∧ g < wr.heap.size) (fun _ _ _ v _ => N - (intOf v).toNat)
  case atStart => exact ⟨0, Nat.zero_le _, rfl, rfl, HT3.out, by simpa using hrow, hb2, hg3⟩
  case round =>
    clear hrow hb2 HT3 hg3
    obtain ⟨k, hk, rfl, rfl, hst, hr, hb, hg3⟩ := hrel
    have HR := Lib.hid hr
    have HT := Lib.hid hst
    clear hr hst
    by_cases hkN : k < N
    · have hkp : k < ps.length := by have := HN.out; omega
      have hkn : k < ns.length := by have := HM.out; omega
      have hc := HT.out k ps[k] (List.getElem?_eq_getElem hkp)
      obtain ⟨p1, p2⟩ := HA.out k ps[k] ns[k] (List.getElem?_eq_getElem hkp) (List.getElem?_eq_getElem hkn)
      have HP := Lib.hid fun W : World => atoi_any ⟨ps[k].toArray⟩ ns[k] (by simpa [ByteArray.size] using p1) (by simpa using p2) W
      have HNK := Lib.hid (List.getElem?_eq_getElem hkn)
      generalize ps[k] = pk at *
      generalize ns[k] = nk at *
      clear p1 p2 hkp hkn
      go_wp2_with fail
      refine (HP.out _).mono ?_; rintro e w2 ⟨rfl, hb3⟩
      have hr2 := below_row HR.out hb3 HR.out.lt
      have hf := hr2.frozen k
      have hc2 := hr2.cell hkN
      clear hc
      go_wp2_with fail
      go_roundw
      case rel =>
        refine ⟨k + 1, by omega, by go_num, rfl, ?_, ?_, ?_, ?_⟩
        · exact (HT.out.below hb3 hg3).keep fun j => World.cell?_setCell_other _ _ _ _ (by simp)
        · refine (hr2.set k (.int .i64 nk)).congr fun j hj => ?_
          have hnk := HNK.out
          by_cases hjk : j = k
          · subst hjk; simp [hnk]
          · rw [if_neg hjk]
            by_cases hlt : j < k
            · rw [if_pos hlt, if_pos (by omega)]
            · rw [if_neg hlt, if_neg (by omega)]
        · exact (hb.trans (hb3.mono hb.size)).setCell hwG _
        · have := hb3.size
          simp only [World.size_setCell]
          omega
      case measure => simp [intOf]; omega
    · have hkN' : k = N := by omega
      subst hkN'
      clear hkN
      go_wp2_with fail
      go_ret2
      have hM := HM.out
      have hN := HN.out
      refine ⟨G, ?_, ?_, hwG, HR.out.lt, hb⟩
      · rw [← hM, ← hN]; rfl
      · intro j x hx
        have hj : j < k := by rw [hN, hM]; exact (List.getElem?_eq_some_iff.1 hx).1
        rw [HR.out.cell hj, if_pos hj, hx]
        rfl
end Go.Proofs.YtnlpjncljbaapaaGreatDoor

/- Days of the week with commas between them, read. -/
namespace Go.Proofs.YtnlpjncljbaapaaGreatDoor
open Go.RowKit

/-- A piece that tells a day of the week with its number. -/
def isDay (p : List UInt8) (k n : Int) : Prop :=
  (p.length = 2 ∧ n = 0 ∧ lookL ⟨p.toArray⟩ wkKV = some (.agg #[.int .i64 k, .int .i64 0])) ∨
  ∃ m, p.length = m + 2 ∧ 1 ≤ m ∧ m ≤ 18 ∧ Lib.atoi (p.take m) = some n ∧ lookL ⟨(p.drop m).toArray⟩ wkKV = some (.agg #[.int .i64 k, .int .i64 0])
theorem strToWeekday_any (p : List UInt8) (k n : Int) (w : World) (hG : Glob w) (h : isDay p k n) : Calls Tryz.prog 146 #[.string ⟨p.toArray⟩] w fun e w' => GivesDay k n w e w' := by
  rcases h with ⟨h1, rfl, h2⟩ | ⟨m, h1, h2, h3, h4, h5⟩
  · exact strToWeekday_bare _ k w hG (by rw [Lib.size_eq]; exact h1) h2
  · refine strToWeekday_num ⟨p.toArray⟩ ⟨(p.take m).toArray⟩ ⟨(p.drop m).toArray⟩ m k n w hG (by rw [Lib.size_eq]; exact h1) h2 h3 ?_ ?_ ?_ h4 h5
    · rw [Lib.extract_upto]
    · have e : m + 2 = (⟨p.toArray⟩ : ByteArray).size := by rw [Lib.size_eq]; exact h1.symm
      rw [e, Lib.extract_from]
    · rw [Lib.size_eq]; simp; omega
def areDays (ps : List (List UInt8)) (ns : List (Int × Int)) : Prop := ps.length = ns.length ∧ ∀ (i : Nat) (p : List UInt8) (k n : Int), ps[i]? = some p → ns[i]? = some (k, n) → isDay p k n
/-- Days in a row of memory. -/
def DaysAt (w : World) (g : Nat) (xs : List (Int × Int)) : Prop := ∀ j k n, xs[j]? = some (k, n) → w.cell? ⟨g, j * 2, none⟩ = some (.int .i64 k) ∧ w.cell? ⟨g, j * 2 + 1, none⟩ = some (.int .i64 n)
def GivesDays (xs : List (Int × Int)) (w : World) (e : Ending) (w' : World) : Prop :=
  ∃ g, e = .returned (.tuple #[.slice (some ⟨g, 0, none⟩) xs.length xs.length, .nilIface]) ∧ DaysAt w' g xs ∧ w.heap.size ≤ g ∧ g < w'.heap.size ∧ Below w.heap.size w w'
/-- The cells of a row of days of which the first k have been laid. -/
def dayCell (ns : List (Int × Int)) (k j : Nat) : Int := if j / 2 < k then (if j % 2 = 0 then (ns[j / 2]?.getD (0, 0)).1 else (ns[j / 2]?.getD (0, 0)).2) else 0
theorem info119 : (Tryz.prog.info? 119).map (fun i => (i.zero, i.size, i.bytes)) = some (some (.agg #[.int .i64 0, .int .i64 0]), 2, 16) := by kernel_rfl
theorem run_make_rowN {P : Program} (t e : TypeId) (i : TypeInfo) (z : Value) (ht : P.underlying t = some (.slice e)) (hi : P.info? e = some i) (hz : i.zero = some z)
    (kl kc : IntKind) (n c : Nat) (hnc : n ≤ c) (hbytes : i.bytes * c ≤ 281474976710656) (h63 : c ≤ 9223372036854775807) (w : World) :
    (Instr.makeSlice t (.int kl (n : Int)) (.int kc (c : Int))).run P w = .ok (.slice (some ⟨w.heap.size, 0, none⟩) n c) (w.alloc (.cells (madeCells z.cells (c * i.size)) e)) := by
  have hb : (i.bytes : Int) * (c : Int) ≤ 281474976710656 := by
    have h : ((i.bytes * c : Nat) : Int) ≤ 281474976710656 := by omega
    rwa [Int.natCast_mul] at h
  have hr := run_make (P := P) w t e i z ht hi hz kl kc n c (by omega) (by omega) hb (by omega)
  simp only [Int.toNat_natCast] at hr
  exact hr
theorem rowIs_made2 (w : World) (n : Nat) (t : TypeId) : (w.alloc (.cells (madeCells (Value.agg #[.int .i64 0, .int .i64 0]).cells (n * 2)) t)).rowIs w.heap.size t (n * 2) (fun _ => .int .i64 0) := by
  have h := World.rowIs_alloc w (madeCells (Value.agg #[.int .i64 0, .int .i64 0]).cells (n * 2)) t (fun _ => .int .i64 0) (fun i hi => by
    rw [size_madeCells] at hi
    simp only [madeCells, Value.cells]
    rw [Array.getElem?_map]
    simp [hi]
    have : i % 2 = 0 ∨ i % 2 = 1 := by omega
    rcases this with h | h <;> rw [h] <;> rfl)
  rwa [size_madeCells] at h

set_option maxRecDepth 100000 in
set_option maxHeartbeats 1000000 in
theorem strToWeekdays_ok (s : ByteArray) (ns : List (Int × Int)) (w : World) (hG : Glob w) (hs : s.size ≤ 100000) (ha : areDays (splitL 44 s.data.toList) ns) :
    Calls Tryz.prog 148 #[.string s] w fun e w' => GivesDays ns w e w' := by
  have HGl := Lib.hid hG
  clear hG
  obtain ⟨hlen, hat⟩ := ha
  have HA := Lib.hid hat
  obtain ⟨l1, l2⟩ := splitL_len 44 s.data.toList
  rw [← Lib.size_eq] at l2
  have HS := Lib.hid fun W : World => zzSplit_any s 44 W (by omega)
  generalize splitL 44 s.data.toList = ps at *
  obtain ⟨N, hN⟩ : ∃ N, N = ps.length := ⟨_, rfl⟩
  have HN := Lib.hid hN
  have HM := Lib.hid hlen
  have hN1 : 1 ≤ N := by omega
  have hN2 : N ≤ 100001 := by omega
  clear hN hlen hat l1 l2
  obtain ⟨i0, hi, hz0, hz1, hz2⟩ := info_parts info119
  have hmk := fun W : World => run_make_rowN (P := Tryz.prog) 120 119 i0 (.agg #[.int .i64 0, .int .i64 0]) Tryz.underlying120 hi hz0 .i64 .i64 N N (Nat.le_refl _) (by rw [hz2]; omega) (by omega) W
  rw [hz1] at hmk
  clear hi hz0 hz1 hz2
  go_enter Tryz.func148, Tryz.ntmps148
  go_wp2_with fail
  refine (HS.out _).mono ?_; rintro e w1 ⟨g, cap, rfl, hcap, hst, hg1, hg2, hb⟩
  rw [← HN.out] at hcap ⊢
  have HT := Lib.hid hst
  clear hst
  go_wp2_with fail
  have hrow := rowIs_made2 w1 N 119
  have hb2 : Below w.heap.size w (w1.alloc (.cells (madeCells (Value.agg #[.int .i64 0, .int .i64 0]).cells (N * 2)) 119)) := hb.alloc hb.size _
  have hg3 : g < (w1.alloc (.cells (madeCells (Value.agg #[.int .i64 0, .int .i64 0]).cells (N * 2)) 119)).heap.size := by simp; omega
  have HT2 : StrsAt (w1.alloc (.cells (madeCells (Value.agg #[.int .i64 0, .int .i64 0]).cells (N * 2)) 119)) g ps := HT.out.keep fun j => World.cell?_alloc_lt _ _ _ hg2
  have hgG : g ≠ w1.heap.size := by omega
  have hgG' : w1.heap.size ≠ g := by omega
  have hwG : w.heap.size ≤ w1.heap.size := hb.size
  generalize w1.heap.size = G at *
  have HT3 := Lib.hid HT2
  clear HT2 HT hb hg2
  go_loopw [6, 7, 8, 16] (fun u _ _ v wr => ∃ k : Nat, k ≤ N ∧ v = .int .i64 k ∧ u = .nilIface ∧ StrsAt wr g ps ∧ wr.rowIs G 119 (N * 2) (fun j => .int .i64 (dayCell ns k j)) ∧ Below w.heap.size w wr ∧ g < wr.heap.size) (fun _ _ _ v _ => N - (intOf v).toNat)
  case atStart => exact ⟨0, Nat.zero_le _, rfl, rfl, HT3.out, hrow.congr fun j _ => by simp [dayCell], hb2, hg3⟩
  case round =>
    clear hrow hb2 HT3 hg3
    obtain ⟨k, hk, rfl, rfl, hst, hr, hb, hg3⟩ := hrel
    have HR := Lib.hid hr
    have HT := Lib.hid hst
    clear hr hst
    by_cases hkN : k < N
    · have hkp : k < ps.length := by have := HN.out; omega
      have hkn : k < ns.length := by have := HM.out; omega
      have hc := HT.out k ps[k] (List.getElem?_eq_getElem hkp)
      have hp := HA.out k ps[k] ns[k].1 ns[k].2 (List.getElem?_eq_getElem hkp) (List.getElem?_eq_getElem hkn)
      have HP := Lib.hid fun (W : World) (hG : Glob W) => strToWeekday_any ps[k] ns[k].1 ns[k].2 W hG hp
      have HNK := Lib.hid (List.getElem?_eq_getElem hkn)
      generalize ps[k] = pk at *
      generalize ns[k] = nk at *
      clear hp hkp hkn
      go_wp2_with fail
      refine (HP.out _ (HGl.out.on hb)).mono ?_; rintro e w2 ⟨rfl, hb3⟩
      have hr2 := below_row HR.out hb3 HR.out.lt
      have hf := hr2.frozen (k * 2)
      have hf' := hr2.frozen (k * 2 + 1)
      have hc2 := hr2.cell (i := k * 2) (by omega)
      have hc3 := hr2.cell (i := k * 2 + 1) (by omega)
      clear hc
      go_wp2_with fail
      go_roundw
      case rel =>
        refine ⟨k + 1, by omega, by go_num, rfl, ?_, ?_, ?_, ?_⟩
        · exact (HT.out.below hb3 hg3).keep fun j => by rw [World.cell?_setCell_other _ _ _ _ (by simp), World.cell?_setCell_other _ _ _ _ (by simp)]
        · refine ((hr2.set (k * 2) (.int .i64 nk.1)).set (k * 2 + 1) (.int .i64 nk.2)).congr fun j hj => ?_
          have hnk := HNK.out
          by_cases h1 : j = k * 2 + 1
          · subst h1
            have e1 : (k * 2 + 1) / 2 = k := by omega
            have e2 : (k * 2 + 1) % 2 = 1 := by omega
            simp [dayCell, e1, e2, hnk]
          · by_cases h2 : j = k * 2
            · subst h2
              simp [dayCell, hnk]
            · rw [if_neg h1, if_neg h2]
              unfold dayCell
              by_cases hlt : j / 2 < k
              · have h9 : j / 2 < k + 1 := by omega
                simp [hlt, h9]
              · have h9 : ¬ j / 2 < k + 1 := by omega
                simp [hlt, h9]
        · exact ((hb.trans (hb3.mono hb.size)).setCell hwG _).setCell hwG _
        · have := hb3.size
          simp only [World.size_setCell]
          omega
      case measure => simp [intOf]; omega
    · have hkN' : k = N := by omega
      subst hkN'
      clear hkN
      go_wp2_with fail
      go_ret2
      have hM := HM.out
      have hN := HN.out
      refine ⟨G, ?_, ?_, hwG, HR.out.lt, hb⟩
      · rw [← hM, ← hN]; rfl
      · intro j x n hx
        have hj : j < k := by rw [hN, hM]; exact (List.getElem?_eq_some_iff.1 hx).1
        have e1 : (j * 2 + 1) / 2 = j := by omega
        have e2 : (j * 2 + 1) % 2 = 1 := by omega
        refine ⟨?_, ?_⟩
        · rw [HR.out.cell (by omega)]
          simp [dayCell, hj, hx]
        · rw [HR.out.cell (by omega)]
          simp [dayCell, hj, hx, e1, e2]
end Go.Proofs.YtnlpjncljbaapaaGreatDoor
