/- Frequencies and days of the week, read; the variables that the package and the library look into. -/
import Derived.Test.YtnlpjncljbaapaaGreatDoorMp
import Derived.Lib.SmallJoins
import Derived.Lib.AppendIntMem
namespace Go.Proofs.YtnlpjncljbaapaaGreatDoor
open Go.RowKit

/-- What the listed variables hold. -/
structure Glob (w : World) : Prop where
  size : 18 ≤ w.heap.size
  pow : Lib.TabIs Tryz.prog w "internal/strconv.uint64pow10" .u64 Lib.pow10Tab
  spc : Lib.TabIs Tryz.prog w "strings.asciiSpace" .u8 Lib.asciiSpaceTab
  day : ∀ (g : Nat) (k : Int), (g, k) ∈ [(1, (0 : Int)), (3, 1), (4, 2), (5, 3), (6, 4), (7, 5), (8, 6)] → w.cell? ⟨g, 0, none⟩ = some (.int .i64 k) ∧ w.cell? ⟨g, 1, none⟩ = some (.int .i64 0)
theorem gPow : Tryz.prog.globalNamed "internal/strconv.uint64pow10" = some 9 := by kernel_rfl
theorem gSpc : Tryz.prog.globalNamed "strings.asciiSpace" = some 0 := by kernel_rfl
theorem Glob.on {w w' : World} (h : Glob w) (hb : Below w.heap.size w w') : Glob w' where
  size := Nat.le_trans h.size hb.size
  pow := Joins.tab_stays gPow h.pow hb (Nat.le_refl _)
  spc := Joins.tab_stays gSpc h.spc hb (Nat.le_refl _)
  day := fun g k hg => by
    have hs := h.size
    have hg8 : g < 18 := by
      simp only [List.mem_cons, Prod.mk.injEq, List.not_mem_nil, or_false] at hg
      omega
    obtain ⟨h1, h2⟩ := h.day g k hg
    exact ⟨(hb.cell (p := ⟨g, 0, none⟩) (by show g < w.heap.size; omega)).trans h1, (hb.cell (p := ⟨g, 1, none⟩) (by show g < w.heap.size; omega)).trans h2⟩

/-- The frequencies as the program's map has them. -/
def freqKV : List (ByteArray × Value) := [(⟨#[89, 69, 65, 82, 76, 89]⟩, .int .i64 0), (⟨#[77, 79, 78, 84, 72, 76, 89]⟩, .int .i64 1), (⟨#[87, 69, 69, 75, 76, 89]⟩, .int .i64 2), (⟨#[68, 65, 73, 76, 89]⟩, .int .i64 3), (⟨#[72, 79, 85, 82, 76, 89]⟩, .int .i64 4), (⟨#[77, 73, 78, 85, 84, 69, 76, 89]⟩, .int .i64 5), (⟨#[83, 69, 67, 79, 78, 68, 76, 89]⟩, .int .i64 6)]
theorem zero117 (w : World) : (zeroValue 117).run Tryz.prog w = .ok (.int .i64 0) w := by kernel_rfl
theorem zero119 (w : World) : (zeroValue 119).run Tryz.prog w = .ok (.agg #[.int .i64 0, .int .i64 0]) w := by kernel_rfl
set_option maxRecDepth 100000 in
set_option maxHeartbeats 1000000 in
theorem strToFreq_ok (s : ByteArray) (f : Int) (w : World) (hf : lookL s freqKV = some (.int .i64 f)) :
    Calls Tryz.prog 143 #[.string s] w fun e w' => e = .returned (.tuple #[.int .i64 f, .nilIface]) ∧ Below w.heap.size w w' := by
  have hmm := @run_makeMap Tryz.prog
  have HF := Lib.hid hf
  clear hf
  have MA := Lib.hid (MapAt.new w)
  have HB := Lib.hid ((Below.refl w.heap.size w).alloc (Nat.le_refl _) (.map #[] 0))
  go_enter Tryz.func143, Tryz.ntmps143
  go_wp2_with (first | (refine wpl_insert rfl 251 9 117 _ _ _ rfl Tryz.underlying251 Tryz.underlying9 _ _ rfl MA.out _ _ rfl rfl rfl ?_; intro w' MA' hg; have HB' := Lib.hid (HB.out.grown hg HB.out.size (fun k hk => by cases hk; exact Nat.le_refl _)); clear MA HB hg; have MA := Lib.hid MA'; have HB := HB'; clear MA' HB') | (refine wpl_lookup rfl 251 9 117 _ _ rfl Tryz.underlying251 Tryz.underlying9 (.int .i64 0) zero117 _ _ rfl MA.out s rfl ?_; rw [show ([] ++ _ ++ _ ++ _ ++ _ ++ _ ++ _ ++ _ : List (ByteArray × Value)) = freqKV from rfl, HF.out]; simp only [Option.getD_some, Option.isSome_some]))
  go_ret2
  exact ⟨rfl, HB.out⟩

set_option maxRecDepth 100000 in
set_option maxHeartbeats 1000000 in
theorem strToFreq_no (s : ByteArray) (w : World) (hs : s.size ≤ 1000000) (hf : lookL s freqKV = none) :
    Calls Tryz.prog 143 #[.string s] w fun e w' => (∃ p, e = .returned (.tuple #[.int .i64 0, .iface 175 (.pointer (some p))])) ∧ Below w.heap.size w w' := by
  have hmm := @run_makeMap Tryz.prog
  have HF := Lib.hid hf
  clear hf
  have MA := Lib.hid (MapAt.new w)
  have HB := Lib.hid ((Below.refl w.heap.size w).alloc (Nat.le_refl _) (.map #[] 0))
  go_enter Tryz.func143, Tryz.ntmps143
  go_wp2_with (first | (refine wpl_insert rfl 251 9 117 _ _ _ rfl Tryz.underlying251 Tryz.underlying9 _ _ rfl MA.out _ _ rfl rfl rfl ?_; intro w' MA' hg; have HB' := Lib.hid (HB.out.grown hg HB.out.size (fun k hk => by cases hk; exact Nat.le_refl _)); clear MA HB hg; have MA := Lib.hid MA'; have HB := HB'; clear MA' HB') | (refine wpl_lookup rfl 251 9 117 _ _ rfl Tryz.underlying251 Tryz.underlying9 (.int .i64 0) zero117 _ _ rfl MA.out s rfl ?_; rw [show ([] ++ _ ++ _ ++ _ ++ _ ++ _ ++ _ ++ _ : List (ByteArray × Value)) = freqKV from rfl, HF.out]; simp only [Option.getD_none, Option.isSome_none]) | (go_at_call 67; refine (errNew_any _ _).mono ?_; rintro e w1 ⟨rfl, rfl⟩))
  go_ret2
  exact ⟨⟨_, rfl⟩, HB.out.alloc HB.out.size _⟩

theorem globCells {w : World} (h : Glob w) : w.cell? ⟨1, 0, none⟩ = some (.int .i64 0) ∧ w.cell? ⟨1, 1, none⟩ = some (.int .i64 0) ∧ w.cell? ⟨3, 0, none⟩ = some (.int .i64 1) ∧ w.cell? ⟨3, 1, none⟩ = some (.int .i64 0) ∧
    w.cell? ⟨4, 0, none⟩ = some (.int .i64 2) ∧ w.cell? ⟨4, 1, none⟩ = some (.int .i64 0) ∧ w.cell? ⟨5, 0, none⟩ = some (.int .i64 3) ∧ w.cell? ⟨5, 1, none⟩ = some (.int .i64 0) ∧ w.cell? ⟨6, 0, none⟩ = some (.int .i64 4) ∧ w.cell? ⟨6, 1, none⟩ = some (.int .i64 0) ∧
    w.cell? ⟨7, 0, none⟩ = some (.int .i64 5) ∧ w.cell? ⟨7, 1, none⟩ = some (.int .i64 0) ∧ w.cell? ⟨8, 0, none⟩ = some (.int .i64 6) ∧ w.cell? ⟨8, 1, none⟩ = some (.int .i64 0) :=
  ⟨(h.day 1 0 (by simp)).1, (h.day 1 0 (by simp)).2, (h.day 3 1 (by simp)).1, (h.day 3 1 (by simp)).2, (h.day 4 2 (by simp)).1, (h.day 4 2 (by simp)).2, (h.day 5 3 (by simp)).1, (h.day 5 3 (by simp)).2, (h.day 6 4 (by simp)).1, (h.day 6 4 (by simp)).2, (h.day 7 5 (by simp)).1, (h.day 7 5 (by simp)).2, (h.day 8 6 (by simp)).1, (h.day 8 6 (by simp)).2⟩
theorem frozen_alloc_lt {w : World} {o : Obj} {g i : Nat} (h : g < w.heap.size) : (w.alloc o).frozen? ⟨g, i, none⟩ = w.frozen? ⟨g, i, none⟩ := World.frozen?_of_block (w := w) (Below.heap_alloc w o g h)
theorem keep2 {w w' : World} {u v : Value} {t : TypeId} (hb : Below (w.heap.size + 1) (w.alloc (.cells #[u, v] t)) w') :
    w'.cell? ⟨w.heap.size, 0, none⟩ = some u ∧ w'.cell? ⟨w.heap.size, 1, none⟩ = some v ∧ w'.frozen? ⟨w.heap.size, 0, none⟩ = false ∧ w'.frozen? ⟨w.heap.size, 1, none⟩ = false ∧ w.heap.size < w'.heap.size := by
  refine ⟨?_, ?_, ?_, ?_, ?_⟩
  · rw [hb.cell (p := ⟨w.heap.size, 0, none⟩) (Nat.lt_succ_self _)]; simp
  · rw [hb.cell (p := ⟨w.heap.size, 1, none⟩) (Nat.lt_succ_self _)]; simp
  · rw [hb.frozen (p := ⟨w.heap.size, 0, none⟩) (Nat.lt_succ_self _)]; simp
  · rw [hb.frozen (p := ⟨w.heap.size, 1, none⟩) (Nat.lt_succ_self _)]; simp
  · have := hb.size; rw [World.size_alloc] at this; exact this
/-- The days of the week as the program's map has them. -/
def wkKV : List (ByteArray × Value) := [(⟨#[77, 79]⟩, .agg #[.int .i64 0, .int .i64 0]), (⟨#[84, 85]⟩, .agg #[.int .i64 1, .int .i64 0]), (⟨#[87, 69]⟩, .agg #[.int .i64 2, .int .i64 0]), (⟨#[84, 72]⟩, .agg #[.int .i64 3, .int .i64 0]), (⟨#[70, 82]⟩, .agg #[.int .i64 4, .int .i64 0]), (⟨#[83, 65]⟩, .agg #[.int .i64 5, .int .i64 0]), (⟨#[83, 85]⟩, .agg #[.int .i64 6, .int .i64 0])]
theorem ext_all (s : ByteArray) : s.extract 0 s.size = s := by
  rw [Lib.extract_upto, List.take_of_length_le (by rw [Lib.size_eq]; exact Nat.le_refl _)]
/-- A day and no error. -/
def GivesDay (k n : Int) (w : World) (e : Ending) (w' : World) : Prop := e = .returned (.tuple #[.agg #[.int .i64 k, .int .i64 n], .nilIface]) ∧ Below w.heap.size w w'
theorem atoi_any (s : ByteArray) (n : Int) (hl : s.size ≤ 18) (h : Lib.atoi s.data.toList = some n) (w : World) :
    Calls Tryz.prog 145 #[.string s] w fun e w' => e = .returned (.tuple #[.int .i64 n, .nilIface]) ∧ Below w.heap.size w w' :=
  (Tryz.strconv_Atoi s n hl h w).mono fun e w' ⟨he, t, hw⟩ => ⟨he, by rw [hw]; exact Lib.bytesWorld_below _ _ _⟩
set_option maxRecDepth 100000 in
set_option maxHeartbeats 4000000 in
theorem strToWeekday_bare (s : ByteArray) (k : Int) (w : World) (hG : Glob w) (hs : s.size = 2) (hf : lookL s wkKV = some (.agg #[.int .i64 k, .int .i64 0])) :
    Calls Tryz.prog 146 #[.string s] w fun e w' => GivesDay k 0 w e w' := by
  have hext : s.extract 0 2 = s := by rw [← hs]; exact ext_all s
  have hmm := @run_makeMap Tryz.prog
  have HF := Lib.hid hf
  have HG := Lib.hid hG
  clear hf
  have ma := MapAt.new (w.alloc (.cells #[.int .i64 0, .int .i64 0] 119))
  rw [World.size_alloc] at ma
  have MA := Lib.hid ma
  clear ma
  have HB := Lib.hid ((Below.refl (w.heap.size + 1) (w.alloc (.cells #[.int .i64 0, .int .i64 0] 119))).alloc (by simp) (.map #[] 0))
  obtain ⟨d0, d1, d2, d3, d4, d5, d6, d7, d8, d9, d10, d11, d12, d13⟩ := globCells (hG.on (below_a2 (w := w) (o := .cells #[.int .i64 0, .int .i64 0] 119) (p := .map #[] 0)))
  clear hG
  have hsz := HG.out.size
  go_enter Tryz.func146, Tryz.ntmps146
  go_wp2_with (first | (refine wpl_insert rfl 256 9 119 _ _ _ rfl Tryz.underlying256 Tryz.underlying9 _ _ rfl MA.out _ _ rfl rfl rfl ?_; intro w' MA' hg; have HB' := Lib.hid (HB.out.grown hg (by have := HB.out.size; rw [World.size_alloc] at this; exact this) (fun k hk => by cases hk; exact Nat.le_refl _)); clear MA HB hg d0 d1 d2 d3 d4 d5 d6 d7 d8 d9 d10 d11 d12 d13; have MA := Lib.hid MA'; have HB := HB'; clear MA' HB'; obtain ⟨d0, d1, d2, d3, d4, d5, d6, d7, d8, d9, d10, d11, d12, d13⟩ := globCells (HG.out.on (below_a1.trans (HB.out.mono (Nat.le_succ _))))) | (refine wpl_lookup rfl 256 9 119 _ _ rfl Tryz.underlying256 Tryz.underlying9 (.agg #[.int .i64 0, .int .i64 0]) zero119 _ _ rfl MA.out s rfl ?_; rw [show ([] ++ _ ++ _ ++ _ ++ _ ++ _ ++ _ ++ _ : List (ByteArray × Value)) = wkKV from rfl, HF.out]; simp only [Option.getD_some, Option.isSome_some]; obtain ⟨c0, c1, f0, f1, hz⟩ := keep2 HB.out))
  have hlt : w.heap.size < ((w'.setCell ⟨w.heap.size, 0, none⟩ (.int .i64 k)).setCell ⟨w.heap.size, 1, none⟩ (.int .i64 0)).heap.size := by simpa using hz
  have q0 := (World.cell?_alloc_lt _ (.cells #[.int .i64 k, .int .i64 0] 119) ⟨w.heap.size, 0, none⟩ hlt).trans (two_0 (.int .i64 k) (.int .i64 0) c0)
  have q1 := (World.cell?_alloc_lt _ (.cells #[.int .i64 k, .int .i64 0] 119) ⟨w.heap.size, 1, none⟩ hlt).trans (two_1 (.int .i64 k) (.int .i64 0) c1)
  refine bodyPost_ret (v := .tuple #[.agg #[.int .i64 k, .int .i64 0], .nilIface]) (by simp [results, Tryz.results146, go_sem, q0, q1]) rfl ⟨rfl, ?_⟩
  exact (((below_a1.trans (HB.out.mono (Nat.le_succ _))).setCell (Nat.le_refl _) _).setCell (Nat.le_refl _) _).alloc (by simp; omega) _
set_option maxRecDepth 100000 in
set_option maxHeartbeats 4000000 in
theorem strToWeekday_num (s t d : ByteArray) (m : Nat) (k n : Int) (w : World) (hG : Glob w) (hs : s.size = m + 2) (hm : 1 ≤ m) (hm2 : m ≤ 18) (ht : s.extract 0 m = t) (hd : s.extract m (m + 2) = d) (htm : t.size = m) (ha : Lib.atoi t.data.toList = some n) (hf : lookL d wkKV = some (.agg #[.int .i64 k, .int .i64 0])) :
    Calls Tryz.prog 146 #[.string s] w fun e w' => GivesDay k n w e w' := by
  have HA := Lib.hid (atoi_any t n (by omega) ha)
  clear ha
  have hmm := @run_makeMap Tryz.prog
  have HF := Lib.hid hf
  have HG := Lib.hid hG
  clear hf
  have ma := MapAt.new (w.alloc (.cells #[.int .i64 0, .int .i64 0] 119))
  rw [World.size_alloc] at ma
  have MA := Lib.hid ma
  clear ma
  have HB := Lib.hid ((Below.refl (w.heap.size + 1) (w.alloc (.cells #[.int .i64 0, .int .i64 0] 119))).alloc (by simp) (.map #[] 0))
  obtain ⟨d0, d1, d2, d3, d4, d5, d6, d7, d8, d9, d10, d11, d12, d13⟩ := globCells (hG.on (below_a2 (w := w) (o := .cells #[.int .i64 0, .int .i64 0] 119) (p := .map #[] 0)))
  clear hG
  have hsz := HG.out.size
  go_enter Tryz.func146, Tryz.ntmps146
  go_wp2_with (first | (refine wpl_insert rfl 256 9 119 _ _ _ rfl Tryz.underlying256 Tryz.underlying9 _ _ rfl MA.out _ _ rfl rfl rfl ?_; intro w' MA' hg; have HB' := Lib.hid (HB.out.grown hg (by have := HB.out.size; rw [World.size_alloc] at this; exact this) (fun k hk => by cases hk; exact Nat.le_refl _)); clear MA HB hg d0 d1 d2 d3 d4 d5 d6 d7 d8 d9 d10 d11 d12 d13; have MA := Lib.hid MA'; have HB := HB'; clear MA' HB'; obtain ⟨d0, d1, d2, d3, d4, d5, d6, d7, d8, d9, d10, d11, d12, d13⟩ := globCells (HG.out.on (below_a1.trans (HB.out.mono (Nat.le_succ _))))) | (refine wpl_lookup rfl 256 9 119 _ _ rfl Tryz.underlying256 Tryz.underlying9 (.agg #[.int .i64 0, .int .i64 0]) zero119 _ _ rfl MA.out d rfl ?_; rw [show ([] ++ _ ++ _ ++ _ ++ _ ++ _ ++ _ ++ _ : List (ByteArray × Value)) = wkKV from rfl, HF.out]; simp only [Option.getD_some, Option.isSome_some]; obtain ⟨c0, c1, f0, f1, hz⟩ := keep2 HB.out))
  refine (HA.out _).mono ?_; rintro e w2 ⟨rfl, hb⟩
  have hz2 := hb.size
  rw [World.size_alloc] at hz2
  have a0 : w2.cell? ⟨w.heap.size, 0, none⟩ = some (.int .i64 0) := by rw [hb.cell (p := ⟨w.heap.size, 0, none⟩) (by simp; omega), World.cell?_alloc_lt _ _ _ hz]; exact c0
  have a1 : w2.cell? ⟨w.heap.size, 1, none⟩ = some (.int .i64 0) := by rw [hb.cell (p := ⟨w.heap.size, 1, none⟩) (by simp; omega), World.cell?_alloc_lt _ _ _ hz]; exact c1
  have a2 : w2.frozen? ⟨w.heap.size, 0, none⟩ = false := by rw [hb.frozen (p := ⟨w.heap.size, 0, none⟩) (by simp; omega), frozen_alloc_lt hz]; exact f0
  have a3 : w2.frozen? ⟨w.heap.size, 1, none⟩ = false := by rw [hb.frozen (p := ⟨w.heap.size, 1, none⟩) (by simp; omega), frozen_alloc_lt hz]; exact f1
  have b0 : w2.cell? ⟨w'.heap.size, 0, none⟩ = some (.int .i64 k) := by rw [hb.cell (p := ⟨w'.heap.size, 0, none⟩) (by simp)]; simp
  have b1 : w2.cell? ⟨w'.heap.size, 1, none⟩ = some (.int .i64 0) := by rw [hb.cell (p := ⟨w'.heap.size, 1, none⟩) (by simp)]; simp
  have b2 : w2.frozen? ⟨w'.heap.size, 1, none⟩ = false := by rw [hb.frozen (p := ⟨w'.heap.size, 1, none⟩) (by simp)]; simp
  have hne : w.heap.size ≠ w'.heap.size := by omega
  have hne' : w'.heap.size ≠ w.heap.size := by omega
  have HB2 : Below w.heap.size w w2 := ((below_a1.trans (HB.out.mono (Nat.le_succ _))).alloc (by omega) _).trans (hb.mono (by simp; omega))
  clear c0 c1 f0 f1 d0 d1 d2 d3 d4 d5 d6 d7 d8 d9 d10 d11 d12 d13
  go_wp2_with fail
  have e0 : (w2.setCell ⟨w'.heap.size, 1, none⟩ (.int .i64 n)).cell? ⟨w.heap.size, 0, none⟩ = some (.int .i64 0) := by rw [World.cell?_setCell_other _ _ _ _ (by simp)]; exact a0
  have e1 : (w2.setCell ⟨w'.heap.size, 1, none⟩ (.int .i64 n)).cell? ⟨w.heap.size, 1, none⟩ = some (.int .i64 0) := by rw [World.cell?_setCell_other _ _ _ _ (by simp)]; exact a1
  have q0 := two_0 (.int .i64 k) (.int .i64 n) e0
  have q1 := two_1 (.int .i64 k) (.int .i64 n) e1
  refine bodyPost_ret (v := .tuple #[.agg #[.int .i64 k, .int .i64 n], .nilIface]) (by simp [results, Tryz.results146, go_sem, q0, q1]) rfl ⟨rfl, ?_⟩
  exact ((HB2.setCell (Nat.le_of_lt hz) _).setCell (Nat.le_refl _) _).setCell (Nat.le_refl _) _
end Go.Proofs.YtnlpjncljbaapaaGreatDoor
