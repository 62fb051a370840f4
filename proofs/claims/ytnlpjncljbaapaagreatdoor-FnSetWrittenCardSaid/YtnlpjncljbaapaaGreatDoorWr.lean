/- A set of the package's made from its own rule and dates: RRule, SetRDates, SetExDates. -/
import Derived.Test.YtnlpjncljbaapaaGreatDoorWn
import Derived.Test.YtnlpjncljbaapaaGreatDoorLs
namespace Go.Proofs.YtnlpjncljbaapaaGreatDoor
open Go.RowKit

set_option maxRecDepth 100000 in
set_option maxHeartbeats 4000000 in
theorem sRule_st {w : World} {S G : Nat} {fr st iv wk wn ct un u2 : Int} {rp rd ex : Value} {p : Nat → Option Addr} {n c : Nat → Nat} (hS : w.rowIs S 132 5 (setF st rp rd ex)) (hR : RuleAt w G (optF fr st 0 iv wk wn ct un u2 p n c) (startOf st)) (hst : st ≠ 0) (hne : S ≠ G) :
    Calls Tryz.prog 73 #[.pointer (some ⟨S, 0, none⟩), .pointer (some ⟨G, 0, none⟩)] w fun e w' => SetRuled S G st (optF fr st 0 iv wk wn ct un u2 p n c) rd ex w e w' := by
  have hRR := hR
  obtain ⟨f, hf, hf1, hf2, hf3, _⟩ := hR
  have es : startOf st = st := by unfold startOf; rw [if_neg hst]
  have x1 : w.cell? ⟨G, 1, none⟩ = some (.int .i64 st) := (hf.cell (i := 1) (by decide)).trans (congrArg some (hf1 1 (by decide)))
  have x2 : w.cell? ⟨G, 2, none⟩ = some (.int .i64 0) := (hf.cell (i := 2) (by decide)).trans (congrArg some (hf1 2 (by decide)))
  have x39 : w.cell? ⟨G, 39, none⟩ = some (.int .i64 st) := (hf.cell (i := 39) (by decide)).trans (by rw [hf2, es])
  have x40 : w.cell? ⟨G, 40, none⟩ = some (.int .i64 0) := (hf.cell (i := 40) (by decide)).trans (by rw [hf3])
  have HST := Lib.hid hst
  have HN := Lib.hid hne
  have HS := Lib.hid hS
  have HR := Lib.hid hRR
  clear hRR hf hf1 hf2 hf3 hst hne hS es
  go_enter Tryz.func73, Tryz.ntmps73
  go_wp2_with fail
  refine (isZero_no st _ HST.out).mono ?_; rintro e w1 ⟨rfl, hb⟩
  have HB1 := Lib.hid hb
  have HS1 := Lib.hid (below_row HS.out hb HS.out.lt)
  have HR1 := Lib.hid (HR.out.of_block (hb.block G HR.out.lt))
  have r39 : w1.cell? ⟨G, 39, none⟩ = some (.int .i64 st) := (hb.cell (p := ⟨G, 39, none⟩) HR.out.lt).trans x39
  have r40 : w1.cell? ⟨G, 40, none⟩ = some (.int .i64 0) := (hb.cell (p := ⟨G, 40, none⟩) HR.out.lt).trans x40
  have y0 : w1.cell? ⟨S, 0, none⟩ = some (.int .i64 st) := HS1.out.cell (i := 0) (by decide)
  have y1 : w1.cell? ⟨S, 1, none⟩ = some (.int .i64 0) := HS1.out.cell (i := 1) (by decide)
  have f0 := HS1.out.frozen 0
  have f1 := HS1.out.frozen 1
  clear hb x1 x2 x39 x40
  have y2 : w1.cell? ⟨S, 2, none⟩ = some rp := HS1.out.cell (i := 2) (by decide)
  have f2 := HS1.out.frozen 2
  go_wp2_with fail
  go_end0
  refine ⟨rfl, World.rowIs.congr (((HS1.out.set 0 _).set 1 _).set 2 _) fun k hk => ?_, ((HR1.out.of_block (Below.heap_setCell _ _ _ _ (Ne.symm HN.out))).of_block (Below.heap_setCell _ _ _ _ (Ne.symm HN.out))).of_block (Below.heap_setCell _ _ _ _ (Ne.symm HN.out)), ?_⟩
  · have h5 : k = 0 ∨ k = 1 ∨ k = 2 ∨ k = 3 ∨ k = 4 := by omega
    rcases h5 with h | h | h | h | h <;> subst h <;> rfl
  · exact (((Ch.of_below (X := fun i => i = S ∨ i = G) HB1.out (Nat.le_refl _)).trans (.set (.inl rfl))).trans (.set (.inl rfl))).trans (.set (.inl rfl))
/-- A row of dates put into a set. -/
theorem Ch.grow {X : Nat → Prop} {w w1 w2 : World} {row : Option Nat} (h : Ch X w w1) (hg : w1.grownBy w2 row) (hr : ∀ g, row = some g → w.heap.size ≤ g) : Ch X w w2 :=
  ⟨hg.os.trans h.os, hg.tape.trans h.tape, hg.output.trans h.output, Nat.le_trans h.size hg.size, fun i hi hx => (hg.block i (Nat.lt_of_lt_of_le hi h.size) (fun e => by have := hr i e.symm; omega)).trans (h.block i hi hx)⟩
def SetPut (S : Nat) (st : Int) (rp other : Value) (ks : Bool) (ts : List Int) (w : World) (e : Ending) (w' : World) : Prop :=
  ∃ u, e = .returned (.tuple #[]) ∧ w'.rowIs S 132 5 (bif ks then setF st rp u other else setF st rp other u) ∧ w'.ownsRow w.heap.size 109 2 u ts.length (timeVs ts) ∧ Ch (fun i => i = S) w w'
set_option maxRecDepth 100000 in
set_option maxHeartbeats 4000000 in
theorem setRDates_any {w : World} {S Bq n : Nat} {st : Int} {rp rd ex q : Value} {ts : List Int} (hS : w.rowIs S 132 5 (setF st rp rd ex)) (hq : w.ownsRow Bq 109 2 q n (timeVs ts)) (hlen : ts.length = n) (hqS : q.ownBlock ≠ some S) (hn : n ≤ 1000) :
    Calls Tryz.prog 74 #[.pointer (some ⟨S, 0, none⟩), q] w fun e w' => SetPut S st rp ex true ts w e w' := by
  obtain ⟨p, c, rfl, hp⟩ := own_slice hq
  obtain ⟨i0, hi0, hzz⟩ := Option.map_eq_some_iff.1 info109
  simp only [Prod.mk.injEq] at hzz
  obtain ⟨hz0, hz1, hz2⟩ := hzz
  have HI := Lib.hid (And.intro hi0 (And.intro hz0 (And.intro hz1 hz2)))
  have hSl := hS.lt
  have HM := Lib.hid fun W => mk_times n hn W
  have hmk := HM.out w
  have y3 : (w.alloc (.cells (madeCells #[.int .i64 0, .int .i64 0] (n * 2)) 109)).cell? ⟨S, 3, none⟩ = some rd := (hS.alloc _).cell (i := 3) (by decide)
  have z3 := (hS.alloc (.cells (madeCells #[.int .i64 0, .int .i64 0] (n * 2)) 109)).frozen 3
  have HS0 := Lib.hid (show (((w.alloc (.cells (madeCells #[.int .i64 0, .int .i64 0] (n * 2)) 109)).setCell ⟨S, 3, none⟩ (.slice (some ⟨w.heap.size, 0, none⟩) 0 n))).rowIs S 132 5 (setF st rp (.slice (some ⟨w.heap.size, 0, none⟩) 0 n) ex) from World.rowIs.congr ((hS.alloc _).set 3 _) fun k _ => congrFun (setF_upd3 st rp _ _ ex) k)
  have HO0 := Lib.hid (own_set (C := S) (k := 3) (u := .slice (some ⟨w.heap.size, 0, none⟩) 0 n) (World.ownsRow_made w (base := w.heap.size) (e := 109) (size := 2) (madeCells #[.int .i64 0, .int .i64 0] (n * 2)) n (Nat.le_refl _) (by unfold maxLen; omega) (size_madeCells _ _)) hSl)
  have HC0 := Lib.hid (show Ch (fun i => i = S) w ((w.alloc (.cells (madeCells #[.int .i64 0, .int .i64 0] (n * 2)) 109)).setCell ⟨S, 3, none⟩ (.slice (some ⟨w.heap.size, 0, none⟩) 0 n)) from (Ch.alloc _).trans (.set rfl))
  have HQ := Lib.hid hq
  have HP := Lib.hid hp
  have HL := Lib.hid hlen
  have HQS := Lib.hid hqS
  clear hi0 hz0 hz1 hz2 hS hq hp hlen hqS
  go_enter Tryz.func74, Tryz.ntmps74
  go_wp2_with fail
  rw [← World.setCell_alloc_past _ _ _ _ hSl]
  generalize ((w.alloc (.cells (madeCells #[.int .i64 0, .int .i64 0] (n * 2)) 109)).setCell ⟨S, 3, none⟩ (.slice (some ⟨w.heap.size, 0, none⟩) 0 n)) = w0 at *
  clear hmk y3 z3
  go_loopw [5, 14] (fun _ v wr => ∃ k : Nat, k ≤ n ∧ v = .int .i64 k ∧ Hid (∃ u, wr.rowIs S 132 5 (setF st rp u ex) ∧ wr.ownsRow w.heap.size 109 2 u k (timeVs (ts.take k))) ∧ Hid (Ch (fun i => i = S) w wr)) (fun _ v _ => n - (intOf v).toNat)
  case atStart => exact ⟨0, Nat.zero_le _, rfl, Lib.hid ⟨_, HS0.out, HO0.out⟩, HC0⟩
  case round =>
    obtain ⟨k, hk, rfl, HH, HC⟩ := hrel
    obtain ⟨u, hSr, hOr⟩ := HH.out
    have HS := Lib.hid hSr
    have HO := Lib.hid hOr
    clear HS0 HO0 HC0 hSr hOr
    by_cases hkn : k < n
    · obtain ⟨g, rfl, hgB, hgl⟩ : ∃ g, p = some ⟨g, 0, none⟩ ∧ Bq ≤ g ∧ g < w.heap.size := by
        rcases HP.out with h | h
        · omega
        · exact h
      have hgS : g ≠ S := fun e => HQS.out (by rw [e]; rfl)
      obtain ⟨x, hx⟩ : ∃ x, ts[k]? = some x := ⟨_, List.getElem?_eq_getElem (by have := HL.out; omega)⟩
      have hat := timeVs_at ts k x hx
      have d0 : wr.cell? ⟨g, k * 2, none⟩ = some (.int .i64 x) := (HC.out.cell hgl hgS).trans (by have := HQ.out.cells (g := g) rfl (k * 2) _ hat.1; rwa [add_plain] at this)
      have d1 : wr.cell? ⟨g, k * 2 + 1, none⟩ = some (.int .i64 0) := (HC.out.cell hgl hgS).trans (by have := HQ.out.cells (g := g) rfl (k * 2 + 1) _ hat.2; rwa [add_plain] at this)
      have HTK := Lib.hid (show ts.take (k + 1) = ts.take k ++ [x] by rw [List.take_add_one, hx]; rfl)
      have hgr : g < wr.heap.size := Nat.lt_of_lt_of_le hgl HC.out.size
      have hwr := HC.out.size
      have hki : (0 : Int) ≤ ((k : Nat) : Int) := by omega
      have hkni : ((k : Nat) : Int) < ((n : Nat) : Int) := by omega
      have HGS := Lib.hid hgS
      clear hat hx hgS
      have HS1 := Lib.hid (HS.out.alloc (.cells #[.int .i64 x, .int .i64 0] 109))
      have HO1 := Lib.hid (HO.out.alloc (.cells #[.int .i64 x, .int .i64 0] 109))
      have HC1 := Lib.hid (HC.out.trans (Ch.alloc (X := fun i => i = S) (w := wr) (.cells #[.int .i64 x, .int .i64 0] 109)))
      have x3 : (wr.alloc (.cells #[.int .i64 x, .int .i64 0] 109)).cell? ⟨S, 3, none⟩ = some u := HS1.out.cell (i := 3) (by decide)
      have y0 : (wr.alloc (.cells #[.int .i64 x, .int .i64 0] 109)).cell? ⟨wr.heap.size, 0, none⟩ = some (.int .i64 x) := by simp
      have y1 : (wr.alloc (.cells #[.int .i64 x, .int .i64 0] 109)).cell? ⟨wr.heap.size, 1, none⟩ = some (.int .i64 0) := by simp
      have hz : (wr.alloc (.cells #[.int .i64 x, .int .i64 0] 109)).heap.size = wr.heap.size + 1 := by simp
      go_upto_region 4 with fail
      generalize (wr.alloc (.cells #[.int .i64 x, .int .i64 0] 109)) = w1 at *
      have hl1 : wr.heap.size < w1.heap.size := by omega
      have hS1 : S < w1.heap.size := by omega
      have hw1 : w.heap.size ≤ w1.heap.size := by omega
      generalize wr.heap.size = X at *
      clear HS HO HC d0 d1 hz
      go_region_law
        (first
          | (go_simp; go_at_call 112; refine (truncate_any x 0 _ _).mono ?_; rintro e w6 ⟨rfl, hb6⟩; have HS6 := Lib.hid (below_row (w := w1.drew) HS1.out.drew hb6 hS1); have HO6 := Lib.hid (own_below (own_drew HO1.out) hb6); have d3 : w6.cell? ⟨S, 3, none⟩ = some u := (hb6.cell (p := ⟨S, 3, none⟩) hS1).trans x3; have HC6 := Lib.hid (HC1.out.drew.trans (Ch.of_below (X := fun i => i = S) (w := w1.drew) hb6 (Nat.le_refl _))); have hz6 : w1.heap.size ≤ w6.heap.size := hb6.size; have hS6 : S < w6.heap.size := Nat.lt_of_lt_of_le hS1 hb6.size; clear hb6)
          | (refine step_append_lies _ rfl (.tmp 22) (.tmp 25) 113 rfl w.heap.size 109 i0 (.agg #[.int .i64 0, .int .i64 0]) 2 16 Tryz.underlying113 HI.out.1 HI.out.2.1 HI.out.2.2.1 HI.out.2.2.2 rfl (by decide) u k (timeVs (ts.take k)) (by simp [Act.eval]) (HO6.out.alloc _) ⟨w6.heap.size, 0, none⟩ 1 1 [.int .i64 x, .int .i64 0] (by simp [Act.eval]) rfl (World.news_of_block (cs := #[.int .i64 x, .int .i64 0]) (t := 109) (fr := (0, 0)) (heap_alloc_new w6 _)) (by simp [Value.oneCell']) (by decide) (by simp only [maxLen]; omega) (by omega) (by rw [World.size_alloc]; omega) _ rfl ?_; intro g7 cap7 w8 hown7 hgrow7 hat7 hlt7; have HS8 := Lib.hid ((HS6.out.alloc (.cells #[.int .i64 x, .int .i64 0] 109)).of_block (hgrow7.block S (by rw [World.size_alloc]; omega) (fun e => by have := (HO6.out.lt S e.symm).1; omega))); have e3 : w8.cell? ⟨S, 3, none⟩ = some u := HS8.out.cell (i := 3) (by decide); have q3 := HS8.out.frozen 3; have HC8 := Lib.hid ((HC6.out.trans (Ch.alloc _)).grow hgrow7 (own_base HO6.out)); have HO8 := Lib.hid hown7; clear hown7 hgrow7 hat7))
      all_goals
        go_wp2_with fail
        go_roundw
        case rel =>
          refine ⟨k + 1, by omega, by go_num, Lib.hid ⟨_, World.rowIs.congr ((HS8.out).set 3 _) fun k _ => congrFun (setF_upd3 st rp _ _ ex) k, ?_⟩, ?_⟩
          · rw [HTK.out, timeVs_snoc]
            exact own_set HO8.out hSl
          · exact HC8.out.trans (.set rfl)
        case measure => simp [intOf]; omega
    · obtain rfl : k = n := by omega
      have ht : ts.take k = ts := by rw [← HL.out, List.take_length]
      rw [ht] at HO
      go_wp2_with fail
      go_end0
      have hl := HL.out
      unfold SetPut
      rw [hl]
      exact ⟨u, rfl, HS.out, HO.out, HC.out⟩
set_option maxRecDepth 100000 in
set_option maxHeartbeats 4000000 in
theorem setExDates_any {w : World} {S Bq n : Nat} {st : Int} {rp rd ex q : Value} {ts : List Int} (hS : w.rowIs S 132 5 (setF st rp rd ex)) (hq : w.ownsRow Bq 109 2 q n (timeVs ts)) (hlen : ts.length = n) (hqS : q.ownBlock ≠ some S) (hn : n ≤ 1000) :
    Calls Tryz.prog 76 #[.pointer (some ⟨S, 0, none⟩), q] w fun e w' => SetPut S st rp rd false ts w e w' := by
  obtain ⟨p, c, rfl, hp⟩ := own_slice hq
  obtain ⟨i0, hi0, hzz⟩ := Option.map_eq_some_iff.1 info109
  simp only [Prod.mk.injEq] at hzz
  obtain ⟨hz0, hz1, hz2⟩ := hzz
  have HI := Lib.hid (And.intro hi0 (And.intro hz0 (And.intro hz1 hz2)))
  have hSl := hS.lt
  have HM := Lib.hid fun W => mk_times n hn W
  have hmk := HM.out w
  have y4 : (w.alloc (.cells (madeCells #[.int .i64 0, .int .i64 0] (n * 2)) 109)).cell? ⟨S, 4, none⟩ = some ex := (hS.alloc _).cell (i := 4) (by decide)
  have z4 := (hS.alloc (.cells (madeCells #[.int .i64 0, .int .i64 0] (n * 2)) 109)).frozen 4
  have HS0 := Lib.hid (show (((w.alloc (.cells (madeCells #[.int .i64 0, .int .i64 0] (n * 2)) 109)).setCell ⟨S, 4, none⟩ (.slice (some ⟨w.heap.size, 0, none⟩) 0 n))).rowIs S 132 5 (setF st rp rd (.slice (some ⟨w.heap.size, 0, none⟩) 0 n)) from setF_upd4 ((hS.alloc _).set 4 _))
  have HO0 := Lib.hid (own_set (C := S) (k := 4) (u := .slice (some ⟨w.heap.size, 0, none⟩) 0 n) (World.ownsRow_made w (base := w.heap.size) (e := 109) (size := 2) (madeCells #[.int .i64 0, .int .i64 0] (n * 2)) n (Nat.le_refl _) (by unfold maxLen; omega) (size_madeCells _ _)) hSl)
  have HC0 := Lib.hid (show Ch (fun i => i = S) w ((w.alloc (.cells (madeCells #[.int .i64 0, .int .i64 0] (n * 2)) 109)).setCell ⟨S, 4, none⟩ (.slice (some ⟨w.heap.size, 0, none⟩) 0 n)) from (Ch.alloc _).trans (.set rfl))
  have HQ := Lib.hid hq
  have HP := Lib.hid hp
  have HL := Lib.hid hlen
  have HQS := Lib.hid hqS
  clear hi0 hz0 hz1 hz2 hS hq hp hlen hqS
  go_enter Tryz.func76, Tryz.ntmps76
  go_wp2_with fail
  rw [← World.setCell_alloc_past _ _ _ _ hSl]
  generalize ((w.alloc (.cells (madeCells #[.int .i64 0, .int .i64 0] (n * 2)) 109)).setCell ⟨S, 4, none⟩ (.slice (some ⟨w.heap.size, 0, none⟩) 0 n)) = w0 at *
  clear hmk y4 z4
  go_loopw [5, 14] (fun _ v wr => ∃ k : Nat, k ≤ n ∧ v = .int .i64 k ∧ Hid (∃ u, wr.rowIs S 132 5 (setF st rp rd u) ∧ wr.ownsRow w.heap.size 109 2 u k (timeVs (ts.take k))) ∧ Hid (Ch (fun i => i = S) w wr)) (fun _ v _ => n - (intOf v).toNat)
  case atStart => exact ⟨0, Nat.zero_le _, rfl, Lib.hid ⟨_, HS0.out, HO0.out⟩, HC0⟩
  case round =>
    obtain ⟨k, hk, rfl, HH, HC⟩ := hrel
    obtain ⟨u, hSr, hOr⟩ := HH.out
    have HS := Lib.hid hSr
    have HO := Lib.hid hOr
    clear HS0 HO0 HC0 hSr hOr
    by_cases hkn : k < n
    · obtain ⟨g, rfl, hgB, hgl⟩ : ∃ g, p = some ⟨g, 0, none⟩ ∧ Bq ≤ g ∧ g < w.heap.size := by
        rcases HP.out with h | h
        · omega
        · exact h
      have hgS : g ≠ S := fun e => HQS.out (by rw [e]; rfl)
      obtain ⟨x, hx⟩ : ∃ x, ts[k]? = some x := ⟨_, List.getElem?_eq_getElem (by have := HL.out; omega)⟩
      have hat := timeVs_at ts k x hx
      have d0 : wr.cell? ⟨g, k * 2, none⟩ = some (.int .i64 x) := (HC.out.cell hgl hgS).trans (by have := HQ.out.cells (g := g) rfl (k * 2) _ hat.1; rwa [add_plain] at this)
      have d1 : wr.cell? ⟨g, k * 2 + 1, none⟩ = some (.int .i64 0) := (HC.out.cell hgl hgS).trans (by have := HQ.out.cells (g := g) rfl (k * 2 + 1) _ hat.2; rwa [add_plain] at this)
      have HTK := Lib.hid (show ts.take (k + 1) = ts.take k ++ [x] by rw [List.take_add_one, hx]; rfl)
      have hgr : g < wr.heap.size := Nat.lt_of_lt_of_le hgl HC.out.size
      have hwr := HC.out.size
      have hki : (0 : Int) ≤ ((k : Nat) : Int) := by omega
      have hkni : ((k : Nat) : Int) < ((n : Nat) : Int) := by omega
      have HGS := Lib.hid hgS
      clear hat hx hgS
      have HS1 := Lib.hid (HS.out.alloc (.cells #[.int .i64 x, .int .i64 0] 109))
      have HO1 := Lib.hid (HO.out.alloc (.cells #[.int .i64 x, .int .i64 0] 109))
      have HC1 := Lib.hid (HC.out.trans (Ch.alloc (X := fun i => i = S) (w := wr) (.cells #[.int .i64 x, .int .i64 0] 109)))
      have x3 : (wr.alloc (.cells #[.int .i64 x, .int .i64 0] 109)).cell? ⟨S, 4, none⟩ = some u := HS1.out.cell (i := 4) (by decide)
      have y0 : (wr.alloc (.cells #[.int .i64 x, .int .i64 0] 109)).cell? ⟨wr.heap.size, 0, none⟩ = some (.int .i64 x) := by simp
      have y1 : (wr.alloc (.cells #[.int .i64 x, .int .i64 0] 109)).cell? ⟨wr.heap.size, 1, none⟩ = some (.int .i64 0) := by simp
      have hz : (wr.alloc (.cells #[.int .i64 x, .int .i64 0] 109)).heap.size = wr.heap.size + 1 := by simp
      go_upto_region 4 with fail
      generalize (wr.alloc (.cells #[.int .i64 x, .int .i64 0] 109)) = w1 at *
      have hl1 : wr.heap.size < w1.heap.size := by omega
      have hS1 : S < w1.heap.size := by omega
      have hw1 : w.heap.size ≤ w1.heap.size := by omega
      generalize wr.heap.size = X at *
      clear HS HO HC d0 d1 hz
      go_region_law
        (first
          | (go_simp; go_at_call 112; refine (truncate_any x 0 _ _).mono ?_; rintro e w6 ⟨rfl, hb6⟩; have HS6 := Lib.hid (below_row (w := w1.drew) HS1.out.drew hb6 hS1); have HO6 := Lib.hid (own_below (own_drew HO1.out) hb6); have d3 : w6.cell? ⟨S, 4, none⟩ = some u := (hb6.cell (p := ⟨S, 4, none⟩) hS1).trans x3; have HC6 := Lib.hid (HC1.out.drew.trans (Ch.of_below (X := fun i => i = S) (w := w1.drew) hb6 (Nat.le_refl _))); have hz6 : w1.heap.size ≤ w6.heap.size := hb6.size; have hS6 : S < w6.heap.size := Nat.lt_of_lt_of_le hS1 hb6.size; clear hb6)
          | (refine step_append_lies _ rfl (.tmp 22) (.tmp 25) 113 rfl w.heap.size 109 i0 (.agg #[.int .i64 0, .int .i64 0]) 2 16 Tryz.underlying113 HI.out.1 HI.out.2.1 HI.out.2.2.1 HI.out.2.2.2 rfl (by decide) u k (timeVs (ts.take k)) (by simp [Act.eval]) (HO6.out.alloc _) ⟨w6.heap.size, 0, none⟩ 1 1 [.int .i64 x, .int .i64 0] (by simp [Act.eval]) rfl (World.news_of_block (cs := #[.int .i64 x, .int .i64 0]) (t := 109) (fr := (0, 0)) (heap_alloc_new w6 _)) (by simp [Value.oneCell']) (by decide) (by simp only [maxLen]; omega) (by omega) (by rw [World.size_alloc]; omega) _ rfl ?_; intro g7 cap7 w8 hown7 hgrow7 hat7 hlt7; have HS8 := Lib.hid ((HS6.out.alloc (.cells #[.int .i64 x, .int .i64 0] 109)).of_block (hgrow7.block S (by rw [World.size_alloc]; omega) (fun e => by have := (HO6.out.lt S e.symm).1; omega))); have e3 : w8.cell? ⟨S, 4, none⟩ = some u := HS8.out.cell (i := 4) (by decide); have q3 := HS8.out.frozen 4; have HC8 := Lib.hid ((HC6.out.trans (Ch.alloc _)).grow hgrow7 (own_base HO6.out)); have HO8 := Lib.hid hown7; clear hown7 hgrow7 hat7))
      all_goals
        go_wp2_with fail
        go_roundw
        case rel =>
          refine ⟨k + 1, by omega, by go_num, Lib.hid ⟨_, setF_upd4 ((HS8.out).set 4 _), ?_⟩, ?_⟩
          · rw [HTK.out, timeVs_snoc]
            exact own_set HO8.out hSl
          · exact HC8.out.trans (.set rfl)
        case measure => simp [intOf]; omega
    · obtain rfl : k = n := by omega
      have ht : ts.take k = ts := by rw [← HL.out, List.take_length]
      rw [ht] at HO
      go_wp2_with fail
      go_end0
      have hl := HL.out
      unfold SetPut
      rw [hl]
      exact ⟨u, rfl, HS.out, HO.out, HC.out⟩
end Go.Proofs.YtnlpjncljbaapaaGreatDoor
