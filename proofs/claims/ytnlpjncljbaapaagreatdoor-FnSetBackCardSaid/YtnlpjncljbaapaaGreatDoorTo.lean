/- Reading a set of the package's: the getters, impl.seconds. -/
import Derived.Test.YtnlpjncljbaapaaGreatDoorTsx
import Derived.Test.YtnlpjncljbaapaaGreatDoorLs
import Derived.Test.YtnlpjncljbaapaaGreatDoorRu
namespace Go.Proofs.YtnlpjncljbaapaaGreatDoor
open Go.RowKit

set_option maxHeartbeats 400000 in
theorem get_rdate (S : Nat) (v : Value) (w : World) (c : w.cell? ⟨S, 3, none⟩ = some v) : Calls Tryz.prog 60 #[.pointer (some ⟨S, 0, none⟩)] w fun e w' => e = .returned v ∧ w = w' := by
  go_enter Tryz.func60, Tryz.ntmps60
  go_wp2
  go_ret
  exact ⟨rfl, rfl⟩
set_option maxHeartbeats 400000 in
theorem get_exdate (S : Nat) (v : Value) (w : World) (c : w.cell? ⟨S, 4, none⟩ = some v) : Calls Tryz.prog 61 #[.pointer (some ⟨S, 0, none⟩)] w fun e w' => e = .returned v ∧ w = w' := by
  go_enter Tryz.func61, Tryz.ntmps61
  go_wp2
  go_ret
  exact ⟨rfl, rfl⟩
set_option maxHeartbeats 400000 in
theorem get_rule (S : Nat) (v : Value) (w : World) (c : w.cell? ⟨S, 2, none⟩ = some v) : Calls Tryz.prog 62 #[.pointer (some ⟨S, 0, none⟩)] w fun e w' => e = .returned v ∧ w = w' := by
  go_enter Tryz.func62, Tryz.ntmps62
  go_wp2
  go_ret
  exact ⟨rfl, rfl⟩
set_option maxHeartbeats 400000 in
theorem get_start (S : Nat) (t : Int) (w : World) (c0 : w.cell? ⟨S, 0, none⟩ = some (.int .i64 t)) (c1 : w.cell? ⟨S, 1, none⟩ = some (.int .i64 0)) : Calls Tryz.prog 57 #[.pointer (some ⟨S, 0, none⟩)] w fun e w' => e = .returned (.agg #[.int .i64 t, .int .i64 0]) ∧ Below w.heap.size w w' := by
  have hS : S < w.heap.size := by
    rcases Nat.lt_or_ge S w.heap.size with h' | h'
    · exact h'
    · simp [World.cell?, Array.getElem?_eq_none h'] at c0
  have HB := Lib.hid (below_a1 (w := w) (o := .cells #[.int .i64 t, .int .i64 0] 109))
  go_enter Tryz.func57, Tryz.ntmps57
  go_wp2
  refine bodyPost_ret (v := .agg #[.int .i64 t, .int .i64 0]) (by simp [results, Tryz.results57, go_sem]) rfl ⟨rfl, HB.out⟩
set_option maxRecDepth 100000 in
set_option maxHeartbeats 8000000 in
/-- The moments of a row of times. -/
theorem seconds_list (v : Value) (n B : Nat) (ts : List Int) (w : World) (h : w.ownsRow B 109 2 v n (timeVs ts)) (hlen : ts.length = n) (hn : n ≤ 1000) :
    Calls Tryz.prog 59 #[v] w fun e w' => ∃ u, e = .returned u ∧ w'.ownsRow w.heap.size 2 1 u n (intVs ts) ∧ Below w.heap.size w w' := by
  obtain ⟨q, c, rfl, hq⟩ := own_slice h
  have HOW := Lib.hid h
  have HL := Lib.hid hlen
  have HQ := Lib.hid hq
  clear h hlen hq
  go_enter Tryz.func59, Tryz.ntmps59
  go_wp2_with fail
  go_loopw [3, 5, 8] (fun u _ v wr => ∃ k : Nat, k ≤ n ∧ v = .int .i64 k ∧ Hid (wr.ownsRow w.heap.size 2 1 u k (intVs (ts.take k))) ∧ Hid (Below w.heap.size w wr)) (fun _ _ v _ => n - (intOf v).toNat)
  case atStart => exact ⟨0, Nat.zero_le _, rfl, Lib.hid (own_nil _ _ _ _), Lib.hid (Below.refl _ _)⟩
  case round =>
    obtain ⟨k, hk, rfl, HO, HB⟩ := hrel
    by_cases hkn : k < n
    · obtain ⟨g, rfl, hgB, hgl⟩ : ∃ g, q = some ⟨g, 0, none⟩ ∧ B ≤ g ∧ g < w.heap.size := by
        rcases HQ.out with h | h
        · omega
        · exact h
      obtain ⟨x, hx⟩ : ∃ x, ts[k]? = some x := ⟨_, List.getElem?_eq_getElem (by have := HL.out; omega)⟩
      have hat := timeVs_at ts k x hx
      have d0 : wr.cell? ⟨g, k * 2, none⟩ = some (.int .i64 x) := (HB.out.cell (p := ⟨g, k * 2, none⟩) hgl).trans (by have := HOW.out.cells (g := g) rfl (k * 2) _ hat.1; rwa [add_plain] at this)
      have d1 : wr.cell? ⟨g, k * 2 + 1, none⟩ = some (.int .i64 0) := (HB.out.cell (p := ⟨g, k * 2 + 1, none⟩) hgl).trans (by have := HOW.out.cells (g := g) rfl (k * 2 + 1) _ hat.2; rwa [add_plain] at this)
      have HTK := Lib.hid (show ts.take (k + 1) = ts.take k ++ [x] by rw [List.take_add_one, hx]; rfl)
      have hgr : g < wr.heap.size := Nat.lt_of_lt_of_le hgl HB.out.size
      have hwr := HB.out.size
      have hki : (0 : Int) ≤ ((k : Nat) : Int) := by omega
      have hkni : ((k : Nat) : Int) < ((n : Nat) : Int) := by omega
      clear hat hx
      go_wp2_with fail
      refine (seconds_any x 0 _).mono ?_; rintro e w2 ⟨rfl, hb2⟩
      have HO2 := Lib.hid (own_below (HO.out.alloc _) hb2)
      have HB2 := Lib.hid ((HB.out.alloc HB.out.size _).trans (hb2.mono (by simp; omega)))
      have hz2 := hb2.size
      have hw2 : w.heap.size ≤ w2.heap.size := HB2.out.size
      clear hb2 d0 d1
      go_wp2_with (at_builtin; refine app_own w.heap.size rfl _ _ 26 2 (.int .i64 0) 1 8 rfl Tryz.underlying26 info2 rfl (by decide) (by decide) _ k (intVs (ts.take k)) [.int .i64 x] (by rfl) (by rfl) rfl (by simp [Value.oneCell']) HO2.out hw2 (by omega) ?_)
      intro g5 cap5 w5 hown5 hg5 hg6 hcap5 hgrow hat5
      have HB5 := Lib.hid (HB2.out.grown hgrow HB2.out.size (own_base HO2.out))
      have HO5 := Lib.hid hown5
      clear hown5 hgrow hat5 HO2 HB2
      go_wp2_with fail
      go_roundw
      case rel =>
        refine ⟨k + 1, by omega, by go_num, Lib.hid ?_, HB5⟩
        rw [HTK.out]
        have := HO5.out
        simpa [intVs] using this
      case measure => simp [intOf]; omega
    · obtain rfl : k = n := by omega
      have ht : ts.take k = ts := by rw [← HL.out, List.take_length]
      rw [ht] at HO
      go_wp2_with fail
      go_ret
      exact ⟨_, rfl, HO.out, HB.out⟩
end Go.Proofs.YtnlpjncljbaapaaGreatDoor

/- impl.told, walked. -/
namespace Go.Proofs.YtnlpjncljbaapaaGreatDoor
open Go.RowKit

theorem OptRows.ch {w w' : World} {o : Opt} {sl : Nat → Value} {S : Nat} (h : OptRows w o sl) (hs : SlOff sl S) (hc : Ch (fun i => i = S) w w') : OptRows w' o sl := by
  have key : ∀ g x, g ≠ S → g < w.heap.size → w'.cell? ⟨g, x, none⟩ = w.cell? ⟨g, x, none⟩ := fun g x h1 h2 => World.cell?_of_block (hc.block g h2 h1)
  refine ⟨fun k h1 h2 h3 => ⟨(h.1 k h1 h2 h3).1, fun i x hx => ?_⟩, h.2.1, fun i a b hx => ?_⟩
  · obtain ⟨g, e, hg, hcx⟩ := (h.1 k h1 h2 h3).2 i x hx
    exact ⟨g, e, Nat.lt_of_lt_of_le hg hc.size, (key g _ (hs k h1 h2 g e) hg).trans hcx⟩
  · obtain ⟨g, e, hg, hc1, hc2⟩ := h.2.2 i a b hx
    exact ⟨g, e, Nat.lt_of_lt_of_le hg hc.size, (key g _ (hs 14 (by omega) (by omega) g e) hg).trans hc1, (key g _ (hs 14 (by omega) (by omega) g e) hg).trans hc2⟩
def toldF (t : Int) (b : Bool) (f : Nat → Value) (rd ex : Value) (i : Nat) : Value := if i = 0 then .int .i64 t else if i = 1 then .bool b else if i < 20 then f (i - 2) else if i = 20 then rd else ex
def toldC (t : Int) (u1 u2 : Value) : Array Value := #[.int .i64 t, .bool false, .int .u8 0, .bool false, .int .i64 0, .int .i64 0, .int .i64 0, .int .i64 0, .bool false, .int .i64 0, .slice none 0 0, .slice none 0 0, .slice none 0 0, .slice none 0 0, .slice none 0 0, .slice none 0 0, .slice none 0 0, .slice none 0 0, .slice none 0 0, .slice none 0 0, u1, u2]
theorem toldC_at (t : Int) (u1 u2 : Value) (i : Nat) (hi : i < 22) : (toldC t u1 u2)[i]? = some (toldF t false zRuleF u1 u2 i) := by
  have h22 : i = 0 ∨ i = 1 ∨ i = 2 ∨ i = 3 ∨ i = 4 ∨ i = 5 ∨ i = 6 ∨ i = 7 ∨ i = 8 ∨ i = 9 ∨ i = 10 ∨ i = 11 ∨ i = 12 ∨ i = 13 ∨ i = 14 ∨ i = 15 ∨ i = 16 ∨ i = 17 ∨ i = 18 ∨ i = 19 ∨ i = 20 ∨ i = 21 := by omega
  rcases h22 with h | h | h | h | h | h | h | h | h | h | h | h | h | h | h | h | h | h | h | h | h | h <;> subst h <;> simp [toldC, toldF, zRuleF, zRule]
theorem told_row (t : Int) (u1 u2 : Value) (W : World) : (W.alloc (.cells (toldC t u1 u2) 38)).rowIs W.heap.size 38 22 (toldF t false zRuleF u1 u2) :=
  World.rowIs_alloc W (toldC t u1 u2) 38 _ fun i hi => toldC_at t u1 u2 i hi
theorem toldC_one (t : Int) (q1 q2 : Option Addr) (n1 c1 n2 c2 : Nat) : (toldC t (.slice q1 n1 c1) (.slice q2 n2 c2)).all (·.oneCell') = true := by simp [toldC, Value.oneCell']
theorem zRuleF_one (j : Nat) (h : j < 18) : (zRuleF j).oneCell' = true := by
  have h18 : j = 0 ∨ j = 1 ∨ j = 2 ∨ j = 3 ∨ j = 4 ∨ j = 5 ∨ j = 6 ∨ j = 7 ∨ j = 8 ∨ j = 9 ∨ j = 10 ∨ j = 11 ∨ j = 12 ∨ j = 13 ∨ j = 14 ∨ j = 15 ∨ j = 16 ∨ j = 17 := by omega
  rcases h18 with h | h | h | h | h | h | h | h | h | h | h | h | h | h | h | h | h | h <;> subst h <;> rfl
theorem toldF_one (t : Int) (b : Bool) (f : Nat → Value) (hf : ∀ j, j < 18 → (f j).oneCell' = true) {rd ex : Value} (h1 : rd.oneCell' = true) (h2 : ex.oneCell' = true) (i : Nat) (hi : i < 22) : (toldF t b f rd ex i).oneCell' = true := by
  unfold toldF
  split
  · rfl
  split
  · rfl
  split
  · exact hf _ (by omega)
  split
  · exact h1
  · exact h2
theorem told_upd (t : Int) (F : Nat → Value) (u1 u2 : Value) (j : Nat) (hj : j < 22) : updR (fun j => if j = 1 then .bool true else toldF t false zRuleF u1 u2 j) 2 (rowA 18 F) j = toldF t true F u1 u2 j := by
  unfold updR
  rw [rowA_size]
  by_cases h : 2 ≤ j ∧ j < 2 + 18
  · rw [if_pos h, rowA_get (by omega)]
    unfold toldF
    rw [if_neg (by omega), if_neg (by omega), if_pos (by omega)]
    rfl
  · rw [if_neg h]
    have hj : j = 0 ∨ j = 1 ∨ j = 20 ∨ j = 21 := by omega
    rcases hj with h | h | h | h <;> subst h <;> rfl
theorem own_ne {w w' : World} {base r : Nat} {e : TypeId} {size n : Nat} {v : Value} {xs : List Value} (h : w.ownsRow base e size v n xs) (hg : w.grownBy w' (some r)) (hr : v.ownBlock ≠ some r) : w'.ownsRow base e size v n xs := by
  obtain ⟨h1, h2⟩ := h
  refine ⟨h1, ?_⟩
  rcases h2 with h2 | ⟨g, cap, cur, rfl, hge, hh, h3⟩
  · exact Or.inl h2
  · exact Or.inr ⟨g, cap, cur, rfl, hge, (hg.block g (Array.getElem?_eq_some_iff.1 hh).1 (fun e => hr (by rw [← e]; rfl))).trans hh, h3⟩
/-- What told says of a set's rule. -/
def RuleTold (w : World) (S B : Nat) (t : Int) (b : Bool) (f : Nat → Value) : Option Opt → Prop
  | none => b = false ∧ f = zRuleF
  | some o => b = true ∧ ∃ sl v, f = ruleF o t sl v ∧ OptRows w o sl ∧ (∀ X, X ≤ S → SlOff sl X) ∧ w.ownsRow B 69 2 v o.days.length (dayVs o.days)
def GivesTold (S : Nat) (t : Int) (r : Option Opt) (rds exs : List Int) (w : World) (e : Ending) (w' : World) : Prop :=
  ∃ b f rd ex, e = .returned (.agg (rowA 22 (toldF t b f rd ex))) ∧ RuleTold w' S w.heap.size t b f r ∧ w'.ownsRow w.heap.size 2 1 rd rds.length (intVs rds) ∧ w'.ownsRow w.heap.size 2 1 ex exs.length (intVs exs) ∧ Below w.heap.size w w'
set_option maxRecDepth 100000 in
set_option maxHeartbeats 8000000 in
theorem told_any (S B : Nat) (t : Int) (r : Option Opt) (rds exs : List Int) (rp rd ex : Value) (w : World) (h : SetAt w S B t r rds exs rp rd ex) (hr : ∀ o, r = some o → (0 ≤ o.freq ∧ o.freq ≤ 6) ∧ o.days.length ≤ 1000) (h1 : rds.length ≤ 1000) (h2 : exs.length ≤ 1000) :
    Calls Tryz.prog 34 #[.pointer (some ⟨S, 0, none⟩)] w fun e w' => GivesTold S t r rds exs w e w' := by
  have HS := Lib.hid fun (W : World) (hW : Below w.heap.size w W) => h.keep hW
  have HB := Lib.hid (below_a1 (w := w) (o := .cells zSet 38))
  have HR := Lib.hid (zSet_at w)
  have HST := Lib.hid fun (W : World) (hW : Below w.heap.size w W) => get_start S t W ((h.keep hW).row.cell (i := 0) (by omega)) ((h.keep hW).row.cell (i := 1) (by omega))
  have HRD := Lib.hid fun (W : World) (hW : Below w.heap.size w W) => get_rdate S rd W ((h.keep hW).row.cell (i := 3) (by omega))
  have HEX := Lib.hid fun (W : World) (hW : Below w.heap.size w W) => get_exdate S ex W ((h.keep hW).row.cell (i := 4) (by omega))
  have HRU := Lib.hid fun (W : World) (hW : Below w.heap.size w W) => get_rule S rp W ((h.keep hW).row.cell (i := 2) (by omega))
  have HS1 := Lib.hid fun (W : World) (hW : Below w.heap.size w W) => seconds_list rd rds.length B rds W (h.keep hW).rds rfl h1
  have HS2 := Lib.hid fun (W : World) (hW : Below w.heap.size w W) => seconds_list ex exs.length B exs W (h.keep hW).exs rfl h2
  have HH := Lib.hid hr
  clear h hr h1 h2
  go_enter Tryz.func34, Tryz.ntmps34
  unfold zSet at *
  go_upto_region 1 with fail
  generalize hw1 : w.alloc (.cells #[_, _, _, _, _, _, _, _, _, _, _, _, _, _, _, _, _, _, _, _, _, _] 38) = w1 at *
  clear hw1
  go_wp2_with fail
  refine (HST.out _ HB.out).mono ?_; rintro e w2 ⟨rfl, hb⟩
  have HC2 := Lib.hid hb
  have HB2 := Lib.hid (HB.out.trans (hb.mono HB.out.size))
  clear hb
  go_wp2_with fail
  refine (seconds_any t 0 _).mono ?_; rintro e w3 ⟨rfl, hb⟩
  have HC3 := Lib.hid (HC2.out.trans (hb.mono HC2.out.size))
  have HB3 := Lib.hid (HB2.out.trans (hb.mono HB2.out.size))
  clear hb
  go_wp2_with fail
  refine (HRD.out _ HB3.out).mono ?_; rintro e w4 ⟨rfl, rfl⟩
  go_wp2_with fail
  refine (HS1.out _ HB3.out).mono ?_; rintro e w5 ⟨u1, rfl, ho1, hb⟩
  have HC5 := Lib.hid (HC3.out.trans (hb.mono HC3.out.size))
  have HB5 := Lib.hid (HB3.out.trans (hb.mono HB3.out.size))
  have HO1 := Lib.hid (Joins.ownsRow_le ho1 HC3.out.size)
  clear hb ho1
  go_wp2_with fail
  refine (HEX.out _ HB5.out).mono ?_; rintro e w6 ⟨rfl, rfl⟩
  go_wp2_with fail
  refine (HS2.out _ HB5.out).mono ?_; rintro e w7 ⟨u2, rfl, ho2, hb⟩
  have HC7 := Lib.hid (HC5.out.trans (hb.mono HC5.out.size))
  have HB7 := Lib.hid (HB5.out.trans (hb.mono HB5.out.size))
  have HO2 := Lib.hid (Joins.ownsRow_le ho2 HC5.out.size)
  have HO17 := Lib.hid (own_below HO1.out hb)
  clear hb ho2
  obtain ⟨q1, c1, rfl, -⟩ := own_slice HO1.out
  obtain ⟨q2, c2, rfl, -⟩ := own_slice HO2.out
  obtain ⟨d8, hd8⟩ := u38
  have HU8 := Lib.hid hd8
  clear hd8
  have HR8 := Lib.hid (told_row t (.slice q1 rds.length c1) (.slice q2 exs.length c2) w7)
  have HB8 := Lib.hid (HB7.out.alloc HB7.out.size (.cells (toldC t (.slice q1 rds.length c1) (.slice q2 exs.length c2)) 38))
  have HA1 := Lib.hid (HO17.out.alloc (.cells (toldC t (.slice q1 rds.length c1) (.slice q2 exs.length c2)) 38))
  have HA2 := Lib.hid (HO2.out.alloc (.cells (toldC t (.slice q1 rds.length c1) (.slice q2 exs.length c2)) 38))
  go_wp2_with ((with_reducible refine gd_store 38 ?_); refine wpl_store_last rfl 38 _ _ rfl _ (toldC t (.slice q1 rds.length c1) (.slice q2 exs.length c2)) rfl rfl (by rw [info38s]; rfl) rfl (toldC_one _ _ _ _ _ _ _) ?_)
  have HC8 := Lib.hid (HC7.out.alloc HC7.out.size (.cells (toldC t (.slice q1 rds.length c1) (.slice q2 exs.length c2)) 38))
  have HT8 := Lib.hid (below_row HR.out HC8.out HR.out.lt)
  have hNw : w.heap.size < w7.heap.size := Nat.lt_of_lt_of_le HR.out.lt HC7.out.size
  obtain ⟨N, hN⟩ : ∃ N, N = w7.heap.size := ⟨_, rfl⟩
  rw [← hN] at HR8 hNw ⊢
  have hw1 : w.heap.size < w1.heap.size := HR.out.lt
  generalize w7.alloc (.cells (toldC t (.slice q1 rds.length c1) (.slice q2 exs.length c2)) 38) = w8 at *
  have hA1N : ∀ g, (Value.slice q1 rds.length c1).ownBlock = some g → w1.heap.size ≤ g ∧ g < N := fun g hg => by rw [hN]; exact HO17.out.lt g hg
  have hA2N : ∀ g, (Value.slice q2 exs.length c2).ownBlock = some g → w1.heap.size ≤ g ∧ g < N := fun g hg => by rw [hN]; exact HO2.out.lt g hg
  have HA1N := Lib.hid hA1N
  have HA2N := Lib.hid hA2N
  have hN8 : N < w8.heap.size := HR8.out.lt
  clear hA1N hA2N
  clear hN HC2 HC3 HC5 HC7 HB2 HB3 HB5 HB7 HO1 HO2 HO17 HST HRD HEX HS1 HS2
  refine (HRU.out _ HB8.out).mono ?_; rintro e w9 ⟨rfl, rfl⟩
  cases r with
  | none =>
    obtain rfl : rp = .pointer none := (HS.out _ HB8.out).rule
    go_wp2_with (first | ((with_reducible refine gd_load 38 ?_); refine wpl_load_row0 rfl 38 _ rfl N 38 22 22 _ rfl HR8.out (by omega) d8 HU8.out.1 HU8.out.2 info38s ?_) | ((with_reducible refine gd_store 38 ?_); refine wpl_store_row rfl 38 _ _ rfl w.heap.size 0 38 22 _ (rowA 22 (toldF t false zRuleF (.slice q1 rds.length c1) (.slice q2 exs.length c2))) rfl rfl HT8.out (by simp [rowA_size]) (by rw [info38s, rowA_size]) (rowA_all fun i hi => toldF_one t false zRuleF zRuleF_one rfl rfl i hi) ?_; intro w9 hR9 hg9))
    refine bodyPost_ret (results_row rfl _ w.heap.size 38 22 _ (by rfl) hR9 d8 HU8.out.1 HU8.out.2 info38s) rfl ?_
    rw [updR_all]
    exact ⟨false, zRuleF, _, _, rfl, ⟨rfl, rfl⟩, Joins.ownsRow_le (own_grown HA1.out hg9 hw1) (Nat.le_of_lt hw1), Joins.ownsRow_le (own_grown HA2.out hg9 hw1) (Nat.le_of_lt hw1), HB8.out.grown hg9 HB8.out.size (fun k hk => by cases hk; exact Nat.le_refl _)⟩
  | some o =>
    obtain ⟨G, sl, rfl, hGS, hRA, hRows, hs1, hs2, -, -⟩ := (HS.out w (Below.refl _ _)).rule
    obtain ⟨ff, hrw, hff, -⟩ := hRA
    have hr8 := below_row hrw HB8.out hrw.lt
    obtain ⟨hfo, hdo⟩ := HH.out o rfl
    have HRW := Lib.hid hRows
    have HRU8 := Lib.hid (rule_any o t sl G w8 (fun k hk => by rw [hr8.cell (by omega), hff k hk]) hfo (HRW.out.below HB8.out).2 hdo)
    have HSO := Lib.hid hs1
    clear hff hr8 hrw hs1 hs2 hRows
    go_wp2_with fail
    refine HRU8.out.mono ?_; rintro e w9 ⟨v, B9, rfl, hB9, hown, hb9⟩
    obtain ⟨q5, c5, rfl, -⟩ := own_slice hown
    have HB9 := Lib.hid (HB8.out.trans (hb9.mono HB8.out.size))
    have hR9 := below_row HR8.out hb9 HR8.out.lt
    have HT9 := Lib.hid (below_row HT8.out hb9 HT8.out.lt)
    have HA19 := Lib.hid (own_below HA1.out hb9)
    have HA29 := Lib.hid (own_below HA2.out hb9)
    have HO9 := Lib.hid hown
    have x1 := hR9.cell (i := 1) (by omega)
    have f1 := hR9.frozen 1
    have HR9 := Lib.hid hR9
    have hN9 : N < w9.heap.size := hR9.lt
    clear hR9 hown hb9 HRU8
    go_wp2_with (first
      | ((with_reducible refine gd_store 36 ?_); refine wpl_store_row rfl 36 _ _ rfl N 2 38 22 _ (rowA 18 (ruleF o t sl (.slice q5 o.days.length c5))) rfl rfl (HR9.out.set 1 (.bool true)) (by simp [rowA_size]) (by rw [info36s, rowA_size]) (rowA_all fun i hi => ruleF_one _ _ _ _ rfl i) ?_; intro w10 hR10 hg10; have HG10 := Lib.hid (World.grownBy.trans (grown_set (World.grownBy.refl w9 (some N)) 1 (.bool true)) hg10); have HR10 := Lib.hid (hR10.congr fun j hj => told_upd t (ruleF o t sl (.slice q5 o.days.length c5)) (.slice q1 rds.length c1) (.slice q2 exs.length c2) j hj); have HT10 := Lib.hid (row_grown HT9.out HG10.out (by intro e; cases e; omega)); clear hR10 hg10 x1 f1)
      | ((with_reducible refine gd_load 38 ?_); refine wpl_load_row0 rfl 38 _ rfl N 38 22 22 _ rfl HR10.out (by omega) d8 HU8.out.1 HU8.out.2 info38s ?_)
      | ((with_reducible refine gd_store 38 ?_); refine wpl_store_row rfl 38 _ _ rfl w.heap.size 0 38 22 _ (rowA 22 (toldF t true (ruleF o t sl (.slice q5 o.days.length c5)) (.slice q1 rds.length c1) (.slice q2 exs.length c2))) rfl rfl HT10.out (by simp [rowA_size]) (by rw [info38s, rowA_size]) (rowA_all fun i hi => toldF_one t true _ (fun j _ => ruleF_one _ _ _ _ rfl j) rfl rfl i hi) ?_; intro w11 hR11 hg11))
    refine bodyPost_ret (results_row rfl _ w.heap.size 38 22 _ (by rfl) hR11 d8 HU8.out.1 HU8.out.2 info38s) rfl ?_
    rw [updR_all]
    have hBF : Below w.heap.size w w11 := (HB9.out.grown HG10.out HB9.out.size (fun k hk => by cases hk; omega)).grown hg11 (Nat.le_trans HB9.out.size HG10.out.size) (fun k hk => by cases hk; exact Nat.le_refl _)
    have hB9N : N < B9 := by omega
    refine ⟨true, (ruleF o t sl (.slice q5 o.days.length c5)), _, _, rfl, ⟨rfl, sl, _, rfl, HRW.out.below hBF, HSO.out, ?_⟩, ?_, ?_, hBF⟩
    · exact Joins.ownsRow_le (own_grown (own_grown HO9.out HG10.out hB9N) hg11 (by omega)) (by omega)
    · exact Joins.ownsRow_le (own_ne (own_ne HA19.out HG10.out (fun e => by have := HA1N.out _ e; omega)) hg11 (fun e => by have := HA1N.out _ e; omega)) (Nat.le_of_lt hw1)
    · exact Joins.ownsRow_le (own_ne (own_ne HA29.out HG10.out (fun e => by have := HA2N.out _ e; omega)) hg11 (fun e => by have := HA2N.out _ e; omega)) (Nat.le_of_lt hw1)
end Go.Proofs.YtnlpjncljbaapaaGreatDoor
