/- spec.Read, walked. -/
import Derived.Test.YtnlpjncljbaapaaGreatDoorPt
import Derived.Test.YtnlpjncljbaapaaGreatDoorPl
namespace Go.Proofs.YtnlpjncljbaapaaGreatDoor
open Go.RowKit Go.Instr Go.MapKept

section
variable {P : Program}
theorem run_lookup1_str {w : World} {t kt et : TypeId} (ht : P.underlying t = some (.map kt et)) (hk : P.underlying kt = some .string) (z : Value) (hz : ∀ w, (zeroValue et).run P w = .ok z w) {r : Nat} {kv : List (ByteArray × Value)} (hm : MapAt w r kv) (s : ByteArray) :
    (Instr.lookup t (.map (some r)) (.string s) false).run P w = .ok ((lookL s kv).getD z) w := by
  obtain ⟨es, clock, hh, he⟩ := hm
  obtain ⟨q, hq, hq2⟩ := findNow_str s es.toList kv 0 he
  have hck : (checkKey es.isEmpty 10000 kt (.string s)).run P w = .ok () w := run_checkKey (k := .string s) (n := 9999) hk (by simp [IsKey]) _
  rw [← hq2]
  cases q with
  | none => simp only [Instr.lookup, Sem.run_bind, run_underlying ht, Result.andThen, MapKept.run_getObj_map hh, hck, findKey, run_underlying hk, hq, Sem.run_pure, hz]; rfl
  | some x => simp only [Instr.lookup, Sem.run_bind, run_underlying ht, Result.andThen, MapKept.run_getObj_map hh, hck, findKey, run_underlying hk, hq, Sem.run_pure]; rfl
end
theorem zero4 (w : World) : (zeroValue 4).run Tryz.prog w = .ok (.bool false) w := by kernel_rfl
end Go.Proofs.YtnlpjncljbaapaaGreatDoor

namespace Go.Proofs.YtnlpjncljbaapaaGreatDoor
open Go.RowKit

/-- The names that were met. -/
def metL (ps : List Part) : List (ByteArray × Value) := ps.map fun p => (⟨p.name.toArray⟩, .bool true)
theorem ba_ne {a b : List UInt8} (h : a ≠ b) : ((⟨a.toArray⟩ : ByteArray) == ⟨b.toArray⟩) = false := by
  show (a.toArray == b.toArray) = false
  rw [beq_eq_false_iff_ne]
  intro e
  exact h (by simpa using e)
theorem ba_eq (a : List UInt8) : ((⟨a.toArray⟩ : ByteArray) == ⟨a.toArray⟩) = true := by
  show (a.toArray == a.toArray) = true
  exact beq_self_eq_true _
theorem look_none : ∀ (ps : List Part) (p : Part), p.name ∉ ps.map Part.name → lookL ⟨p.name.toArray⟩ (metL ps) = none
  | [], _, _ => rfl
  | q :: ps, p, h => by
    simp only [List.map_cons, List.mem_cons, not_or] at h
    show (if ((⟨p.name.toArray⟩ : ByteArray) == ⟨q.name.toArray⟩) then _ else lookL _ (metL ps)) = none
    rw [ba_ne h.1]
    exact look_none ps p h.2
theorem look_some : ∀ (ps : List Part) (n : List UInt8), n ∈ ps.map Part.name → lookL ⟨n.toArray⟩ (metL ps) = some (.bool true)
  | [], _, h => by simp at h
  | q :: ps, n, h => by
    show (if ((⟨n.toArray⟩ : ByteArray) == ⟨q.name.toArray⟩) then some (Value.bool true) else lookL _ (metL ps)) = _
    by_cases e : n = q.name
    · rw [e, if_pos (ba_eq _)]
    · rw [ba_ne e]
      simp only [List.map_cons, List.mem_cons] at h
      exact look_some ps n (h.resolve_left e)
def putS (o : Opt) (ps : List Part) : Opt := ps.foldl (fun o p => p.put o) o
def huS (b : Bool) (ps : List Part) : Bool := ps.foldl (fun b p => p.hu b) b
theorem putS_snoc (o : Opt) (ps : List Part) (p : Part) : putS o (ps ++ [p]) = p.put (putS o ps) := by simp [putS]
theorem huS_snoc (b : Bool) (ps : List Part) (p : Part) : huS b (ps ++ [p]) = p.hu (huS b ps) := by simp [huS]
/-- The rule with which reading begins. -/
def o1 : Opt := { interval := 1 }
def oneC : Array Value := #[.int .u8 0, .bool false, .int .i64 0, .int .i64 1, .int .i64 0, .int .i64 0, .bool false, .int .i64 0, .slice none 0 0, .slice none 0 0, .slice none 0 0, .slice none 0 0, .slice none 0 0, .slice none 0 0, .slice none 0 0, .slice none 0 0, .slice none 0 0, .slice none 0 0]
theorem oneC_row : rowA 18 (sF o1 false fun _ => .slice none 0 0) = oneC := rfl
theorem oneC_at (w : World) : RuleS (w.alloc (.cells oneC 25)) w.heap.size o1 false fun _ => .slice none 0 0 where
  row := by rw [← oneC_row]; exact rowA_at 25 18 _ w
  ints := fun k _ => .inl ⟨rfl, rfl⟩
  day := .inl ⟨rfl, rfl⟩
theorem HI.keep {w w' : World} {N : Nat} {v : Value} {l : List Int} {X : Nat → Prop} (h : HI w N v l) (hc : Ch X w w') (hX : ∀ g, N + 1 < g → ¬ X g) : HI w' N v l := by
  rcases h with h | ⟨g, c, h1, h2, h3, h4⟩
  · exact .inl h
  · exact .inr ⟨g, c, h1, h2.keep fun j => hc.cell h4 (hX g h3), h3, Nat.lt_of_lt_of_le h4 hc.size⟩
theorem HDy.keep {w w' : World} {N : Nat} {v : Value} {l : List (Int × Int)} {X : Nat → Prop} (h : HDy w N v l) (hc : Ch X w w') (hX : ∀ g, N + 1 < g → ¬ X g) : HDy w' N v l := by
  rcases h with h | ⟨g, c, h1, h2, h3, h4⟩
  · exact .inl h
  · exact .inr ⟨g, c, h1, fun j k n hx => ⟨(hc.cell h4 (hX g h3)).trans (h2 j k n hx).1, (hc.cell h4 (hX g h3)).trans (h2 j k n hx).2⟩, h3, Nat.lt_of_lt_of_le h4 hc.size⟩
theorem list18 (f F : Nat → Value) : rowA 18 (fun j => if 0 ≤ j ∧ j < 0 + [f 0, f 1, f 2, f 3, f 4, f 5, f 6, f 7, f 8, f 9, f 10, f 11, f 12, f 13, f 14, f 15, f 16, f 17].length then [f 0, f 1, f 2, f 3, f 4, f 5, f 6, f 7, f 8, f 9, f 10, f 11, f 12, f 13, f 14, f 15, f 16, f 17][j - 0]?.getD undef else F j) = rowA 18 f := rowA_congr fun i hi => by
  have h18 : i = 0 ∨ i = 1 ∨ i = 2 ∨ i = 3 ∨ i = 4 ∨ i = 5 ∨ i = 6 ∨ i = 7 ∨ i = 8 ∨ i = 9 ∨ i = 10 ∨ i = 11 ∨ i = 12 ∨ i = 13 ∨ i = 14 ∨ i = 15 ∨ i = 16 ∨ i = 17 := by omega
  rcases h18 with h | h | h | h | h | h | h | h | h | h | h | h | h | h | h | h | h | h <;> subst h <;> rfl
theorem zRuleC_at (w : World) : (w.alloc (.cells zRule 25)).rowIs w.heap.size 25 18 zRuleF :=
  World.rowIs_alloc w zRule 25 _ fun i hi => by
    have h : zRule[i]? = some (zRule[i]) := Array.getElem?_eq_getElem hi
    simp only [zRuleF, h, Option.getD_some]
/-- A piece says a part, to the specification. -/
def Part.ssays (a : List UInt8) (p : Part) : Prop := ∃ v, a = p.name ++ 61 :: v ∧ (61 : UInt8) ∉ v ∧ v.length ≤ 2000 ∧ p.sval v
/-- A rule that was read. -/
def GivesRead (o : Opt) (hu : Bool) (w : World) (e : Ending) (w' : World) : Prop :=
  ∃ N sl, e = .returned (.tuple #[.agg (rowA 18 (sF o hu sl)), .bool true]) ∧ w.heap.size ≤ N ∧ (∀ k, k ≠ 14 → HI w' N (sl (k - 1)) (o.l k)) ∧ HDy w' N (sl 13) o.days ∧ Below w.heap.size w w'
theorem sF_one {w : World} {N : Nat} {o : Opt} {hu : Bool} {sl : Nat → Value} (h : RuleS w N o hu sl) : ∀ i, i < 18 → (sF o hu sl i).oneCell' = true := fun i hi => by
  have key : ∀ k, k ≠ 14 → (sl (k - 1)).oneCell' = true := fun k hk => by
    rcases h.ints k hk with ⟨e, _⟩ | ⟨g, c, e, _⟩ <;> rw [e] <;> rfl
  match i with
  | 0 | 1 | 2 | 3 | 4 | 5 | 6 | 7 => rfl
  | 13 =>
    show (sl 13).oneCell' = true
    rcases h.day with ⟨e, _⟩ | ⟨g, c, e, _⟩ <;> rw [e] <;> rfl
  | 8 => exact key 9 (by decide)
  | 9 => exact key 10 (by decide)
  | 10 => exact key 11 (by decide)
  | 11 => exact key 12 (by decide)
  | 12 => exact key 13 (by decide)
  | 14 => exact key 15 (by decide)
  | 15 => exact key 16 (by decide)
  | 16 => exact key 17 (by decide)
  | 17 => exact key 18 (by decide)
  | i + 18 => omega
theorem GivesRead.mk' {o : Opt} {hu : Bool} {w W wr : World} {N N0 : Nat} {sl f F : Nat → Value} (hf : f = sF o hu sl) (hR : RuleS wr N o hu sl) (hC : Ch (fun i => i = N0) wr W) (hN : N0 < N) (h0 : N0 = w.heap.size) (hB : Below N0 w wr) (hz : N0 ≤ wr.heap.size) :
    GivesRead o hu w (.returned (.tuple #[.agg (rowA 18 (fun j => if 0 ≤ j ∧ j < 0 + [f 0, f 1, f 2, f 3, f 4, f 5, f 6, f 7, f 8, f 9, f 10, f 11, f 12, f 13, f 14, f 15, f 16, f 17].length then [f 0, f 1, f 2, f 3, f 4, f 5, f 6, f 7, f 8, f 9, f 10, f 11, f 12, f 13, f 14, f 15, f 16, f 17][j - 0]?.getD undef else F j)), .bool true])) W := by
  rw [list18 f F, hf]
  subst h0
  exact ⟨N, sl, rfl, by omega, fun k hk => (hR.ints k hk).keep hC (fun g hg e => by omega), hR.day.keep hC (fun g hg e => by omega), hC.below hB (fun i hi => Nat.le_of_eq hi.symm) hz⟩
set_option maxRecDepth 100000 in
set_option maxHeartbeats 16000000 in
theorem read_any (t : List UInt8) (ats : List (List UInt8)) (ps : List Part) (w : World) (ht : t.length ≤ 2000) (hsp : splitL 59 t = ats) (hal : ats.length = ps.length) (hsay : ∀ (i : Nat) a p, ats[i]? = some a → ps[i]? = some p → p.ssays a) (hnd : (ps.map Part.name).Nodup) (hf : [70, 82, 69, 81] ∈ ps.map Part.name) :
    Calls Tryz.prog 47 #[.string ⟨t.toArray⟩] w fun e w' => GivesRead (putS o1 ps) (huS false ps) w e w' := by
  have HC := Lib.hid fun W : World => cut_any ⟨t.toArray⟩ 59 W (by rw [Lib.size_eq]; simp; omega)
  rw [show splitL 59 (⟨t.toArray⟩ : ByteArray).data.toList = ats from hsp] at HC
  have h2000 : ¬ (2000 : Int) < ((⟨t.toArray⟩ : ByteArray).size : Int) := by rw [Lib.size_eq]; simp; omega
  have hp1 : 0 < ats.length := by rw [← hsp]; exact (splitL_len 59 t).1
  have hp2 : ats.length ≤ 2001 := by rw [← hsp]; have := (splitL_len 59 t).2; omega
  have HAL := Lib.hid hal
  have HSAY := Lib.hid hsay
  have HND := Lib.hid hnd
  have HF := Lib.hid hf
  obtain ⟨m, hm⟩ : ∃ m, m = ats.length := ⟨_, rfl⟩
  rw [← hm] at hp1 hp2
  have HM := Lib.hid hm
  obtain ⟨d25, hud⟩ := Go.Proofs.YtnlpjncljbaapaaGreatDoor.u25
  have HU := Lib.hid hud
  generalize (⟨t.toArray⟩ : ByteArray) = tb at *
  have hN0 := zRuleC_at w
  have hN1 := oneC_at (w.alloc (.cells zRule 25))
  have hMM := MapAt.new ((w.alloc (.cells zRule 25)).alloc (.cells oneC 25))
  have hb3 : Below w.heap.size w (((w.alloc (.cells zRule 25)).alloc (.cells oneC 25)).alloc (.map #[] 0)) := ((below_a1 (w := w) (o := .cells zRule 25)).alloc (by simp) _).alloc (by simp <;> omega) _
  have hz3 : (((w.alloc (.cells zRule 25)).alloc (.cells oneC 25)).alloc (.map #[] 0)).heap.size = w.heap.size + 3 := by simp
  have hmk := @run_makeMap Tryz.prog
  clear hsp hal hsay hnd hf hm hud ht
  go_enter Tryz.func47, Tryz.ntmps47
  unfold zRule at *
  unfold oneC at *
  go_upto_region 3 with fail
  generalize w.alloc (.cells #[.int .u8 0, .bool false, .int .i64 0, .int .i64 0, .int .i64 0, .int .i64 0, .bool false, .int .i64 0, .slice none 0 0, .slice none 0 0, .slice none 0 0, .slice none 0 0, .slice none 0 0, .slice none 0 0, .slice none 0 0, .slice none 0 0, .slice none 0 0, .slice none 0 0] 25) = w1 at *
  have hz1 : w1.heap.size = w.heap.size + 1 := by have := hz3; simp at this; omega
  go_wp2_with ((with_reducible refine gd_store 25 ?_); refine wpl_store_last rfl 25 _ _ rfl _ #[.int .u8 0, .bool false, .int .i64 0, .int .i64 1, .int .i64 0, .int .i64 0, .bool false, .int .i64 0, .slice none 0 0, .slice none 0 0, .slice none 0 0, .slice none 0 0, .slice none 0 0, .slice none 0 0, .slice none 0 0, .slice none 0 0, .slice none 0 0, .slice none 0 0] rfl rfl (by rw [info25s]; rfl) (by rfl) (by rfl) ?_)
  generalize hw3 : (w1.alloc (.cells #[.int .u8 0, .bool false, .int .i64 0, .int .i64 1, .int .i64 0, .int .i64 0, .bool false, .int .i64 0, .slice none 0 0, .slice none 0 0, .slice none 0 0, .slice none 0 0, .slice none 0 0, .slice none 0 0, .slice none 0 0, .slice none 0 0, .slice none 0 0, .slice none 0 0] 25)).alloc (.map #[] 0) = w3 at *
  have hR3 : RuleS w3 w1.heap.size o1 false fun _ => .slice none 0 0 := by rw [← hw3]; exact hN1.ch below_a1
  have hM3 : MapAt w3 (w1.heap.size + 1) [] := by
    have e : (w1.alloc (.cells #[.int .u8 0, .bool false, .int .i64 0, .int .i64 1, .int .i64 0, .int .i64 0, .bool false, .int .i64 0, .slice none 0 0, .slice none 0 0, .slice none 0 0, .slice none 0 0, .slice none 0 0, .slice none 0 0, .slice none 0 0, .slice none 0 0, .slice none 0 0, .slice none 0 0] 25)).heap.size = w1.heap.size + 1 := by simp
    rw [← hw3, ← e]; exact MapAt.new _
  have hZ3 : w3.rowIs w.heap.size 25 18 zRuleF := by rw [← hw3]; exact (hN0.alloc _).alloc _
  clear hw3 hN0 hN1 hMM
  obtain ⟨N0, hN0⟩ : ∃ N0, N0 = w.heap.size := ⟨_, rfl⟩
  obtain ⟨N, hN⟩ : ∃ N, N = w1.heap.size := ⟨_, rfl⟩
  have hNN : N = N0 + 1 := by omega
  have hz3' : w3.heap.size = N0 + 3 := by omega
  have HB3 := Lib.hid (show Below N0 w w3 by rw [hN0]; exact hb3)
  have HNE := Lib.hid hN0
  rw [← hN0] at hZ3
  rw [← hN] at hR3 hM3
  refine (HC.out _).mono ?_; rintro e w4 ⟨v4, m4, rfl, hown, hm4, hb4⟩
  obtain rfl : m4 = m := by rw [← hm4, HM.out]
  obtain ⟨q, c, rfl, hq⟩ := own_slice hown
  obtain ⟨g, rfl, hgB, hgl⟩ : ∃ g, q = some ⟨g, 0, none⟩ ∧ w3.heap.size ≤ g ∧ g < w4.heap.size := by
    rcases hq with h | h
    · omega
    · exact h
  have HST := Lib.hid (StrsAt.of_own hown)
  have HR4 := Lib.hid (hR3.ch hb4)
  have HM4 := Lib.hid (hM3.below hb4 (by omega))
  have HZ4 := Lib.hid (below_row hZ3 hb4 (by omega))
  have HB4 := Lib.hid (HB3.out.trans (hb4.mono (by omega)))
  have hw34 := hb4.size
  have hg0 : g ≠ N := by omega
  have hg1 : g ≠ N + 1 := by omega
  have hN4 : N + 1 < w4.heap.size := by omega
  have hN0N : N0 < N := by omega
  rw [← hN0, show N0 + 1 = N from hNN.symm]
  clear hNN hown hm4 hq hb4 hR3 hM3 hZ3 hb3 hz3 hz3' hN hN0 hw34 hgB hz1
  go_wp2_with fail
  go_loopw [7, 8, 18] (fun _ _ v wr => ∃ (k : Nat) (sl : Nat → Value), k ≤ m4 ∧ v = .int .i64 k ∧ Hid (RuleS wr N (putS o1 (ps.take k)) (huS false (ps.take k)) sl) ∧ Hid (MapAt wr (N + 1) (metL (ps.take k))) ∧ Hid (Ch (fun i => i = N ∨ i = N + 1) w4 wr)) (fun _ _ v _ => m4 - (intOf v).toNat)
  case atStart => exact ⟨0, _, Nat.zero_le _, rfl, HR4, HM4, Lib.hid (.refl _ _)⟩
  case round =>
    clear HR4 HM4
    obtain ⟨k, sl, hk, rfl, HR, HMp, HCH⟩ := hrel
    have hwr := HCH.out.size
    by_cases hkm : k < m4
    · have hka : k < ats.length := by have := HM.out; omega
      have hkp : k < ps.length := by have := HAL.out; omega
      have hx := List.getElem?_eq_getElem hka
      have hp := List.getElem?_eq_getElem hkp
      obtain ⟨v, ha, h61, hvl, hsv⟩ := HSAY.out k _ _ hx hp
      have hc : wr.cell? ⟨g, k, none⟩ = some (.string ⟨ats[k].toArray⟩) := (HCH.out.cell hgl (by rintro (h | h); exact hg0 h; exact hg1 h)).trans (HST.out k _ hx)
      have HTK := Lib.hid (show ps.take (k + 1) = ps.take k ++ [ps[k]] by rw [List.take_add_one, hp]; rfl)
      have hnn : ps[k].name ∉ (ps.take k).map Part.name := by
        have h1 := HND.out
        have h2 : ps = ps.take k ++ ps.drop k := (List.take_append_drop k ps).symm
        rw [h2, List.map_append, List.nodup_append] at h1
        intro h3
        exact h1.2.2 _ h3 _ (List.mem_map.2 ⟨ps[k], by rw [List.drop_eq_getElem_cons hkp]; exact List.mem_cons_self, rfl⟩) rfl
      generalize ps[k] = pk at *
      have hsp61 : splitL 61 ats[k] = [pk.name, v] := by rw [ha, splitL_app pk.name_eq, splitL_one h61]
      have hal : ats[k].length ≤ 3000 := by rw [ha, List.length_append, List.length_cons]; have := pk.name_len; omega
      have HC61 := Lib.hid fun W : World => cut_any ⟨ats[k].toArray⟩ 61 W (by rw [Lib.size_eq]; simp; omega)
      rw [show splitL 61 (⟨ats[k].toArray⟩ : ByteArray).data.toList = [pk.name, v] from hsp61] at HC61
      generalize (⟨ats[k].toArray⟩ : ByteArray) = ab at *
      have hki : (0 : Int) ≤ ((k : Nat) : Int) := by omega
      have hkni : ((k : Nat) : Int) < ((m4 : Nat) : Int) := by omega
      have HSV := Lib.hid hsv
      have HNN := Lib.hid hnn
      clear hx hp ha h61 hvl hsv hsp61 hal hnn
      go_wp2_with fail
      refine (HC61.out _).mono ?_; rintro e w5 ⟨v5, m5, rfl, hown5, hm5, hb5⟩
      obtain rfl : m5 = 2 := by rw [← hm5]; rfl
      obtain ⟨q5, c5, rfl, hq5⟩ := own_slice hown5
      obtain ⟨g5, rfl, hg5, hg6⟩ : ∃ g, q5 = some ⟨g, 0, none⟩ ∧ wr.heap.size ≤ g ∧ g < w5.heap.size := by
        rcases hq5 with h | h
        · omega
        · exact h
      have hst5 := StrsAt.of_own hown5
      have x0 : w5.cell? ⟨g5, 0, none⟩ = some (.string ⟨pk.name.toArray⟩) := hst5 0 _ rfl
      have x1 : w5.cell? ⟨g5, 1, none⟩ = some (.string ⟨v.toArray⟩) := hst5 1 _ rfl
      have hR5 := HR.out.ch hb5
      have hM5 := HMp.out.below hb5 (by omega)
      have hC5 := HCH.out.trans (Ch.of_below (X := fun i => i = N ∨ i = N + 1) hb5 (Nat.le_refl _))
      have hlk := run_lookup1_str Tryz.underlying149 Tryz.underlying9 (.bool false) zero4 hM5 ⟨pk.name.toArray⟩
      rw [look_none _ _ HNN.out] at hlk
      obtain ⟨w6, hmu, hM6, hg6r⟩ := run_insert_str (P := Tryz.prog) Tryz.underlying149 Tryz.underlying9 hM5 ⟨pk.name.toArray⟩ (.bool true) (look_none _ _ HNN.out)
      have hC6' : Ch (fun i => i = N + 1) w5 w6 := Ch.of_grown (X := fun i => i = N + 1) hg6r (fun i e => by injection e with e; exact e.symm)
      have hg5N : g5 ≠ N + 1 := by omega
      have y0 : w6.cell? ⟨g5, 0, none⟩ = some (.string ⟨pk.name.toArray⟩) := (hC6'.cell hg6 hg5N).trans x0
      have y1 : w6.cell? ⟨g5, 1, none⟩ = some (.string ⟨v.toArray⟩) := (hC6'.cell hg6 hg5N).trans x1
      have hR6 : RuleS w6 N (putS o1 (ps.take k)) (huS false (ps.take k)) sl := hR5.off hC6'
      have HR6 := Lib.hid hR6
      have HM6 := Lib.hid hM6
      have HC6 := Lib.hid (hC5.trans (hC6'.mono fun i _ h => .inr h))
      have HPT := Lib.hid fun (W : World) (h : RuleS W N (putS o1 (ps.take k)) (huS false (ps.take k)) sl) (h1 : N + 1 < W.heap.size) => part_any pk v N _ _ sl W HSV.out h h1
      obtain ⟨nb, hnb⟩ : ∃ nb : ByteArray, nb = ⟨pk.name.toArray⟩ := ⟨_, rfl⟩
      obtain ⟨vb, hvb⟩ : ∃ vb : ByteArray, vb = ⟨v.toArray⟩ := ⟨_, rfl⟩
      rw [← hnb] at x0 hlk hmu y0 HPT
      rw [← hvb] at x1 y1 HPT
      have HNB := Lib.hid hnb
      have hlk2 : Sem.run Tryz.prog (Instr.lookup 149 (.map (some (N + 1))) (.string nb) false) w5 = .ok (.bool false) w5 := hlk
      clear hnb hvb hst5 hown5 hm5 hq5 hb5 hR5 hM5 hC5 hlk hM6 hg6r hC6' hR6 hg5 hg6
      have hdr : RuleS w6.drew N (putS o1 (ps.take k)) (huS false (ps.take k)) sl := HR6.out.ch ((Below.refl _ _).drew)
      have hN6 : N + 1 < w6.drew.heap.size := Nat.lt_of_lt_of_le hN4 HC6.out.size
      have HP6 := Lib.hid (HPT.out _ hdr hN6)
      clear hdr hN6 HPT
      go_upto_region 12 with fail
      clear x0 x1 hlk2 hmu
      go_region_law (go_simp; go_at_call 85; refine HP6.out.mono ?_; rintro e w7 ⟨sl7, rfl, hR7, hch7⟩)
      all_goals
        have HR7 := Lib.hid hR7
        have hM7 : MapAt w7 (N + 1) (metL (ps.take k) ++ [(nb, .bool true)]) := by
          have hm6 := HM6.out
          rw [← HNB.out] at hm6
          obtain ⟨es, cl, hh, he⟩ := hm6
          exact ⟨es, cl, (hch7.block (N + 1) (Array.getElem?_eq_some_iff.1 hh).1 (by show ¬ N + 1 = N; omega)).trans hh, he⟩
        have HM7 := Lib.hid hM7
        have HC7 := Lib.hid (HC6.out.trans (show Ch (fun i => i = N ∨ i = N + 1) w6 w7 from ⟨hch7.os, hch7.tape, hch7.output, hch7.size, fun i hi hx => hch7.block i hi (fun e => hx (.inl e))⟩))
        clear hR7 hM7 hch7
        go_wp2_with fail
        go_roundw
        case rel =>
          refine ⟨k + 1, sl7, by omega, by go_num, Lib.hid ?_, Lib.hid ?_, HC7⟩
          · rw [HTK.out, putS_snoc, huS_snoc]; exact HR7.out
          · rw [HTK.out]
            have : metL (ps.take k ++ [pk]) = metL (ps.take k) ++ [(nb, .bool true)] := by rw [HNB.out]; simp [metL]
            rw [this]; exact HM7.out
        case measure => simp [intOf]; omega
    · obtain rfl : k = m4 := by omega
      have hT : ps.take k = ps := List.take_of_length_le (by have := HM.out; have := HAL.out; omega)
      rw [hT] at HR HMp
      have HLF := Lib.hid fun (W : World) (hW : Ch (fun i => i = N0) wr W) => (show Sem.run Tryz.prog (Instr.lookup 149 (.map (some (N + 1))) (.string ⟨#[70, 82, 69, 81]⟩) false) W = .ok (.bool true) W from by
        obtain ⟨es, cl, hh, he⟩ := HMp.out
        have hm : MapAt W (N + 1) (metL ps) := ⟨es, cl, (hW.block (N + 1) (Array.getElem?_eq_some_iff.1 hh).1 (by show ¬ N + 1 = N0; omega)).trans hh, he⟩
        have := run_lookup1_str Tryz.underlying149 Tryz.underlying9 (.bool false) zero4 hm ⟨#[70, 82, 69, 81]⟩
        rw [show (⟨#[70, 82, 69, 81]⟩ : ByteArray) = ⟨([70, 82, 69, 81] : List UInt8).toArray⟩ from rfl, look_some ps _ HF.out] at this
        exact this)
      have HNR := Lib.hid fun (W : World) (hW : Ch (fun i => i = N0) wr W) => HR.out.row.of_block (hW.block N HR.out.row.lt (by show ¬ N = N0; omega))
      have hz0 : wr.rowIs N0 25 18 zRuleF := HZ4.out.of_block (HCH.out.block N0 HZ4.out.lt (by rintro (h | h) <;> omega))
      have HZR := Lib.hid fun (W : World) (hW : Ch (fun i => i = N0) wr W) => hW
      obtain ⟨f, hf⟩ : ∃ f, f = sF (putS o1 ps) (huS false ps) sl := ⟨_, rfl⟩
      have hone := sF_one HR.out
      rw [← hf] at HNR hone
      have hall : (#[f 0, f 1, f 2, f 3, f 4, f 5, f 6, f 7, f 8, f 9, f 10, f 11, f 12, f 13, f 14, f 15, f 16, f 17] : Array Value).all (·.oneCell') = true := by
        have o0 := hone 0 (by omega)
        have o1 := hone 1 (by omega)
        have o2 := hone 2 (by omega)
        have o3 := hone 3 (by omega)
        have o4 := hone 4 (by omega)
        have o5 := hone 5 (by omega)
        have o6 := hone 6 (by omega)
        have o7 := hone 7 (by omega)
        have o8 := hone 8 (by omega)
        have o9 := hone 9 (by omega)
        have o10 := hone 10 (by omega)
        have o11 := hone 11 (by omega)
        have o12 := hone 12 (by omega)
        have o13 := hone 13 (by omega)
        have o14 := hone 14 (by omega)
        have o15 := hone 15 (by omega)
        have o16 := hone 16 (by omega)
        have o17 := hone 17 (by omega)
        simp [o0, o1, o2, o3, o4, o5, o6, o7, o8, o9, o10, o11, o12, o13, o14, o15, o16, o17]
      have HALL := Lib.hid hall
      have HFE := Lib.hid hf
      have HZ0 := Lib.hid hz0
      have HBr := Lib.hid (show Below N0 w wr from HCH.out.below HB4.out (fun i hi => by rcases hi with h | h <;> omega) (by omega))
      have hN0z : N0 ≤ wr.heap.size := Nat.le_of_lt HZ0.out.lt
      clear hall hone hf hz0
      go_upto_region 15 with fail
      refine wp_region_noPanic ?_
      refine wp_region_held_drew (S := (fun W : World => Ch (fun i => i = N0) wr W ∧ ∃ F, W.rowIs N0 25 18 F)) (by kernel_rfl) ⟨Ch.of_below ((Below.refl _ _).drew) (Nat.le_refl _), ⟨_, below_row HZ0.out ((Below.refl _ _).drew) HZ0.out.lt⟩⟩ (fun hHeld => ?_)
      refine wpAnyH_take (i := 0) (arr_at rfl) (by as_aux_lemma => kernel_rfl) (by as_aux_lemma => kernel_rfl) (by as_aux_lemma => kernel_rfl) (fun _ _ _ h => h) (yieldsIf_load_mid (by rfl) 25 _ rfl N 0 rfl [f 0, f 1, f 2, f 3, f 4, f 5, f 6, f 7, f 8, f 9, f 10, f 11, f 12, f 13, f 14, f 15, f 16, f 17] _ (fun W hS => by have := rowIs_range (HNR.out W hS.1) 0 18 (by omega); exact this) Tryz.underlying25 rfl info25s) hHeld ?_
      simp only [Act.put, List.setIfInBounds_toArray, List.set_cons_zero, List.set_cons_succ]
      refine wpAnyH_take (i := 1) (v := ?_) (arr_at rfl) (by as_aux_lemma => kernel_rfl) (by as_aux_lemma => kernel_rfl) (by as_aux_lemma => kernel_rfl) (fun _ _ _ h => h) (Or.inl ⟨by rfl, ?_⟩) hHeld ?_
      rotate_left
      · intro w hSw
        (try dsimp only at hSw)
        go_simp
        all_goals with_reducible rfl
      try simp only [Act.put, List.setIfInBounds_toArray, List.set_cons_zero, List.set_cons_succ]
      refine wpAnyH_take (i := 2) (v := ?_) (arr_at rfl) (by as_aux_lemma => kernel_rfl) (by as_aux_lemma => kernel_rfl) (by as_aux_lemma => kernel_rfl) (fun _ _ _ h => h) (Or.inl ⟨by rfl, ?_⟩) hHeld ?_
      rotate_left
      · intro w hSw
        (try dsimp only at hSw)
        have hl := HLF.out w hSw.1
        go_simp
        all_goals with_reducible rfl
      try simp only [Act.put, List.setIfInBounds_toArray, List.set_cons_zero, List.set_cons_succ]
      refine wpAnyH_ready (rs := [3]) (by as_aux_lemma => kernel_rfl) (by simp) ?_
      refine AllReadyH.cons (arr_at rfl) (fun K hK => ?_) ?_
      ·
        rw [if_pos (by rfl)]
        obtain ⟨F, hF⟩ := hHeld.2
        have hC := hHeld.1
        refine wp_store_mid 25 _ _ rfl _ 0 _ rfl rfl (rowIs_there hF 0 18 (by omega)) info25s HALL.out ?_
        refine hK.out _ _ ?_ (fun hNew => ?_)
        · exact ⟨hC.trans (Ch.of_grown (setCells_grown _ _ _ (World.grownBy.refl _ _)) (fun g e => by injection e with e; exact e.symm)), ⟨_, setCells_row _ 0 _ _ hF⟩⟩
        clear hK K hHeld
        have hHeld := hNew
        clear hNew
        have hRW := setCells_row [f 0, f 1, f 2, f 3, f 4, f 5, f 6, f 7, f 8, f 9, f 10, f 11, f 12, f 13, f 14, f 15, f 16, f 17] 0 _ _ hF
        have hC2 := hHeld.1
        try simp only [Act.put]
        refine wpAnyH_take (i := 4) (v := ?_) (arr_at rfl) (by as_aux_lemma => kernel_rfl) (by as_aux_lemma => kernel_rfl) (by as_aux_lemma => kernel_rfl) (fun _ _ _ h => h) (Or.inl ⟨by rfl, ?_⟩) hHeld ?_
        rotate_left
        · intro w hSw
          (try dsimp only at hSw)
          go_simp
          all_goals with_reducible rfl
        try simp only [Act.put, List.setIfInBounds_toArray, List.set_cons_zero, List.set_cons_succ]
        refine wpAnyH_done (by as_aux_lemma => kernel_rfl) ?_ _
        refine NoPanic.normal ?_
        go_wp2_with fail
        refine bodyPost_ret (results_row2 rfl _ N0 25 18 _ (by rfl) hRW d25 HU.out.1 HU.out.2 info25s) rfl ?_
        exact GivesRead.mk' HFE.out HR.out hC2 hN0N HNE.out HBr.out hN0z
      exact AllReadyH.nil
end Go.Proofs.YtnlpjncljbaapaaGreatDoor
