/- StrSliceToRRuleSetInLoc, walked. -/
import Derived.Test.YtnlpjncljbaapaaGreatDoorLs
import Derived.BigQuiet
import Derived.Deep.RegionHeld3
namespace Go.Proofs.YtnlpjncljbaapaaGreatDoor
open Go.RowKit

def set0 : Array Value := #[.int .i64 0, .int .i64 0, .pointer none, .slice none 0 0, .slice none 0 0]
theorem set0_row (w : World) : (w.alloc (.cells set0 132)).rowIs w.heap.size 132 5 (setF 0 (.pointer none) (.slice none 0 0) (.slice none 0 0)) :=
  World.rowIs_alloc w set0 132 _ fun i hi => by
    match i, hi with
    | 0, _ => rfl
    | 1, _ => rfl
    | 2, _ => rfl
    | 3, _ => rfl
    | 4, _ => rfl
    | i + 5, h => exact absurd h (by show ¬ i + 5 < 5; omega)
theorem holdsI_hi {w : World} {G : Nat} {v : Value} {l : List Int} (h : HoldsI w G v l) (g : Nat) (hg : slP v = some ⟨g, 0, none⟩) : g < w.heap.size := by
  rcases h with ⟨rfl, rfl⟩ | ⟨g, rfl, _, _, hz⟩
  · cases hg
  · injection hg with hg; injection hg with hg; omega
theorem holdsD_hi {w : World} {G : Nat} {v : Value} {l : List (Int × Int)} (h : HoldsD w G v l) (g : Nat) (hg : slP v = some ⟨g, 0, none⟩) : g < w.heap.size := by
  rcases h with ⟨rfl, rfl⟩ | ⟨g, rfl, _, _, hz⟩
  · cases hg
  · injection hg with hg; injection hg with hg; omega
theorem OptAt.offHi {w : World} {G G' : Nat} {o : Opt} {sl : Nat → Value} (h : OptAt w G o sl) (hG : w.heap.size ≤ G') : SlOff sl G' := fun k _ _ g hg => by
  by_cases hk : k = 14
  · subst hk; have := holdsD_hi h.day g hg; omega
  · have := holdsI_hi (h.ints k hk) g hg; omega
theorem OptAt.under {w : World} {G : Nat} {o : Opt} {sl : Nat → Value} (h : OptAt w G o sl) : SlUnder sl w.heap.size := fun k _ _ g hg => by
  by_cases hk : k = 14
  · subst hk; exact holdsD_hi h.day g hg
  · exact holdsI_hi (h.ints k hk) g hg
theorem ruleIn_snoc (l : List Item) (r : Bool) (ts : List Int) : ruleIn (l ++ [.dates r ts]) = ruleIn l := by
  unfold ruleIn
  rw [List.findSome?_append]
  cases l.findSome? Item.opt? <;> rfl
theorem ruleIn_rule {l : List Item} (o : Opt) (h : ruleIn l = none) : ruleIn (l ++ [.rule o]) = some o := by
  unfold ruleIn at h ⊢
  rw [List.findSome?_append, h]
  rfl
theorem ruleIn_none {l : List Item} (h : ∀ o, Item.rule o ∉ l) : ruleIn l = none := by
  unfold ruleIn
  rw [List.findSome?_eq_none_iff]
  intro x hx
  cases x with
  | rule o => exact absurd hx (h o)
  | dates _ _ => rfl
  | bad => rfl
theorem datesOf_rule (b : Bool) (l : List Item) (o : Opt) : datesOf b (l ++ [.rule o]) = datesOf b l := by simp [datesOf]
theorem datesOf_snoc (b : Bool) (l : List Item) (r : Bool) (ts : List Int) : datesOf b (l ++ [.dates r ts]) = datesOf b l ++ bif r == b then ts else [] := by simp [datesOf]
def GivesSet (t : Int) (its : List Item) (w : World) (e : Ending) (w' : World) : Prop :=
  ∃ S B rp rd ex, e = .returned (.tuple #[.pointer (some ⟨S, 0, none⟩), .nilIface]) ∧ SetAt w' S B t (ruleIn its) (datesOf true its) (datesOf false its) rp rd ex ∧ w.heap.size ≤ S ∧ Below w.heap.size w w'
def GivesLines (t : Int) (its : List Item) (w : World) (e : Ending) (w' : World) : Prop := (Item.bad ∈ its → GivesErr w e w') ∧ (Item.bad ∉ its → GivesSet t its w e w')

set_option maxRecDepth 100000 in
set_option maxHeartbeats 8000000 in
theorem lines_any (ls : List (List UInt8)) (its : List Item) (d : List UInt8) (r0 : ByteArray) (t : Int) (g cap : Nat) (w : World) (hG : Glob w) (hst : StrsAt w g (d :: ls)) (hg : g < w.heap.size) (hcap : ls.length + 1 ≤ cap) (hn : ls.length ≤ 1000)
    (hd : Named ⟨d.toArray⟩ dtB r0) (ht : 0 < t ∧ t < 315537897600) (hd2 : ∀ W, Calls Tryz.prog 97 #[.string r0, .agg #[]] W fun e w' => GivesTime t W e w')
    (hlen : its.length = ls.length) (hl : ∀ (k : Nat) l it, ls[k]? = some l → its[k]? = some it → LineIs ⟨l.toArray⟩ it) (hr : ∀ (j k : Nat) o o', its[j]? = some (.rule o) → its[k]? = some (.rule o') → j = k) :
    Calls Tryz.prog 55 #[.slice (some ⟨g, 0, none⟩) (ls.length + 1) cap, .agg #[]] w fun e w' => GivesLines t its w e w' := by
  have HD := Lib.hid hd
  have HD2 := Lib.hid hd2
  have HT := Lib.hid hst
  have HGl := Lib.hid hG
  have hc0 := hst 0 _ rfl
  obtain ⟨m, hm⟩ : ∃ m, m = ls.length + 1 := ⟨_, rfl⟩
  have Hm := Lib.hid hm
  rw [← hm] at hcap ⊢
  have hm0 : (((m : Nat) : Int) == 0) = false := by rw [beq_eq_false_iff_ne]; omega
  have hm1 : (0 : Int) < ((m : Nat) : Int) := by omega
  have hSR := (set0_row (w.alloc (.cells #[] 106)))
  have hSB : Below w.heap.size w ((w.alloc (.cells #[] 106)).alloc (.cells set0 132)) := below_a1.alloc (by simp) _
  have HSR := Lib.hid hSR
  have HSB := Lib.hid hSB
  have HGW := Lib.hid (HGl.out.on hSB)
  have hzw : ((w.alloc (.cells #[] 106)).alloc (.cells set0 132)).heap.size = w.heap.size + 2 := by simp
  have Hzw := Lib.hid hzw
  clear hd hd2 hst hG hSR hSB hm hzw
  go_enter Tryz.func55, Tryz.ntmps55
  go_wp2_with fail
  refine (HD.out.call _ HGW.out).mono ?_; rintro e w1 ⟨rfl, hb1⟩
  have hS1 := below_row HSR.out hb1 HSR.out.lt
  have hB1 := HSB.out.trans (hb1.mono (B' := w.heap.size) HSB.out.size)
  have HG1 := Lib.hid (HGW.out.on hb1)
  have hz1 : w.heap.size + 2 ≤ w1.heap.size := Hzw.out ▸ hb1.size
  rw [show (w.alloc (.cells #[] 106)).heap.size = w.heap.size + 1 from by simp] at hS1
  have HS1 := Lib.hid hS1
  have HB1 := Lib.hid hB1
  have hc1 : w1.cell? ⟨g, 0, none⟩ = some (.string ⟨d.toArray⟩) := (HB1.out.cell hg).trans hc0
  clear HSR HSB hb1 HGW Hzw hS1 hB1 hc0
  have hdt : (dtB.toList == [68, 84, 83, 84, 65, 82, 84]) = true := by kernel_rfl
  have hds : dtB.size = 7 := rfl
  have hd7 : 8 ≤ (⟨d.toArray⟩ : ByteArray).size := HD.out.size
  have hdx : (⟨d.toArray⟩ : ByteArray).extract 8 (⟨d.toArray⟩ : ByteArray).size = r0 := HD.out.ext
  have hdtop := HD.out.top
  generalize (⟨d.toArray⟩ : ByteArray) = db at *
  have hd8 : (8 : Int) ≤ (db.size : Int) := by omega
  have hne1 : g ≠ w1.heap.size := by omega
  have hne2 : w1.heap.size ≠ g := by omega
  have hm2 : 0 < m := by omega
  have e8 : IntKind.i64.wrap ((dtB.size : Int) + 1) = 8 := by rw [hds]; rfl
  have e9 : IntKind.i64.wrap 8 = 8 := rfl
  generalize dtB = nm at *
  go_wp2_with fail
  go_cut [9, 10] from 41 to 53 (fun v9 v10 wc => ∃ b, v9 = .pointer (some ⟨b, 0, none⟩) ∧ v10 = .nilIface ∧ wc.cell? ⟨b, 0, none⟩ = some (.int .i64 t) ∧ wc.cell? ⟨b, 1, none⟩ = some (.int .i64 0) ∧ b < wc.heap.size ∧ Below w1.heap.size w1 wc ∧ w1.heap.size ≤ b)
  case first =>
    go_region_held3 (fun w' => w'.cell? ⟨g, 0, none⟩ = some (.string db))
      (first | go_keep | (rw [hb2.cell (p := ⟨g, 0, none⟩) (by simp; omega)]; assumption) | exact (cell_old hz2).trans ((hb2.cell (p := ⟨g, 0, none⟩) (by simp; omega)).trans (by assumption)))
      ((go_at_call 97; refine (HD2.out _).mono ?_; rintro e w2 ⟨rfl, hb2⟩; have hz2 : g < w2.heap.size := Nat.lt_of_lt_of_le (by simp; omega) hb2.size; try obtain ⟨c0, c1, f0, f1, hzz⟩ : w2.cell? ⟨w1.heap.size, 0, none⟩ = some (.int .i64 0) ∧ w2.cell? ⟨w1.heap.size, 1, none⟩ = some (.int .i64 0) ∧ w2.frozen? ⟨w1.heap.size, 0, none⟩ = false ∧ w2.frozen? ⟨w1.heap.size, 1, none⟩ = false ∧ w1.heap.size < w2.heap.size := keep2 (w := w1.drew) (t := 109) (hb2.mono (by simp))))
    · go_wp2_with fail
      go_meet
      case rel =>
        refine ⟨_, rfl, rfl, ?_, ?_, ?_, ((Below.refl w1.heap.size w1).drew.trans (hb2.mono (by simp))).alloc ?_ _, ?_⟩
        · simp
        · simp
        · simp
        · have := hb2.size; simpa using this
        · have := hb2.size; simpa using this
    · go_wp2_with fail
      go_meet
      case rel =>
        refine ⟨_, rfl, rfl, ?_, ?_, ?_, ((((Below.refl w1.heap.size w1).drew.alloc (by simp) _).trans (hb2.mono (by simp))).setCell (by simp) _).setCell (by simp) _, ?_⟩
        · rw [World.cell?_setCell_other _ _ _ _ (by simp)]; exact World.cell?_setCell_same' _ _ _ (by rw [c0]; rfl)
        · exact World.cell?_setCell_same' _ _ _ (by rw [World.cell?_setCell_other _ _ _ _ (by simp), c1]; rfl)
        · simpa using hzz
        · exact Nat.le_refl _
  case rest =>
    clear hdt hds hd7 hdx hd8 e8 e9
    obtain ⟨b, rfl, rfl, hb0, hb1, hbz, hbb, hbl⟩ := hcut
    have HSc := Lib.hid (below_row HS1.out hbb HS1.out.lt)
    have HBc := Lib.hid (HB1.out.trans (hbb.mono (B' := w.heap.size) HB1.out.size))
    have HGc := Lib.hid (HG1.out.on hbb)
    have hzc := hbb.size
    clear HS1 HB1 HG1 hbb hc1
    go_wp2_with fail
    refine (location_any t 0 _).mono ?_; rintro e w3 ⟨rfl, hb3⟩
    have HS3 := Lib.hid (below_row HSc.out hb3 HSc.out.lt)
    have HB3 := Lib.hid (HBc.out.trans (hb3.mono (B' := w.heap.size) HBc.out.size))
    have HG3 := Lib.hid (HGc.out.on hb3)
    have hz3 := hb3.size
    have hc30 : w3.cell? ⟨b, 0, none⟩ = some (.int .i64 t) := (hb3.cell hbz).trans hb0
    have hc31 : w3.cell? ⟨b, 1, none⟩ = some (.int .i64 0) := (hb3.cell hbz).trans hb1
    clear HSc HBc HGc hb3 hb0 hb1
    go_wp2_with fail
    have hst0 := sStart_any (st := t) HS3.out
    refine hst0.mono ?_; rintro e w4 ⟨rfl, hr4, hg4⟩
    have hB4 := HB3.out.grown hg4 HB3.out.size (fun k hk => by injection hk with hk; omega)
    have hS4 : SetAt w4 (w.heap.size + 1) w4.heap.size t none [] [] (.pointer none) (.slice none 0 0) (.slice none 0 0) :=
      ⟨hr4, rfl, own_nil _ _ _ _, own_nil _ _ _ _, fun g h => (by cases h), hr4.lt, Nat.le_refl _⟩
    have HS4 := Lib.hid hS4
    have HB4 := Lib.hid hB4
    have hz4 := hg4.size
    clear HS3 HB3 hr4 hg4 hB4 hS4 hst0 HG3 hc30 hc31
    go_upto_region 13 with fail
    go_cut [0] from 54 to 62 (fun v0 wd => ∃ o c, v0 = .slice (some ⟨g, o, none⟩) (m - 1) c ∧ m - 1 ≤ c ∧ (m = 1 ∨ o = 1) ∧ wd = w4)
    case first =>
      go_wp2_with fail
      case inl h =>
        subst h
        go_meet
        case rel => exact ⟨_, _, rfl, by omega, .inl (by omega), rfl⟩
      case inr h =>
        go_meet
        case rel => exact ⟨1, cap - 1, rfl, by omega, .inr rfl, rfl⟩
    case rest =>
      obtain ⟨o, c, rfl, hc, ho, rfl⟩ := hcut
      obtain ⟨n, hnn⟩ : ∃ n, n = ls.length := ⟨_, rfl⟩
      have hmn : m - 1 = n := by have := Hm.out; omega
      have ho' : n = 0 ∨ o = 1 := by omega
      rw [hmn] at hc ⊢
      have Hn := Lib.hid hnn
      have HBa := HB4
      clear hnn hmn ho Hm hm0 hm1 hm2 hcap
      go_wp2_with fail
      go_loopw [64] (fun v wr => ∃ k : Nat, k ≤ n ∧ v = .int .i64 k ∧ Item.bad ∉ its.take k ∧ (∃ B rp rd ex, SetAt wr (w.heap.size + 1) B t (ruleIn (its.take k)) (datesOf true (its.take k)) (datesOf false (its.take k)) rp rd ex) ∧ Below w.heap.size w wr ∧ Hid (∀ b, (datesOf b (its.take k)).length ≤ 1000 * k)) (fun v _ => n - (intOf v).toNat)
      case atStart => exact ⟨0, Nat.zero_le _, rfl, by simp, ⟨_, _, _, _, HS4.out⟩, HB4.out, fun b => Nat.le_of_eq rfl⟩
      case round =>
        clear HB4 HBa HS4
        obtain ⟨k, hk, rfl, hnb, ⟨B, rp, rd, ex, hS⟩, hB, HLN⟩ := hrel
        have HS := Lib.hid hS
        have HB := Lib.hid hB
        have HNB := Lib.hid hnb
        clear hS hB hnb
        by_cases hkn : k < n
        · obtain rfl : o = 1 := by omega
          have hkl : k < ls.length := by have := Hn.out; omega
          have hki : k < its.length := by omega
          have hI := hl k ls[k] its[k] (List.getElem?_eq_getElem hkl) (List.getElem?_eq_getElem hki)
          have hR : ∀ op, its[k] = .rule op → ruleIn (its.take k) = none := fun op ho => ruleIn_none fun o' hm => by
            obtain ⟨j, hj⟩ := List.getElem?_of_mem hm
            have hjk : j < k := by
              have := (List.getElem?_eq_some_iff.1 hj).1
              rw [List.length_take] at this
              omega
            rw [List.getElem?_take_of_lt hjk] at hj
            have := hr j k o' op hj (by rw [List.getElem?_eq_getElem hki, ho])
            omega
          have hc4 : wr.cell? ⟨g, 1 + k, none⟩ = some (.string ⟨ls[k].toArray⟩) := (HB.out.cell hg).trans (HT.out (1 + k) _ (by rw [Nat.add_comm, List.getElem?_cons_succ]; exact List.getElem?_eq_getElem hkl))
          have hT : its.take (k + 1) = its.take k ++ [its[k]] := by rw [List.take_add_one, List.getElem?_eq_getElem hki]; rfl
          have HT1 := Lib.hid hT
          have HMem := Lib.hid (List.getElem_mem hki)
          clear hT
          generalize its[k] = it at *
          generalize (⟨ls[k].toArray⟩ : ByteArray) = lb at *
          have HI := Lib.hid hI
          have HR := Lib.hid hR
          clear hI hR hkl hki ho'
          go_wp2_with fail
          have HGw := Lib.hid (HGl.out.on HB.out)
          cases it with
          | bad =>
            rcases HI.out with h | ⟨r, hN, hC⟩ | ⟨b', r, hN, hC⟩
            · refine (h _ HGw.out).mono ?_; rintro e w5 ⟨⟨p, rfl⟩, hb5⟩
              have HB5 := Lib.hid (HB.out.trans (hb5.mono (B' := w.heap.size) HB.out.size))
              go_wp2_with fail
              go_ret2
              exact ⟨fun _ => ⟨⟨_, rfl⟩, HB5.out⟩, fun h => absurd HMem.out h⟩
            · refine (hN.call _ HGw.out).mono ?_; rintro e w5 ⟨rfl, hb5⟩
              have HB5 := Lib.hid (HB.out.trans (hb5.mono (B' := w.heap.size) HB.out.size))
              have HG5 := Lib.hid (HGw.out.on hb5)
              have hs6 : 6 ≤ lb.size := hN.size
              have hs6' : (6 : Int) ≤ (lb.size : Int) := by omega
              have hx : lb.extract 6 lb.size = r := hN.ext
              have htop := hN.top
              have hrs : ruleB.size = 5 := rfl
              have e6 : IntKind.i64.wrap 6 = 6 := rfl
              have hrl : (ruleB.toList == [82, 82, 85, 76, 69]) = true := by kernel_rfl
              go_wp2_with fail
              refine (hC _ HG5.out).mono ?_; rintro e w6 ⟨⟨p, rfl⟩, hb6⟩
              have HB6 := Lib.hid (HB5.out.trans (hb6.mono (B' := w.heap.size) HB5.out.size))
              go_wp2_with fail
              refine (errNew_any _ _).mono ?_; rintro e w7 ⟨rfl, rfl⟩
              go_wp2_with fail
              go_ret2
              exact ⟨fun _ => ⟨⟨_, rfl⟩, HB6.out.alloc HB6.out.size _⟩, fun h => absurd HMem.out h⟩
            · have hs6 : (dateB b').size + 1 ≤ lb.size := hN.size
              have hx := hN.ext
              have htop := hN.top
              cases b' with
              | true =>
                refine (hN.call _ HGw.out).mono ?_; rintro e w5 ⟨rfl, hb5⟩
                have HB5 := Lib.hid (HB.out.trans (hb5.mono (B' := w.heap.size) HB.out.size))
                have hs6 : 6 ≤ lb.size := hs6
                have hs6' : (6 : Int) ≤ (lb.size : Int) := by omega
                have hx : lb.extract 6 lb.size = r := hx
                have hrs : rdateB.size = 5 := rfl
                have e6 : IntKind.i64.wrap 6 = 6 := rfl
                have hrl : (rdateB.toList == [82, 82, 85, 76, 69]) = false := by kernel_rfl
                have hrl2 : (rdateB.toList == [82, 68, 65, 84, 69]) = true := by kernel_rfl
                simp only [dateB, cond_true]
                go_wp2_with fail
                refine (hC _).mono ?_; rintro e w6 ⟨⟨p, rfl⟩, hb6⟩
                have HB6 := Lib.hid (HB5.out.trans (hb6.mono (B' := w.heap.size) HB5.out.size))
                go_wp2_with fail
                refine (errNew_any _ _).mono ?_; rintro e w7 ⟨rfl, rfl⟩
                go_wp2_with fail
                go_ret2
                exact ⟨fun _ => ⟨⟨_, rfl⟩, HB6.out.alloc HB6.out.size _⟩, fun h => absurd HMem.out h⟩
              | false =>
                refine (hN.call _ HGw.out).mono ?_; rintro e w5 ⟨rfl, hb5⟩
                have HB5 := Lib.hid (HB.out.trans (hb5.mono (B' := w.heap.size) HB.out.size))
                have hs6 : 7 ≤ lb.size := hs6
                have hs6' : (7 : Int) ≤ (lb.size : Int) := by omega
                have hx : lb.extract 7 lb.size = r := hx
                have hrs : exdateB.size = 6 := rfl
                have e6 : IntKind.i64.wrap 7 = 7 := rfl
                have hrl : (exdateB.toList == [82, 82, 85, 76, 69]) = false := by kernel_rfl
                have hrl2 : (exdateB.toList == [82, 68, 65, 84, 69]) = false := by kernel_rfl
                have hrl3 : (exdateB.toList == [69, 88, 68, 65, 84, 69]) = true := by kernel_rfl
                simp only [dateB, cond_false]
                go_wp2_with fail
                refine (hC _).mono ?_; rintro e w6 ⟨⟨p, rfl⟩, hb6⟩
                have HB6 := Lib.hid (HB5.out.trans (hb6.mono (B' := w.heap.size) HB5.out.size))
                go_wp2_with fail
                refine (errNew_any _ _).mono ?_; rintro e w7 ⟨rfl, rfl⟩
                go_wp2_with fail
                go_ret2
                exact ⟨fun _ => ⟨⟨_, rfl⟩, HB6.out.alloc HB6.out.size _⟩, fun h => absurd HMem.out h⟩
          | rule op =>
            obtain ⟨hOG, r, hN, hC⟩ := HI.out
            have hno := HR.out op rfl
            have HNO := Lib.hid hno
            have hn1000 : n ≤ 1000 := by have := Hn.out; omega
            rw [hno] at HS
            clear hno
            refine (hN.call _ HGw.out).mono ?_; rintro e w5 ⟨rfl, hb5⟩
            have HB5 := Lib.hid (HB.out.trans (hb5.mono (B' := w.heap.size) HB.out.size))
            have HG5 := Lib.hid (HGw.out.on hb5)
            have HS5 := Lib.hid (HS.out.keep hb5)
            have hs6 : 6 ≤ lb.size := hN.size
            have hs6' : (6 : Int) ≤ (lb.size : Int) := by omega
            have hx : lb.extract 6 lb.size = r := hN.ext
            have htop := hN.top
            have hrs : ruleB.size = 5 := rfl
            have e6 : IntKind.i64.wrap 6 = 6 := rfl
            have hrl : (ruleB.toList == [82, 82, 85, 76, 69]) = true := by kernel_rfl
            go_wp2_with fail
            refine (hC _ HG5.out).mono ?_; rintro e w6 ⟨G0, sl, rfl, hO, hG0, hb6⟩
            have HB6 := Lib.hid (HB5.out.trans (hb6.mono (B' := w.heap.size) HB5.out.size))
            have HS6 := Lib.hid (HS5.out.keep hb6)
            have HO := Lib.hid hO
            obtain ⟨d2, hu⟩ := Go.Proofs.YtnlpjncljbaapaaGreatDoor.u122
            have HU := Lib.hid hu
            have HCE := Lib.hid (show rowA 19 (optCell op sl) = rowA 19 (optG op 0 sl) from rowA_congr fun k _ => hO.cells k)
            have HNW := Lib.hid (new_any (hO.rows.ok hOG (t := 0) ⟨by decide, by decide⟩))
            have hOS : ∀ X, X ≤ w.heap.size + 1 → SlOff sl X := fun X hX => hO.off (by have := HB5.out.size; have := HS5.out.below; have := HS5.out.high; omega)
            have HOS := Lib.hid hOS
            have HOD := Lib.hid (show ∀ i, own2 rd ex i → SlOff sl i from fun i hi => hO.off (by
              have h1 : i < wr.heap.size := by
                rcases hi with hi | hi
                · exact (HS.out.rds.lt i hi).2
                · exact (HS.out.exs.lt i hi).2
              have := hb5.size
              omega))
            have hi6 : ∀ i, own2 rd ex i → i < w6.heap.size := fun i hi => by
              rcases hi with hi | hi
              · exact (HS6.out.rds.lt i hi).2
              · exact (HS6.out.exs.lt i hi).2
            have HI6 := Lib.hid hi6
            clear hO hb6 hOS hi6
            go_wp2_with (with_reducible refine gd_load 122 ?_; refine wpl_load_row0 rfl 122 _ rfl G0 122 19 19 _ rfl HO.out.row (by decide) d2 HU.out.1 HU.out.2 info122s ?_; rw [HCE.out])
            refine HNW.out.mono ?_; rintro e w7 ⟨G, rfl, hRA, hGz, hb7⟩
            have HB7 := Lib.hid (HB6.out.trans (hb7.mono (B' := w.heap.size) HB6.out.size))
            have HS7 := Lib.hid (HS6.out.keep hb7)
            have HR7 := Lib.hid (HO.out.rows.below hb7)
            have HRA := Lib.hid hRA
            have HOG := Lib.hid (HO.out.offHi hGz)
            have hGS : w.heap.size + 1 ≠ G := by have := HS6.out.below; have := HS6.out.high; omega
            have HUN := Lib.hid (show SlUnder sl w7.heap.size from fun k a b g e => Nat.lt_of_lt_of_le (HO.out.under k a b g e) hb7.size)
            clear hRA hb7 HO HNW
            go_wp2_with fail
            have hCR := sRule_any HS7.out.row HRA.out (HR7.out.ok hOG (t := t) ⟨by omega, ht.2⟩) (fun k h1 h2 _ g' hg' _ => HOG.out k h1 h2 g' hg') (fun g' hg' _ => HOG.out 14 (by decide) (by decide) g' hg') (by omega) hGS
            refine hCR.mono ?_; rintro e w8 hd8
            obtain ⟨rfl, hS8⟩ := SetAt.ruled HS7.out hGS.symm HR7.out HOS.out HOG.out HUN.out (fun i hi => ⟨by have := HI6.out i hi; omega, HOD.out i hi⟩) hd8
            have HB8 := Lib.hid (Ch.below HB7.out hd8.2.2.2 (by have h6 := HB6.out.size; rintro i (rfl | rfl) <;> omega) HB7.out.size)
            have HS8 := Lib.hid hS8
            clear hS8 hd8
            go_wp2_with fail
            go_roundw
            case rel =>
              refine ⟨k + 1, by omega, by go_num, ?_, ⟨B, .pointer (some ⟨G, 0, none⟩), rd, ex, ?_⟩, HB8.out, ?_⟩
              · rw [HT1.out]; intro h; rw [List.mem_append] at h; rcases h with h | h
                · exact HNB.out h
                · simp at h
              · rw [HT1.out, ruleIn_rule op HNO.out, datesOf_rule, datesOf_rule]; exact HS8.out
              · rw [HT1.out]; intro b'; rw [datesOf_rule]; have := HLN.out b'; omega
            case measure => simp [intOf]; omega
          | dates r ts =>
            obtain ⟨htl, r2, hN, hC⟩ := HI.out
            have hs6 : (dateB r).size + 1 ≤ lb.size := hN.size
            have hx := hN.ext
            have htop := hN.top
            have HKN := Lib.hid hkn
            have hn1000 : n ≤ 1000 := by have := Hn.out; omega
            cases r with
            | true =>
              refine (hN.call _ HGw.out).mono ?_; rintro e w5 ⟨rfl, hb5⟩
              have HB5 := Lib.hid (HB.out.trans (hb5.mono (B' := w.heap.size) HB.out.size))
              have HS5 := Lib.hid (HS.out.keep hb5)
              have hs6 : 6 ≤ lb.size := hs6
              have hs6' : (6 : Int) ≤ (lb.size : Int) := by omega
              have hx : lb.extract 6 lb.size = r2 := hx
              have hrs : rdateB.size = 5 := rfl
              have e6 : IntKind.i64.wrap 6 = 6 := rfl
              have hrl : (rdateB.toList == [82, 82, 85, 76, 69]) = false := by kernel_rfl
              have hrl2 : (rdateB.toList == [82, 68, 65, 84, 69]) = true := by kernel_rfl
              simp only [dateB, cond_true]
              go_wp2_with fail
              refine (hC _).mono ?_; rintro e w6 ⟨g2, cap2, rfl, hcap2, hta, hg2, hg3, hb6⟩
              have HB6 := Lib.hid (HB5.out.trans (hb6.mono (B' := w.heap.size) HB5.out.size))
              have HS6 := Lib.hid (HS5.out.keep hb6)
              have HTA := Lib.hid hta
              have hn1 : rd.ownBlock ≠ some g2 := fun h => Nat.lt_irrefl _ (Nat.lt_of_lt_of_le (HS5.out.rds.lt g2 h).2 hg2)
              have hgS : g2 ≠ w.heap.size + 1 := by have := HS5.out.below; have := HS5.out.high; omega
              have HN1 := Lib.hid hn1
              obtain ⟨n2, hn2⟩ : ∃ n2, n2 = ts.length := ⟨_, rfl⟩
              rw [← hn2] at hcap2 ⊢
              have HN2 := Lib.hid hn2
              clear hb5 hb6 hta hn1 hn2 hs6 hs6' hx hrl hg2
              go_wp2_with fail
              go_loopw [119] (fun v wi => ∃ j : Nat, j ≤ n2 ∧ v = .int .i64 j ∧ (∃ rd', SetAt wi (w.heap.size + 1) B t (ruleIn (its.take k)) (datesOf true (its.take k) ++ ts.take j) (datesOf false (its.take k)) rp rd' ex ∧ Hid (rd'.ownBlock ≠ some g2)) ∧ TimesAt wi g2 ts ∧ g2 < wi.heap.size ∧ Below w.heap.size w wi) (fun v _ => n2 - (intOf v).toNat)
              case atStart => exact ⟨0, Nat.zero_le _, rfl, ⟨_, by rw [List.take_zero, List.append_nil]; exact HS6.out, HN1.out⟩, HTA.out, hg3, HB6.out⟩
              case round =>
                clear HS6 HB6 HTA HN1 hg3
                obtain ⟨j, hj, rfl, ⟨rd', hS7, HN7⟩, hta, hg3, hB7⟩ := hrel
                have HS7 := Lib.hid hS7
                have HB7 := Lib.hid hB7
                have HTA := Lib.hid hta
                clear hS7 hB7
                by_cases hjn : j < n2
                · have hjl : j < ts.length := by have := HN2.out; omega
                  obtain ⟨hc0, hc1⟩ := hta j _ (List.getElem?_eq_getElem hjl)
                  have hTJ := Lib.hid (show ts.take (j + 1) = ts.take j ++ [ts[j]] by rw [List.take_add_one, List.getElem?_eq_getElem hjl]; rfl)
                  generalize ts[j] = x at *
                  have HS8 := Lib.hid (HS7.out.keep (below_a1 (o := .cells #[.int .i64 x, .int .i64 0] 109)))
                  have hlen2 : (datesOf true (its.take k) ++ ts.take j).length ≤ 1000000 := by
                    have h1 := HLN.out true
                    have h2 := HN2.out
                    have h3 := Hn.out
                    rw [List.length_append, List.length_take]
                    omega
                  have HD := Lib.hid (fun (x : Int) => sRDate_any (t := x) HS8.out.row HS8.out.rds HS8.out.high HS8.out.below hlen2)
                  clear hta
                  go_wp2_with fail
                  refine (HD.out x).mono ?_; rintro e w8 hd8
                  obtain ⟨rd2, rfl, hS9, hch, hne⟩ := SetAt.rdate HS8.out hd8
                  have hz8 : g2 < (wr.alloc (.cells #[.int .i64 x, .int .i64 0] 109)).heap.size := by simp; omega
                  have hX : ¬ (g2 = w.heap.size + 1 ∨ some g2 = rd'.ownBlock) := by
                    rintro (h | h)
                    · exact hgS h
                    · exact HN7.out h.symm
                  have hta8 : TimesAt w8 g2 ts := fun i y hy => ⟨(hch.cell hz8 hX).trans ((cell_old hg3).trans (HTA.out i y hy).1), (hch.cell hz8 hX).trans ((cell_old hg3).trans (HTA.out i y hy).2)⟩
                  have hB8 := Ch.below (HB7.out.alloc HB7.out.size (.cells #[.int .i64 x, .int .i64 0] 109)) hch (by
                    rintro i (rfl | h)
                    · omega
                    · have h1 := own_base HS8.out.rds i h.symm
                      have := HS8.out.below
                      omega) (HB7.out.alloc HB7.out.size _).size
                  have HS9 := Lib.hid hS9
                  have HN9 := Lib.hid (hne g2 hz8 HN7.out)
                  have hz9 : g2 < w8.heap.size := Nat.lt_of_lt_of_le hz8 hch.size
                  clear hS9 hne hch hd8
                  go_wp2_with fail
                  go_roundw
                  case rel =>
                    refine ⟨j + 1, by omega, by go_num, ⟨_, ?_, HN9.out⟩, hta8, hz9, hB8⟩
                    rw [hTJ.out, ← List.append_assoc]
                    exact HS9.out
                  case measure => simp [intOf]; omega
                · obtain ⟨jj, hjj⟩ : ∃ jj, jj = n2 := ⟨_, rfl⟩
                  obtain rfl : j = jj := by omega
                  have HL := Lib.hid (show ts.take j = ts from List.take_of_length_le (by have := HN2.out; omega))
                  have hfj : ¬ ((j : Int) < (n2 : Int)) := by omega
                  have HS8 := Lib.hid HS7.out
                  rw [HL.out] at HS8
                  have HJJ := Lib.hid hjj
                  clear hjj hjn hta
                  go_wp2_with fail
                  go_roundw
                  case rel =>
                    refine ⟨k + 1, by have := HKN.out; omega, by go_num, ?_, ⟨B, rp, rd', ex, ?_⟩, HB7.out, ?_⟩
                    · rw [HT1.out]; intro h; rw [List.mem_append] at h; rcases h with h | h
                      · exact HNB.out h
                      · simp at h
                    · rw [HT1.out, ruleIn_snoc, datesOf_snoc, datesOf_snoc]
                      simpa using HS8.out
                    · rw [HT1.out]; intro b'; rw [datesOf_snoc, List.length_append]; have h1 := HLN.out b'; have h2 : (bif true == b' then ts else []).length ≤ 1000 := (by cases b' <;> first | exact htl | exact Nat.zero_le _); omega
                  case measure => have := HKN.out; simp [intOf]; omega
            | false =>
              refine (hN.call _ HGw.out).mono ?_; rintro e w5 ⟨rfl, hb5⟩
              have HB5 := Lib.hid (HB.out.trans (hb5.mono (B' := w.heap.size) HB.out.size))
              have HS5 := Lib.hid (HS.out.keep hb5)
              have hs6 : 7 ≤ lb.size := hs6
              have hs6' : (7 : Int) ≤ (lb.size : Int) := by omega
              have hx : lb.extract 7 lb.size = r2 := hx
              have hrs : exdateB.size = 6 := rfl
              have e6 : IntKind.i64.wrap 7 = 7 := rfl
              have hrl : (exdateB.toList == [82, 82, 85, 76, 69]) = false := by kernel_rfl
              have hrl2 : (exdateB.toList == [82, 68, 65, 84, 69]) = false := by kernel_rfl
              have hrl3 : (exdateB.toList == [69, 88, 68, 65, 84, 69]) = true := by kernel_rfl
              simp only [dateB, cond_false]
              go_wp2_with fail
              refine (hC _).mono ?_; rintro e w6 ⟨g2, cap2, rfl, hcap2, hta, hg2, hg3, hb6⟩
              have HB6 := Lib.hid (HB5.out.trans (hb6.mono (B' := w.heap.size) HB5.out.size))
              have HS6 := Lib.hid (HS5.out.keep hb6)
              have HTA := Lib.hid hta
              have hn1 : ex.ownBlock ≠ some g2 := fun h => Nat.lt_irrefl _ (Nat.lt_of_lt_of_le (HS5.out.exs.lt g2 h).2 hg2)
              have hgS : g2 ≠ w.heap.size + 1 := by have := HS5.out.below; have := HS5.out.high; omega
              have HN1 := Lib.hid hn1
              obtain ⟨n2, hn2⟩ : ∃ n2, n2 = ts.length := ⟨_, rfl⟩
              rw [← hn2] at hcap2 ⊢
              have HN2 := Lib.hid hn2
              clear hb5 hb6 hta hn1 hn2 hs6 hs6' hx hrl hg2
              go_wp2_with fail
              go_loopw [119] (fun v wi => ∃ j : Nat, j ≤ n2 ∧ v = .int .i64 j ∧ (∃ ex', SetAt wi (w.heap.size + 1) B t (ruleIn (its.take k)) (datesOf true (its.take k)) (datesOf false (its.take k) ++ ts.take j) rp rd ex' ∧ Hid (ex'.ownBlock ≠ some g2)) ∧ TimesAt wi g2 ts ∧ g2 < wi.heap.size ∧ Below w.heap.size w wi) (fun v _ => n2 - (intOf v).toNat)
              case atStart => exact ⟨0, Nat.zero_le _, rfl, ⟨_, by rw [List.take_zero, List.append_nil]; exact HS6.out, HN1.out⟩, HTA.out, hg3, HB6.out⟩
              case round =>
                clear HS6 HB6 HTA HN1 hg3
                obtain ⟨j, hj, rfl, ⟨ex', hS7, HN7⟩, hta, hg3, hB7⟩ := hrel
                have HS7 := Lib.hid hS7
                have HB7 := Lib.hid hB7
                have HTA := Lib.hid hta
                clear hS7 hB7
                by_cases hjn : j < n2
                · have hjl : j < ts.length := by have := HN2.out; omega
                  obtain ⟨hc0, hc1⟩ := hta j _ (List.getElem?_eq_getElem hjl)
                  have hTJ := Lib.hid (show ts.take (j + 1) = ts.take j ++ [ts[j]] by rw [List.take_add_one, List.getElem?_eq_getElem hjl]; rfl)
                  generalize ts[j] = x at *
                  have HS8 := Lib.hid (HS7.out.keep (below_a1 (o := .cells #[.int .i64 x, .int .i64 0] 109)))
                  have hlen2 : (datesOf false (its.take k) ++ ts.take j).length ≤ 1000000 := by
                    have h1 := HLN.out false
                    have h2 := HN2.out
                    have h3 := Hn.out
                    rw [List.length_append, List.length_take]
                    omega
                  have HD := Lib.hid (fun (x : Int) => sExDate_any (t := x) HS8.out.row HS8.out.exs HS8.out.high HS8.out.below hlen2)
                  clear hta
                  go_wp2_with fail
                  refine (HD.out x).mono ?_; rintro e w8 hd8
                  obtain ⟨ex2, rfl, hS9, hch, hne⟩ := SetAt.exdate HS8.out hd8
                  have hz8 : g2 < (wr.alloc (.cells #[.int .i64 x, .int .i64 0] 109)).heap.size := by simp; omega
                  have hX : ¬ (g2 = w.heap.size + 1 ∨ some g2 = ex'.ownBlock) := by
                    rintro (h | h)
                    · exact hgS h
                    · exact HN7.out h.symm
                  have hta8 : TimesAt w8 g2 ts := fun i y hy => ⟨(hch.cell hz8 hX).trans ((cell_old hg3).trans (HTA.out i y hy).1), (hch.cell hz8 hX).trans ((cell_old hg3).trans (HTA.out i y hy).2)⟩
                  have hB8 := Ch.below (HB7.out.alloc HB7.out.size (.cells #[.int .i64 x, .int .i64 0] 109)) hch (by
                    rintro i (rfl | h)
                    · omega
                    · have h1 := own_base HS8.out.exs i h.symm
                      have := HS8.out.below
                      omega) (HB7.out.alloc HB7.out.size _).size
                  have HS9 := Lib.hid hS9
                  have HN9 := Lib.hid (hne g2 hz8 HN7.out)
                  have hz9 : g2 < w8.heap.size := Nat.lt_of_lt_of_le hz8 hch.size
                  clear hS9 hne hch hd8
                  go_wp2_with fail
                  go_roundw
                  case rel =>
                    refine ⟨j + 1, by omega, by go_num, ⟨_, ?_, HN9.out⟩, hta8, hz9, hB8⟩
                    rw [hTJ.out, ← List.append_assoc]
                    exact HS9.out
                  case measure => simp [intOf]; omega
                · obtain ⟨jj, hjj⟩ : ∃ jj, jj = n2 := ⟨_, rfl⟩
                  obtain rfl : j = jj := by omega
                  have HL := Lib.hid (show ts.take j = ts from List.take_of_length_le (by have := HN2.out; omega))
                  have hfj : ¬ ((j : Int) < (n2 : Int)) := by omega
                  have HS8 := Lib.hid HS7.out
                  rw [HL.out] at HS8
                  have HJJ := Lib.hid hjj
                  clear hjj hjn hta
                  go_wp2_with fail
                  go_roundw
                  case rel =>
                    refine ⟨k + 1, by have := HKN.out; omega, by go_num, ?_, ⟨B, rp, rd, ex', ?_⟩, HB7.out, ?_⟩
                    · rw [HT1.out]; intro h; rw [List.mem_append] at h; rcases h with h | h
                      · exact HNB.out h
                      · simp at h
                    · rw [HT1.out, ruleIn_snoc, datesOf_snoc, datesOf_snoc]
                      simpa using HS8.out
                    · rw [HT1.out]; intro b'; rw [datesOf_snoc, List.length_append]; have h1 := HLN.out b'; have h2 : (bif false == b' then ts else []).length ≤ 1000 := (by cases b' <;> first | exact htl | exact Nat.zero_le _); omega
                  case measure => have := HKN.out; simp [intOf]; omega
        · obtain rfl : k = n := by omega
          go_wp2_with fail
          go_ret2
          rw [show its.take k = its from List.take_of_length_le (by have := Hn.out; omega)] at *
          exact ⟨fun h => absurd h HNB.out, fun _ => ⟨_, _, _, _, _, rfl, HS.out, by omega, HB.out⟩⟩
end Go.Proofs.YtnlpjncljbaapaaGreatDoor
