/- A rule's text with its parts in any order; a set's lines with an order; textWhole, StrToRRuleSet, ParseSet. -/
import Derived.Test.YtnlpjncljbaapaaGreatDoorTr
import Derived.Test.YtnlpjncljbaapaaGreatDoorJn
import Derived.Test.YtnlpjncljbaapaaGreatDoorAw
namespace Go.Proofs.YtnlpjncljbaapaaGreatDoor
open Go.RowKit

/-- Which part it is. -/
def Part.key : Part → Nat
  | .freq _ => 10
  | .till _ => 11
  | .count _ => 12
  | .interval _ => 13
  | .wkst _ => 14
  | .days _ => 15
  | .i17 _ => 0
  | .i16 _ => 1
  | .i15 _ => 2
  | .i11 _ => 3
  | .i12 _ => 4
  | .i13 _ => 5
  | .i10 _ => 6
  | .i9 _ => 7
  | .i18 _ => 8
theorem putL_comm (o : Opt) {i j : Nat} (h : i ≠ j) (a b : List Int) : (o.putL i a).putL j b = (o.putL j b).putL i a := by
  unfold Opt.putL
  congr 1
  funext k
  by_cases h1 : k = i
  · subst h1; simp [h]
  · simp [h1]
theorem put_comm (o : Opt) (p q : Part) (h : p.key ≠ q.key) : q.put (p.put o) = p.put (q.put o) := by
  cases p <;> cases q <;> first
    | exact absurd rfl h
    | rfl
    | exact putL_comm o (by decide) _ _
/-- The part of a rule's text that bears this key. -/
def pOf (fr : Nat) (un ct iv : Int) (l : Nat → List Int) (dl : List (Int × Int)) (wk : Int) (k : Nat) : Part :=
  if k = 10 then .freq fr else if k = 11 then .till un else if k = 12 then .count ct else if k = 13 then .interval iv else if k = 14 then .wkst wk else if k = 15 then .days dl else gPart k (l (gCell k))
theorem mem_optP {b : Bool} {p x : Part} (h : x ∈ optP b p) : x = p := by
  cases b with
  | false => simp [optP] at h
  | true => simpa [optP] using h
theorem parts_key (fr : Nat) (hu : Bool) (un ct iv : Int) (l : Nat → List Int) (dl : List (Int × Int)) (wk : Int) (x : Part) (h : x ∈ partsP fr hu un ct iv l dl wk) : x = pOf fr un ct iv l dl wk x.key := by
  unfold partsP at h
  simp only [List.mem_append] at h
  rcases h with (((((h | h) | h) | h) | h) | h) | h
  · rw [List.mem_singleton] at h; subst h; rfl
  · rw [mem_optP h]; rfl
  · rw [mem_optP h]; rfl
  · rw [mem_optP h]; rfl
  · unfold listsP at h
    obtain ⟨k, hk, hx⟩ := List.mem_flatMap.1 h
    have hk : k < 9 := by simpa using hk
    rw [mem_optP hx]
    have hk : k = 0 ∨ k = 1 ∨ k = 2 ∨ k = 3 ∨ k = 4 ∨ k = 5 ∨ k = 6 ∨ k = 7 ∨ k = 8 := by omega
    rcases hk with e | e | e | e | e | e | e | e | e <;> subst e <;> rfl
  · rw [mem_optP h]; rfl
  · rw [mem_optP h]; rfl
theorem putAll_perm {fr : Nat} {hu : Bool} {un ct iv : Int} {l : Nat → List Int} {dl : List (Int × Int)} {wk : Int} {ps : List Part} (h : ps.Perm (partsP fr hu un ct iv l dl wk)) : putAll ps = putAll (partsP fr hu un ct iv l dl wk) := by
  unfold putAll
  refine h.foldl_eq' (fun x hx y hy o => ?_) _
  by_cases hk : x.key = y.key
  · have e1 := parts_key _ _ _ _ _ _ _ _ x (h.mem_iff.1 hx)
    have e2 := parts_key _ _ _ _ _ _ _ _ y (h.mem_iff.1 hy)
    have : x = y := by rw [e1, e2, hk]
    rw [this]
  · exact put_comm o x y hk
instance : Inhabited Part := ⟨.freq 0⟩
theorem RowB.below {w w' : World} {p : Option Addr} {n : Nat} {l : List Int} (h : RowB w p n l) (hb : Below w.heap.size w w') : RowB w' p n l :=
  ⟨h.1, fun i x hx => by obtain ⟨hx2, g, o, e, hg, hc⟩ := h.2 i x hx; exact ⟨hx2, g, o, e, Nat.lt_of_lt_of_le hg hb.size, (hb.cell hg).trans hc⟩⟩
/-- The text of a rule, its parts in an order. -/
def ruleTo (ord : List Int) (fr : Nat) (hu : Bool) (un ct iv : Int) (l : Nat → List Int) (dl : List (Int × Int)) (wk : Int) : List UInt8 := joinC 59 (ordL ord (partsL fr hu un ct iv l dl wk))
theorem parts_head (fr : Nat) (hu : Bool) (un ct iv : Int) (l : Nat → List Int) (dl : List (Int × Int)) (wk : Int) : (partsL fr hu un ct iv l dl wk)[0]? = some (pFreq fr) ∧ (partsP fr hu un ct iv l dl wk)[0]? = some (.freq fr) := ⟨rfl, rfl⟩
theorem ruleTo_ok (ord : List Int) {fr : Nat} {hu : Bool} {un ct iv : Int} {l : Nat → List Int} {dl : List (Int × Int)} {wk : Int} (h : SmallR fr hu un ct iv l dl wk) : TxOk (ruleTo ord fr hu un ct iv l dl wk) (ordL ord (partsL fr hu un ct iv l dl wk)) := by
  have hs := says_parts h
  have hp := ordL_perm ord (partsL fr hu un ct iv l dl wk)
  have hg : ∀ x ∈ ordL ord (partsL fr hu un ct iv l dl wk), ∃ p, Good x p := fun x hx => good_of hs x (hp.mem_iff.1 hx)
  have h0 : (ordL ord (partsL fr hu un ct iv l dl wk))[0]? = some (pFreq fr) := (ordL_head ord _).trans (parts_head fr hu un ct iv l dl wk).1
  have hv : ∀ c ∈ ruleTo ord fr hu un ct iv l dl wk, vis c := fun c hc => by
    rcases joinC_mem 59 _ c hc with h1 | ⟨x, hx, h1⟩
    · subst h1; unfold vis; decide
    · obtain ⟨p, hp⟩ := hg x hx
      exact vis_pc (hp.pc c h1)
  obtain ⟨r, hr⟩ : ∃ r, ordL ord (partsL fr hu un ct iv l dl wk) = pFreq fr :: r := by
    cases ho : ordL ord (partsL fr hu un ct iv l dl wk) with
    | nil => rw [ho] at h0; simp at h0
    | cons a r => rw [ho] at h0; simp at h0; subst h0; exact ⟨r, rfl⟩
  refine ⟨hv, ?_, fun h10 => ?_, ?_, ?_⟩
  · have := joinC_len 59 400 _ (fun x hx => by obtain ⟨p, hp⟩ := hg x hx; exact hp.len)
    have h2 := parts_len fr hu un ct iv l dl wk
    rw [hp.length_eq] at this
    show (joinC 59 _).length ≤ _
    omega
  · exact absurd (hv 10 h10) (by unfold vis; decide)
  · obtain ⟨q, hq⟩ : ∃ q, ruleTo ord fr hu un ct iv l dl wk = 70 :: q := by
      obtain ⟨q, hq⟩ := joinC_head 59 (pFreq fr) r
      refine ⟨[82, 69, 81, 61] ++ frNames[fr]?.getD [] ++ q, ?_⟩
      unfold ruleTo
      rw [hr, hq]
      simp [pFreq]
    rw [hq]
    rfl
  · exact splitL_joinC 59 _ (by rw [hr]; simp) (fun x hx hc => by
      obtain ⟨p, hp⟩ := hg x hx
      exact absurd (hp.pc 59 hc) (by unfold pc; decide))
theorem ruleTo_line (ord : List Int) {fr : Nat} {hu : Bool} {un ct iv : Int} {l : Nat → List Int} {dl : List (Int × Int)} {wk : Int} (h : SmallR fr hu un ct iv l dl wk) (hg : OptGood (putAll (partsP fr hu un ct iv l dl wk))) :
    LineIs ⟨(rrL (ruleTo ord fr hu un ct iv l dl wk)).toArray⟩ (.rule (putAll (partsP fr hu un ct iv l dl wk))) := by
  have ht := ruleTo_ok ord h
  refine ⟨hg, _, named_ok [82, 82, 85, 76, 69] (ruleTo ord fr hu un ct iv l dl wk) name_rrule (vis_line (by unfold vis; decide) ht.vis) (by have := ht.len; simp; omega), fun W hW => ?_⟩
  have hs := says_parts h
  obtain ⟨z1, z2⟩ := ordL_zip ord (R := Good) hs.1 hs.2
  rw [← putAll_perm (ordL_perm ord (partsP fr hu un ct iv l dl wk))]
  exact opt_ok (ordL ord (partsP fr hu un ct iv l dl wk)) (ordL ord (partsL fr hu un ct iv l dl wk)) _ W hW (clean_vis ht.vis) (by have := ht.len; omega) ht.nl ht.pre ht.split z1 (fun i a p h1 h2 => (z2 i a p h1 h2).says) fr ((ordL_head ord _).trans (parts_head fr hu un ct iv l dl wk).2)
section
variable {t : Int} {hr : Bool} {fr : Nat} {hs : Bool} {st iv wk ct : Int} {hu : Bool} {un : Int} {p : Nat → Option Addr} {n c : Nat → Nat} {pr : Option Addr} {nr cr : Nat} {px : Option Addr} {nx cx : Nat} {l : Nat → List Int} {dl : List (Int × Int)} {rds exs : List Int} {f : Nat → Value}
def toOf (ord : List Int) (fr : Nat) (hu : Bool) (un ct iv : Int) (l : Nat → List Int) (dl : List (Int × Int)) (wk : Int) : List UInt8 := ruleTo ord fr hu (unOf hu un) ct iv l dl wk
theorem to_len (ord : List Int) (h : TextSays t hr fr hs st iv wk ct hu un p n c pr nr cr px nx cx l dl rds exs f) (hb : hr = true) : (toOf ord fr hu un ct iv l dl wk).length ≤ 10000 :=
  (ruleTo_ok ord (clean_small (h.2.2.2.2.1 hb).1 (unOf hu un) fun e => unOf_at e)).len
theorem says_turned (ord : List Int) (h : TextSays t hr fr hs st iv wk ct hu un p n c pr nr cr px nx cx l dl rds exs f) : LinesAre (restL hr (toOf ord fr hu un ct iv l dl wk) rds exs) (itsOf hr (opOf fr hu un ct iv l dl wk) rds exs) := by
  refine rest_are (fun hb => ?_) (says_dates h).1 (says_dates h).2
  obtain ⟨hc, _, _⟩ := h.2.2.2.2.1 hb
  have hS := clean_small hc (unOf hu un) fun e => unOf_at e
  have := ruleTo_line ord hS (by rw [putAll_parts]; exact clean_good hc _)
  rw [putAll_parts] at this
  exact this
theorem texts_ord (po : Option Addr) (no co : Nat) (ord : List Int) (w : World) (hG : Glob w) (hin : SetIn w p n c pr nr cr px nx cx l dl rds exs) (h : TextSays t hr fr hs st iv wk ct hu un p n c pr nr cr px nx cx l dl rds exs f) (hor : RowB w po no ord) (hno : no ≤ 2147483647) :
    Calls Tryz.prog 13 #[.agg (rowA 22 f), .slice po no co] w fun e w' => GivesOwn (setLines t hr (toOf ord fr hu un ct iv l dl wk) rds exs) w e w' := by
  have hd := says_dates h
  cases hr with
  | false =>
    have e : rowA 22 f = sSetC t false 0 false 0 0 0 0 false 0 (fun _ => none) (fun _ => 0) (fun _ => 0) pr nr cr px nx cx := by
      rw [rowA_congr (h.2.2.2.2.2 rfl), sSetF_row]
    rw [e]
    exact setTexts_ord t false 0 false 0 0 0 0 false 0 (fun _ => none) (fun _ => 0) (fun _ => 0) pr nr cr px nx cx po no co [] rds exs w hG (by have := h.1; omega) (fun e => by cases e) (by simp) hin.rr hin.rx h.2.1 h.2.2.1 hd.1 hd.2
  | true =>
    obtain ⟨hc, hu0, he⟩ := h.2.2.2.2.1 rfl
    have e : rowA 22 f = sSetC t true fr false 0 iv wk ct hu (unOf hu un) p n c pr nr cr px nx cx := by
      rw [rowA_congr he, sSetF_row]; rfl
    rw [e]
    have hS := clean_small (wk := wk) hc (unOf hu un) fun e => unOf_at e
    refine setTexts_ord t true fr false 0 iv wk ct hu (unOf hu un) p n c pr nr cr px nx cx po no co (toOf ord fr hu un ct iv l dl wk) rds exs w hG (by have := h.1; omega) (fun _ W hW => ?_) (by have := to_len ord h rfl; omega) hin.rr hin.rx h.2.1 h.2.2.1 hd.1 hd.2
    refine text_ord fr false 0 iv wk ct hu (unOf hu un) p n c po no co ord (partsL fr hu (unOf hu un) ct iv l dl wk) W (fun W2 h2 => ?_) (fun x hx => ?_) (parts_len _ _ _ _ _ _ _ _) (partsL_pos _ _ _ _ _ _ _ _) (hor.below hW) hno
    · have hin2 := (hin.below hW).below h2
      have i64 : ∀ x : Int, -10000 < x → x < 10000 → int64 x := fun x a b => by unfold int64; omega
      exact parts_row fr false 0 iv wk ct hu (unOf hu un) p n c W2 ((hG.on hW).on h2) hS.fr hS.un (i64 _ (by have := hS.ct; omega) (by have := hS.ct; omega)) (i64 _ (by have := hS.iv; omega) (by have := hS.iv; omega)) l
        (fun j hj => hin2.ro _ (gCell_at j hj).1 (gCell_at j hj).2.1 (gCell_at j hj).2.2) (fun j hj => by have := (hS.l j hj).1; omega) (fun j hj x hx => i64 x ((hS.l j hj).2 x hx).1 ((hS.l j hj).2 x hx).2) dl hin2.rd (by have := hS.dl.1; omega)
        (fun x hx => ⟨i64 _ (hS.dl.2 x hx).2.1 (hS.dl.2 x hx).2.2, (hS.dl.2 x hx).1.1, (hS.dl.2 x hx).1.2⟩) hS.wk
    · obtain ⟨q, hq⟩ := good_of (says_parts hS) x hx
      have := hq.len
      omega
end
/-- Lines with line feeds between them. -/
theorem bs_app10 (A B : List UInt8) : ((⟨A.toArray⟩ : ByteArray) ++ ⟨#[10]⟩ ++ ⟨B.toArray⟩) = ⟨(A ++ 10 :: B).toArray⟩ := by
  apply ByteArray.ext
  simp
set_option maxRecDepth 100000 in
set_option maxHeartbeats 4000000 in
theorem whole_any (g cap m : Nat) (ls : List (List UInt8)) (w : World) (hst : StrsAt w g ls) (hm : m = ls.length) (hx : ∀ x ∈ ls, x.length ≤ 20000) (hn : m ≤ 100) :
    Calls Tryz.prog 19 #[.slice (some ⟨g, 0, none⟩) m cap] w fun e w' => e = .returned (.string ⟨(joinC 10 ls).toArray⟩) ∧ w' = w := by
  have HST := Lib.hid hst
  have HM := Lib.hid hm
  have HX := Lib.hid hx
  clear hst hm hx
  go_enter Tryz.func19, Tryz.ntmps19
  go_wp2_with fail
  go_loop [3, 4, 5, 8] (fun u _ _ v => ∃ (k : Nat) (s : ByteArray), k ≤ m ∧ v = .int .i64 k ∧ u = .string s ∧ s.size ≤ 20001 * k ∧ Hid (s = ⟨(joinC 10 (ls.take k)).toArray⟩)) (fun _ _ _ v => m - (intOf v).toNat)
  case atStart => exact ⟨0, ⟨#[]⟩, Nat.zero_le _, rfl, rfl, by decide, Lib.hid rfl⟩
  case round =>
    obtain ⟨k, s, hk, rfl, rfl, hs, HS⟩ := hrel
    by_cases hkm : k < m
    · have hkl : k < ls.length := by have := HM.out; omega
      have hc := HST.out k _ (List.getElem?_eq_getElem hkl)
      have HK := Lib.hid (List.getElem?_eq_getElem hkl)
      have hzl : (⟨ls[k].toArray⟩ : ByteArray).size ≤ 20000 := by rw [Lib.size_eq]; exact HX.out _ (List.getElem_mem hkl)
      obtain ⟨z, hz⟩ : ∃ z : ByteArray, z = ⟨ls[k].toArray⟩ := ⟨_, rfl⟩
      rw [← hz] at hc hzl
      have HZ := Lib.hid hz
      generalize ls[k] = x at *
      clear hz
      by_cases hk0 : 0 < k
      · have hk0i : (0 : Int) < (k : Int) := by omega
        go_wp2_with fail
        go_round
        case rel =>
          refine ⟨k + 1, _, by omega, by go_num, rfl, ?_, Lib.hid ?_⟩
          · simp only [ByteArray.size_append]
            have : (⟨#[10]⟩ : ByteArray).size = 1 := rfl
            omega
          · rw [HS.out, HZ.out, bs_app10, joinC_take _ HK.out hk0]
        case measure => simp [intOf]; omega
      · have hk0' : k = 0 := by omega
        subst hk0'
        have hs0 : s = ⟨#[]⟩ := by rw [HS.out]; rfl
        subst hs0
        go_wp2_with fail
        go_round
        case rel =>
          refine ⟨1, _, by omega, by go_num, rfl, ?_, Lib.hid ?_⟩
          · simp only [ByteArray.size_append]
            have : (⟨#[]⟩ : ByteArray).size = 0 := rfl
            omega
          · rw [HZ.out, joinC_take0 _ HK.out]
            apply ByteArray.ext
            simp
        case measure => simp [intOf]; omega
    · have hkn' : k = m := by omega
      subst hkn'
      go_wp2_with fail
      go_ret
      refine ⟨?_, rfl⟩
      rw [HS.out, List.take_of_length_le (by have := HM.out; omega)]
      rfl
set_option maxRecDepth 100000 in
set_option maxHeartbeats 4000000 in
theorem set40_ok (text : List UInt8) (ls : List (List UInt8)) (t : Int) (its : List Item) (w : World) (hG : Glob w) (hc : Clean text) (h0 : 0 < text.length) (hlen : text.length ≤ 1000000) (hsp : splitL 10 text = ls)
    (h : ∀ g cap W, Glob W → StrsAt W g ls → g < W.heap.size → ls.length ≤ cap → Calls Tryz.prog 55 #[.slice (some ⟨g, 0, none⟩) ls.length cap, .agg #[]] W fun e w' => GivesSet t its W e w') :
    Calls Tryz.prog 40 #[.string ⟨text.toArray⟩] w fun e w' => GivesSet t its w e w' := by
  have HT := Lib.hid (trim_any text w hG hc hlen)
  have S := fun W : World => zzSplit_any ⟨text.toArray⟩ 10 W (by rw [Lib.size_eq]; simp; omega)
  rw [show splitL 10 (⟨text.toArray⟩ : ByteArray).data.toList = ls from hsp] at S
  have HS := Lib.hid S
  have H33 := Lib.hid fun (g cap : Nat) (W : World) (hW : Below w.heap.size w W) (a : StrsAt W g ls) (b : g < W.heap.size) (c : ls.length ≤ cap) => slice33_ok (.slice (some ⟨g, 0, none⟩) ls.length cap) t its W fun W2 h2 => h g cap W2 ((hG.on hW).on h2) (a.below h2 b) (Nat.lt_of_lt_of_le b h2.size) c
  have hne := str_ne_nil h0
  obtain ⟨tb, htb⟩ : ∃ tb : ByteArray, tb = ⟨text.toArray⟩ := ⟨_, rfl⟩
  rw [← htb] at hne HT HS ⊢
  have hne2 : ¬ tb.toList = [] := by rw [← ne_eq, ← beq_eq_false_iff_ne]; exact hne
  clear h S htb hG hc
  go_enter Tryz.func40, Tryz.ntmps40
  go_wp2_with fail
  refine HT.out.mono ?_; rintro e w1 ⟨rfl, hb1⟩
  have HB1 := Lib.hid hb1
  clear hb1
  go_wp2_with fail
  refine (HS.out _).mono ?_; rintro e w2 ⟨g, cap, rfl, hcap, hst, hg1, hg2, hb2⟩
  have HB2 := Lib.hid (HB1.out.trans (hb2.mono HB1.out.size))
  have HC := Lib.hid (H33.out g cap w2 HB2.out hst hg2 hcap)
  clear hb2 hst
  go_wp2_with fail
  refine HC.out.mono ?_; rintro e w3 ⟨S, B, rp, rd, ex, rfl, hS, hz, hb⟩
  have HSS := Lib.hid hS
  have HB3 := Lib.hid (HB2.out.trans (hb.mono HB2.out.size))
  have hz3 := Nat.le_trans HB2.out.size hz
  clear hS hb
  go_wp2_with fail
  go_ret2
  exact ⟨S, B, rp, rd, ex, rfl, HSS.out, hz3, HB3.out⟩
set_option maxRecDepth 100000 in
set_option maxHeartbeats 4000000 in
theorem parseSet_ok (v : Value) (t : Int) (its : List Item) (w : World) (h : ∀ W, Below w.heap.size w W → Calls Tryz.prog 40 #[v] W fun e w' => GivesSet t its W e w')
    (hr : ∀ o, ruleIn its = some o → (0 ≤ o.freq ∧ o.freq ≤ 6) ∧ o.days.length ≤ 1000) (h1 : (datesOf true its).length ≤ 1000) (h2 : (datesOf false its).length ≤ 1000) :
    Calls Tryz.prog 18 #[v] w fun e w' => GivesSet2 t (ruleIn its) (datesOf true its) (datesOf false its) w e w' := by
  have hB := below_a1 (w := w) (o := .cells zSet 38)
  have hR := zSet_at w
  have H33 := Lib.hid fun (W : World) (hW : Below w.heap.size w W) => h W hW
  obtain ⟨d, hd⟩ := u38
  have HU := Lib.hid hd
  clear h hd
  go_enter Tryz.func18, Tryz.ntmps18
  unfold zSet at *
  go_upto_region 1 with fail
  generalize hw1 : w.alloc (.cells #[_, _, _, _, _, _, _, _, _, _, _, _, _, _, _, _, _, _, _, _, _, _] 38) = w1 at *
  have HB := Lib.hid hB
  have HR := Lib.hid hR
  clear hw1 hB hR
  go_wp2_with fail
  refine (H33.out _ HB.out).mono ?_; rintro e w2 ⟨S, B, rp, rd, ex, rfl, hS, hSz, hb⟩
  have HB2 := Lib.hid (HB.out.trans (hb.mono HB.out.size))
  have HR2 := Lib.hid (below_row HR.out hb HR.out.lt)
  have HTO := Lib.hid (told_any S B t (ruleIn its) _ _ rp rd ex w2 hS hr h1 h2)
  have hw1l : w.heap.size < w1.heap.size := HR.out.lt
  have hw12 : w1.heap.size ≤ w2.heap.size := hb.size
  clear hb hS H33 hr h1 h2
  go_wp2_with fail
  refine HTO.out.mono ?_; rintro e w3 ⟨b, f, u1, u2, rfl, hrt, ho1, ho2, hb3⟩
  obtain ⟨q1, c1, rfl, -⟩ := own_slice ho1
  obtain ⟨q2, c2, rfl, -⟩ := own_slice ho2
  have HB3 := Lib.hid (HB2.out.trans (hb3.mono HB2.out.size))
  have HR3 := Lib.hid (below_row HR2.out hb3 HR2.out.lt)
  have HRT := Lib.hid hrt
  have HO1 := Lib.hid ho1
  have HO2 := Lib.hid ho2
  clear hb3 hrt ho1 ho2 HTO
  go_wp2_with ((with_reducible refine gd_store 38 ?_); refine wpl_store_row rfl 38 _ _ rfl w.heap.size 0 38 22 _ (rowA 22 (toldF t b f (.slice q1 (datesOf true its).length c1) (.slice q2 (datesOf false its).length c2))) rfl rfl HR3.out (by simp [rowA_size]) (by rw [info38s, rowA_size]) (rowA_all fun i hi => toldF_one t b f HRT.out.one rfl rfl i hi) ?_; intro w4 hR4 hg4)
  refine bodyPost_ret (results_row2 rfl _ w.heap.size 38 22 _ (by rfl) hR4 d HU.out.1 HU.out.2 info38s) rfl ?_
  rw [updR_all]
  exact ⟨S, b, f, _, _, rfl, HRT.out.grown (by omega) (by omega) (by omega) hg4, Joins.ownsRow_le (own_grown HO1.out hg4 (by omega)) (by omega), Joins.ownsRow_le (own_grown HO2.out hg4 (by omega)) (by omega), HB3.out.grown hg4 HB3.out.size (fun k hk => by cases hk; exact Nat.le_refl _)⟩
end Go.Proofs.YtnlpjncljbaapaaGreatDoor

/- laws.FnSetRead, walked. -/
namespace Go.Proofs.YtnlpjncljbaapaaGreatDoor
open Go.RowKit

/-- The lines of a set can be seen, each of its signs. -/
theorem lines_vis (t : Int) (hr : Bool) (tx : List UInt8) (rds exs : List Int) (h : hr = true → ∀ c ∈ tx, vis c) : ∀ x ∈ setLines t hr tx rds exs, (∀ c ∈ x, vis c) ∧ x ≠ [] := fun x hx => by
  unfold setLines at hx
  simp only [List.mem_append, List.mem_map, List.mem_singleton] at hx
  rcases hx with ((hx | hx) | ⟨y, _, rfl⟩) | ⟨y, _, rfl⟩
  · subst hx
    exact ⟨vis_line (name := [68, 84, 83, 84, 65, 82, 84]) (by unfold vis; decide) fun c h => vis_pc (pc_date t c h), by simp [dtL]⟩
  · cases hr with
    | false => simp [opt1] at hx
    | true =>
      have hx : x = rrL tx := by simpa [opt1] using hx
      subst hx
      exact ⟨vis_line (name := [82, 82, 85, 76, 69]) (by unfold vis; decide) (h rfl), by simp [rrL]⟩
  · exact ⟨vis_line (name := [82, 68, 65, 84, 69]) (by unfold vis; decide) fun c h => vis_pc (pc_date y c h), by simp [rdL]⟩
  · exact ⟨vis_line (name := [69, 88, 68, 65, 84, 69]) (by unfold vis; decide) fun c h => vis_pc (pc_date y c h), by simp [exL]⟩
theorem lines_short (t : Int) (hr : Bool) (tx : List UInt8) (rds exs : List Int) (h : hr = true → tx.length ≤ 10000) : ∀ x ∈ setLines t hr tx rds exs, x.length ≤ 20000 := fun x hx => by
  unfold setLines at hx
  simp only [List.mem_append, List.mem_map, List.mem_singleton] at hx
  rcases hx with ((hx | hx) | ⟨y, _, rfl⟩) | ⟨y, _, rfl⟩
  · subst hx
    simp [dtL, dateL_len]
  · cases hr with
    | false => simp [opt1] at hx
    | true =>
      have hx : x = rrL tx := by simpa [opt1] using hx
      subst hx
      have := h rfl
      simp [rrL]
      omega
  · simp [rdL, dateL_len]
  · simp [exL, dateL_len]
theorem whole_clean (xs : List (List UInt8)) (h : ∀ x ∈ xs, (∀ c ∈ x, vis c) ∧ x ≠ []) (h0 : xs ≠ []) : Clean (joinC 10 xs) := by
  have hsp : ∀ x ∈ xs, ∀ c ∈ x, Lib.isSp c = false := fun x hx c hc => vis_sp ((h x hx).1 c hc)
  refine ⟨fun b hb => ?_, fun b hb => ?_, fun b hb => ?_⟩
  · rcases joinC_mem 10 xs b hb with h1 | ⟨x, hx, h1⟩
    · subst h1; decide
    · exact ((h x hx).1 b h1).2
  · cases xs with
    | nil => exact absurd rfl h0
    | cons a r =>
      obtain ⟨q, hq⟩ := joinC_head 10 a r
      rw [hq] at hb
      have ha := (h a (by simp)).2
      cases a with
      | nil => exact absurd rfl ha
      | cons c a =>
        simp at hb
        subst hb
        exact hsp (c :: a) (by simp) c (by simp)
  · obtain ⟨ys, a, rfl⟩ : ∃ ys a, xs = ys ++ [a] := ⟨xs.dropLast, xs.getLast h0, (List.dropLast_concat_getLast h0).symm⟩
    have ha := (h a (by simp)).2
    have key : (joinC 10 (ys ++ [a])).getLast? = a.getLast? := by
      rw [joinC_snoc]
      split
      · rfl
      · cases a with
        | nil => exact absurd rfl ha
        | cons c r =>
          rw [List.getLast?_append, List.getLast?_cons_cons]
          cases hl : (c :: r).getLast? with
          | none => simp at hl
          | some z => rfl
    rw [key] at hb
    exact hsp a (by simp) b (List.mem_of_getLast? hb)
theorem whole_split (xs : List (List UInt8)) (h : ∀ x ∈ xs, (∀ c ∈ x, vis c) ∧ x ≠ []) (h0 : xs ≠ []) : splitL 10 (joinC 10 xs) = xs :=
  splitL_joinC 10 xs h0 fun x hx hc => absurd ((h x hx).1 10 hc) (by unfold vis; decide)
theorem whole_len (xs : List (List UInt8)) (h : ∀ x ∈ xs, x.length ≤ 20000) (hn : xs.length ≤ 27) : (joinC 10 xs).length ≤ 1000000 := by
  have := joinC_len 10 20000 xs h
  omega
theorem whole_pos (xs : List (List UInt8)) (h : ∀ x ∈ xs, (∀ c ∈ x, vis c) ∧ x ≠ []) (h0 : xs ≠ []) : 0 < (joinC 10 xs).length := by
  cases xs with
  | nil => exact absurd rfl h0
  | cons a r =>
    obtain ⟨q, hq⟩ := joinC_head 10 a r
    have ha := (h a (by simp)).2
    rw [hq, List.length_append]
    have : 0 < a.length := by cases a with | nil => exact absurd rfl ha | cons _ _ => simp
    omega
theorem itsOf_ruleIn (hr : Bool) (o : Opt) (rds exs : List Int) : ruleIn (itsOf hr o rds exs) = if hr then some o else none := by
  cases hr with
  | false => exact ruleIn_none fun o' h => by simp [itsOf, ruleIt] at h
  | true => rfl
theorem itsOf_datesOf (hr : Bool) (o : Opt) (rds exs : List Int) : datesOf true (itsOf hr o rds exs) = rds ∧ datesOf false (itsOf hr o rds exs) = exs := by
  have hm : ∀ (b c : Bool) (l : List Int), datesOf b (l.map (fun x => Item.dates c [x])) = bif c == b then l else [] := fun b c l => by
    induction l with
    | nil => cases b <;> cases c <;> rfl
    | cons a r ih =>
      have : datesOf b ((a :: r).map (fun x => Item.dates c [x])) = (bif c == b then [a] else []) ++ datesOf b (r.map (fun x => Item.dates c [x])) := rfl
      rw [this, ih]
      cases b <;> cases c <;> rfl
  have happ : ∀ (b : Bool) (l m : List Item), datesOf b (l ++ m) = datesOf b l ++ datesOf b m := fun b l m => by simp [datesOf]
  have hru : ∀ b, datesOf b (ruleIt hr o) = [] := fun b => by cases hr <;> rfl
  unfold itsOf
  refine ⟨?_, ?_⟩
  · rw [happ, happ, hm, hm, hru]; simp
  · rw [happ, happ, hm, hm, hru]; simp
theorem itsOf_first (hr : Bool) (o : Opt) (rds exs : List Int) (k : Nat) (o' : Opt) (h : (itsOf hr o rds exs)[k]? = some (.rule o')) : k = 0 :=
  rule_first (bad := []) (fun _ h => by simp at h) k o' (by rw [List.append_nil]; exact h)
set_option maxRecDepth 100000 in
set_option maxHeartbeats 16000000 in
theorem law_read (t : Int) (hr : Bool) (fr : Nat) (hs : Bool) (st iv wk ct : Int) (hu : Bool) (un : Int) (p : Nat → Option Addr) (n c : Nat → Nat) (pr : Option Addr) (nr cr : Nat) (px : Option Addr) (nx cx : Nat) (l : Nat → List Int) (dl : List (Int × Int)) (rds exs : List Int) (po : Option Addr) (no co : Nat) (ord : List Int) (w : World) (hG : Glob w)
    (h : SetIn w p n c pr nr cr px nx cx l dl rds exs) (hor : RowB w po no ord) :
    Calls Tryz.prog 6 #[.agg (sSetC t hr fr hs st iv wk ct hu un p n c pr nr cr px nx cx), .slice po no co] w fun e w' => e = .returned (.bool true) ∧ Below w.heap.size w w' := by
  have hB := below_a1 (w := w) (o := .cells (sSetC t hr fr hs st iv wk ct hu un p n c pr nr cr px nx cx) 28)
  have hR := sSet_at t hr fr hs st iv wk ct hu un p n c pr nr cr px nx cx w
  have HRC := Lib.hid (sSetF_row t hr fr hs st iv wk ct hu un p n c pr nr cr px nx cx)
  have HF := Lib.hid fun W : World => fits2_any t hr fr hs st iv wk ct hu un p n c pr nr cr px nx cx W
  have HAW := Lib.hid fun (W : World) (hW : Below w.heap.size w W) => awake_any W (hG.on hW)
  have HIN := Lib.hid h
  have HOR := Lib.hid hor
  have HG := Lib.hid hG
  obtain ⟨d8, hud8⟩ := Go.Proofs.YtnlpjncljbaapaaGreatDoor.u28
  have HU8 := Lib.hid hud8
  obtain ⟨d38, hud38⟩ := Go.Proofs.YtnlpjncljbaapaaGreatDoor.u38
  have HU38 := Lib.hid hud38
  clear hud8 hud38 h hG hor
  go_enter Tryz.func6, Tryz.ntmps6
  unfold sSetC at *
  go_upto_region 1 with fail
  generalize hw1 : w.alloc (.cells #[_, _, _, _, _, _, _, _, _, _, _, _, _, _, _, _, _, _, _, _, _, _] 28) = w1 at *
  have HB := Lib.hid hB
  have HR := Lib.hid hR
  clear hw1 hB hR
  go_wp2_with ((with_reducible refine gd_load 28 ?_); refine wpl_load_row0 rfl 28 _ rfl w.heap.size 28 22 22 _ rfl HR.out (by decide) d8 HU8.out.1 HU8.out.2 info28s ?_; rw [HRC.out])
  refine (HF.out _).mono ?_; rintro e w2 ⟨⟨b, rfl, hfit⟩, hb2⟩
  have HB2 := Lib.hid (HB.out.trans (hb2.mono HB.out.size))
  have HR2 := Lib.hid (below_row HR.out hb2 HR.out.lt)
  clear hb2
  cases b with
  | false => go_wp2_with fail; go_ret; exact ⟨rfl, HB2.out⟩
  | true =>
  by_cases hno : no ≤ 2147483647
  case neg =>
    have hnoi : (2147483647 : Int) < (no : Int) := by omega
    go_wp2_with fail
    go_ret
    exact ⟨rfl, HB2.out⟩
  have hnoi : ¬ (2147483647 : Int) < (no : Int) := by omega
  have hnob : decide ((2147483647 : Int) < (no : Int)) = false := by simp; omega
  obtain ⟨hn, hnr, hnx⟩ := hfit rfl
  have HT := Lib.hid fun (W : World) (hW : Below w.heap.size w W) => textSet_any t hr fr hs st iv wk ct hu un p n c pr nr cr px nx cx l dl rds exs W (fun k a b e => (HIN.out.ro k a b e).below hW) (HIN.out.rd.below hW) hn HIN.out.nc (HIN.out.rr.below hW) (HIN.out.rx.below hW) hnr hnx HIN.out.px
  have HN := Lib.hid hn
  clear hfit hn
  unfold sSetC at HT
  go_wp2_with ((with_reducible refine gd_load 28 ?_); refine wpl_load_row0 rfl 28 _ rfl w.heap.size 28 22 22 _ rfl HR2.out (by decide) d8 HU8.out.1 HU8.out.2 info28s ?_; rw [HRC.out])
  refine (HT.out _ HB2.out).mono ?_; rintro e w3 ⟨f, b, rfl, hone, hsay, hb3⟩
  have HB3 := Lib.hid (HB2.out.trans (hb3.mono HB2.out.size))
  have HR3 := Lib.hid (below_row HR2.out hb3 HR2.out.lt)
  have HONE := Lib.hid hone
  have HSAY := Lib.hid hsay
  clear hb3 hone hsay
  cases b with
  | false =>
    go_wp2_with ((with_reducible refine gd_store 28 ?_); refine wpl_store_row rfl 28 _ _ rfl w.heap.size 0 28 22 _ (rowA 22 f) rfl rfl HR3.out (by simp [rowA_size]) (by rw [info28s, rowA_size]) (rowA_all HONE.out) ?_; intro w4 hR4 hg4)
    have HB4 := Lib.hid (HB3.out.grown hg4 HB3.out.size (fun k hk => by cases hk; exact Nat.le_refl _))
    refine (HAW.out _ HB4.out).mono ?_; rintro e w5 ⟨rfl, hb5⟩
    go_wp2_with fail
    go_ret
    exact ⟨rfl, HB4.out.trans (hb5.mono HB4.out.size)⟩
  | true =>
  have HS := Lib.hid (HSAY.out rfl)
  clear HSAY
  go_upto_region 4 with ((with_reducible refine gd_store 28 ?_); refine wpl_store_row rfl 28 _ _ rfl w.heap.size 0 28 22 _ (rowA 22 f) rfl rfl HR3.out (by simp [rowA_size]) (by rw [info28s, rowA_size]) (rowA_all HONE.out) ?_; intro w4 hR4 hg4)
  have HB4 := Lib.hid (HB3.out.grown hg4 HB3.out.size (fun k hk => by cases hk; exact Nat.le_refl _))
  have HR4 := Lib.hid (show w4.rowIs w.heap.size 28 22 f from hR4.congr fun i hi => by
    unfold updR
    rw [if_pos ⟨Nat.zero_le _, by rw [rowA_size]; omega⟩, Nat.sub_zero, rowA_get hi]
    rfl)
  have hw4 : w.heap.size < w4.heap.size := HR4.out.lt
  clear hR4 hg4 HR HR2 HR3 HB2 HB3 HT HN HF HRC
  by_cases h30 : no ≤ 30
  case neg =>
    have h30i : (30 : Int) < (no : Int) := by omega
    go_wp2_with fail
    refine (HAW.out _ HB4.out).mono ?_; rintro e w5 ⟨rfl, hb5⟩
    go_wp2_with fail
    go_ret
    exact ⟨rfl, HB4.out.trans (hb5.mono HB4.out.size)⟩
  have h30i : ¬ (30 : Int) < (no : Int) := by omega
  have HC13 := Lib.hid fun (W : World) (hW : Below w.heap.size w W) => texts_ord po no co ord W (HG.out.on hW) (HIN.out.below hW) HS.out (HOR.out.below hW) hno
  go_wp2_with ((with_reducible refine gd_load 28 ?_); refine wpl_load_row0 rfl 28 _ rfl w.heap.size 28 22 22 _ rfl HR4.out (by decide) d8 HU8.out.1 HU8.out.2 info28s ?_)
  refine (HC13.out _ HB4.out).mono ?_; rintro e w6 ⟨B6, v6, m6, rfl, hB6, hown, hm6, hb6⟩
  obtain ⟨tx, htx⟩ : ∃ tx, tx = toOf ord fr hu un ct iv l dl wk := ⟨_, rfl⟩
  rw [← htx] at hown hm6
  obtain ⟨A, hA⟩ : ∃ A, A = w4.heap.size := ⟨_, rfl⟩
  have HAe := Lib.hid hA
  obtain ⟨its, hits⟩ : ∃ its, its = itsOf hr (opOf fr hu un ct iv l dl wk) rds exs := ⟨_, rfl⟩
  obtain ⟨ls, hls⟩ : ∃ ls, ls = restL hr tx rds exs := ⟨_, rfl⟩
  have hl12 : rds.length ≤ 12 ∧ exs.length ≤ 12 := by have h1 := HIN.out.rr.1; have h2 := HIN.out.rx.1; have h3 := HS.out.2.1; have h4 := HS.out.2.2.1; omega
  have hm26 : ls.length ≤ 25 := by have := restL_len hr tx rds exs; rw [hls]; omega
  have HLA := Lib.hid (show LinesAre ls its by rw [hits, hls, htx]; exact says_turned ord HS.out)
  have hvis := lines_vis t hr tx rds exs (fun hb => by rw [htx]; exact (ruleTo_ok ord (clean_small (wk := wk) (HS.out.2.2.2.2.1 hb).1 (unOf hu un) fun e => unOf_at e)).vis)
  have hsh := lines_short t hr tx rds exs (fun hb => by rw [htx]; exact to_len ord HS.out hb)
  rw [setLines_cons, ← hls] at hvis hsh hown hm6
  have hd1 := itsOf_datesOf hr (opOf fr hu un ct iv l dl wk) rds exs
  have hr1 := itsOf_ruleIn hr (opOf fr hu un ct iv l dl wk) rds exs
  have hbad := itsOf_good hr (opOf fr hu un ct iv l dl wk) rds exs
  have hfst := itsOf_first hr (opOf fr hu un ct iv l dl wk) rds exs
  rw [← hits] at hd1 hr1 hbad hfst
  have h55 := fun (g cap : Nat) (W : World) (hGW : Glob W) (hst : StrsAt W g (dtL t :: ls)) (hg : g < W.heap.size) (hcap : (dtL t :: ls).length ≤ cap) => (lines_any ls its (dtL t) ⟨(dateL t).toArray⟩ t g cap W hGW hst hg hcap (by omega) (dt_named t) (says_start HS.out) (fun W => dtStart_ok t W (by have := (says_start HS.out).1; omega) (says_start HS.out).2) HLA.out.1.symm HLA.out.2 (fun j k o o' a b => (hfst j o a).trans (hfst k o' b).symm)).mono fun e w' h => h.2 hbad
  have hpair : ∀ W, Below w.heap.size w W → Calls Tryz.prog 18 #[.string ⟨(joinC 10 (dtL t :: ls)).toArray⟩] W fun e w' => GivesSet2 t (ruleIn its) (datesOf true its) (datesOf false its) W e w' := fun W hW =>
    parseSet_ok _ t its W (fun W2 h2 => set40_ok (joinC 10 (dtL t :: ls)) (dtL t :: ls) t its W2 ((HG.out.on hW).on h2) (whole_clean _ hvis (by simp)) (whole_pos _ hvis (by simp)) (whole_len _ hsh (by simp; omega)) (whole_split _ hvis (by simp)) (fun g cap W3 a b c d => h55 g cap W3 a b c d))
      (by rw [hr1]; exact says_good HS.out) (by rw [hd1.1]; omega) (by rw [hd1.2]; omega)
  have h12 := fun (W : World) (hW : Below w.heap.size w W) (v : Value) (base : Nat) (ho : W.ownsRow base 9 1 v (ls.length + 1) (strVs (dtL t :: ls))) => lines_joined t ls its (says_start HS.out) HLA.out hfst hbad (by omega) W (HG.out.on hW) v base (ls.length + 1) rfl ho (by rw [hr1]; exact says_good HS.out) (by rw [hd1.1]; omega) (by rw [hd1.2]; omega)
  rw [hr1, hd1.1, hd1.2] at hpair h12
  have HP18 := Lib.hid hpair
  have HP12 := Lib.hid h12
  have HSH := Lib.hid hsh
  rw [List.length_cons] at hm6
  subst hm6
  obtain ⟨g, cap, rfl, hgg⟩ : ∃ g cap, v6 = .slice (some ⟨g, 0, none⟩) (ls.length + 1) cap ∧ g < w6.heap.size := by
    rcases hown.2 with ⟨_, h0⟩ | ⟨g, cap, cur, rfl, hg, hh, _⟩
    · omega
    · exact ⟨g, cap, rfl, (Array.getElem?_eq_some_iff.1 hh).1⟩
  have HO6 := Lib.hid hown
  have hb6' : Below w4.heap.size w4 w6 := hb6
  have HB6 := Lib.hid hb6'
  have HW6 := Lib.hid (HB4.out.trans (hb6.mono HB4.out.size))
  have HWH := Lib.hid (whole_any g cap (ls.length + 1) (dtL t :: ls) w6 (StrsAt.of_own hown) rfl hsh (by omega))
  obtain ⟨txt, htxt⟩ : ∃ txt : ByteArray, txt = ⟨(joinC 10 (dtL t :: ls)).toArray⟩ := ⟨_, rfl⟩
  rw [← htxt] at HWH HP18
  obtain ⟨m, hm⟩ : ∃ m, m = ls.length + 1 := ⟨_, rfl⟩
  rw [← hm] at HO6 HWH HP12 ⊢
  clear hown hB6 hb6 hb6' HC13 htx hits hvis hsh hd1 hr1 hbad hfst h55 hpair h12 hls hgg hm26 hA HLA htxt hm
  go_wp2_with fail
  refine HWH.out.mono ?_; rintro e w7 ⟨rfl, rfl⟩
  go_wp2_with fail
  refine (HP18.out _ HW6.out).mono ?_; rintro e w8 ⟨S8, b8, f8, rd8, ex8, rfl, hrt, ho1, ho2, hb8⟩
  obtain ⟨q1, c1, rfl, -⟩ := own_slice ho1
  obtain ⟨q2, c2, rfl, -⟩ := own_slice ho2
  have HRT8 := Lib.hid hrt
  obtain ⟨wA, hwA⟩ : ∃ W, W = w8.alloc (.cells (rowA 22 (toldF t b8 f8 (.slice q1 rds.length c1) (.slice q2 exs.length c2))) 38) := ⟨_, rfl⟩
  have hb8A : Below w8.heap.size w8 wA := by rw [hwA]; exact below_a1
  have HRA := Lib.hid (show wA.rowIs w8.heap.size 38 22 (toldF t b8 f8 (.slice q1 rds.length c1) (.slice q2 exs.length c2)) by rw [hwA]; exact rowA_at 38 22 _ w8)
  have HO1 := Lib.hid (own_below ho1 hb8A)
  have HO2 := Lib.hid (own_below ho2 hb8A)
  have HRTA := Lib.hid (hrt.below hb8A)
  have HB6A := Lib.hid (hb8.trans (hb8A.mono hb8.size))
  have HwA := Lib.hid hwA
  clear hrt ho1 ho2 hb8 hwA hb8A
  go_upto_region 8 with ((with_reducible refine gd_store 38 ?_); refine wpl_store_last rfl 38 _ _ rfl _ (rowA 22 (toldF t b8 f8 (.slice q1 rds.length c1) (.slice q2 exs.length c2))) rfl rfl (by rw [info38s, rowA_size]) (by rw [rowA_size]; rfl) (rowA_all fun i hi => toldF_one t b8 f8 HRT8.out.one rfl rfl i hi) ?_)
  rw [← HwA.out]
  have HWA := Lib.hid (HW6.out.trans (HB6A.out.mono HW6.out.size))
  have HP := Lib.hid (HP12.out wA HWA.out _ B6 (own_below HO6.out HB6A.out))
  go_wp2_with fail
  refine HP.out.mono ?_; rintro e w9 ⟨S9, b9, f9, rd9, ex9, rfl, hrt, ho1, ho2, hb9⟩
  obtain ⟨q3, c3, rfl, -⟩ := own_slice ho1
  obtain ⟨q4, c4, rfl, -⟩ := own_slice ho2
  have HRT9 := Lib.hid hrt
  obtain ⟨wB, hwB⟩ : ∃ W, W = w9.alloc (.cells (rowA 22 (toldF t b9 f9 (.slice q3 rds.length c3) (.slice q4 exs.length c4))) 38) := ⟨_, rfl⟩
  have hb9B : Below w9.heap.size w9 wB := by rw [hwB]; exact below_a1
  have HRB := Lib.hid (show wB.rowIs w9.heap.size 38 22 (toldF t b9 f9 (.slice q3 rds.length c3) (.slice q4 exs.length c4)) by rw [hwB]; exact rowA_at 38 22 _ w9)
  have HO3 := Lib.hid (own_below ho1 hb9B)
  have HO4 := Lib.hid (own_below ho2 hb9B)
  have HRTB := Lib.hid (hrt.below hb9B)
  have HBAB := Lib.hid (hb9.trans (hb9B.mono hb9.size))
  have HwB := Lib.hid hwB
  have HWB := Lib.hid (HWA.out.trans (HBAB.out.mono HWA.out.size))
  clear hrt ho1 ho2 hb9 hwB hb9B
  go_upto_region 9 with ((with_reducible refine gd_store 38 ?_); refine wpl_store_last rfl 38 _ _ rfl _ (rowA 22 (toldF t b9 f9 (.slice q3 rds.length c3) (.slice q4 exs.length c4))) rfl rfl (by rw [info38s, rowA_size]) (by rw [rowA_size]; rfl) (rowA_all fun i hi => toldF_one t b9 f9 HRT9.out.one rfl rfl i hi) ?_)
  rw [← HwB.out]
  have HSA := Lib.hid (sameSet_any HS.out (HIN.out.below HWB.out) (HRTA.out.below HBAB.out) (own_below HO1.out HBAB.out) (own_below HO2.out HBAB.out) (List.Perm.refl _) (List.Perm.refl _))
  have HRAB := Lib.hid (below_row HRA.out HBAB.out HRA.out.lt)
  have hB4B : Below w4.heap.size w4 wB := (HB6.out.trans (HB6A.out.mono HB6.out.size)).trans (HBAB.out.mono (Nat.le_trans HB6.out.size HB6A.out.size))
  have HR4B := Lib.hid (below_row HR4.out hB4B hw4)
  go_wp2_with (first
    | ((with_reducible refine gd_load 38 ?_); refine wpl_wanted (by rfl) ?_; refine wpl_load_row0 rfl 38 _ rfl w8.heap.size 38 22 22 _ rfl HRAB.out (by decide) d38 HU38.out.1 HU38.out.2 info38s ?_)
    | ((with_reducible refine gd_load 28 ?_); refine wpl_wanted (by rfl) ?_; refine wpl_load_row0 rfl 28 _ rfl w.heap.size 28 22 22 _ rfl HR4B.out (by decide) d8 HU8.out.1 HU8.out.2 info28s ?_))
  refine HSA.out.mono ?_; rintro e w10 ⟨rfl, hb10⟩
  have HW10 := Lib.hid (HWB.out.trans (hb10.mono HWB.out.size))
  have HSB := Lib.hid (sameSet_any HS.out (HIN.out.below HW10.out) (HRTB.out.below hb10) (own_below HO3.out hb10) (own_below HO4.out hb10) (List.Perm.refl _) (List.Perm.refl _))
  have HRB10 := Lib.hid (below_row HRB.out hb10 HRB.out.lt)
  have HR410 := Lib.hid (below_row HR4B.out hb10 HR4B.out.lt)
  clear hb10
  go_wp2_with (first
    | ((with_reducible refine gd_load 38 ?_); refine wpl_wanted (by rfl) ?_; refine wpl_load_row0 rfl 38 _ rfl w9.heap.size 38 22 22 _ rfl HRB10.out (by decide) d38 HU38.out.1 HU38.out.2 info38s ?_)
    | ((with_reducible refine gd_load 28 ?_); refine wpl_wanted (by rfl) ?_; refine wpl_load_row0 rfl 28 _ rfl w.heap.size 28 22 22 _ rfl HR410.out (by decide) d8 HU8.out.1 HU8.out.2 info28s ?_))
  refine HSB.out.mono ?_; rintro e w11 ⟨rfl, hb11⟩
  have HW11 := Lib.hid (HW10.out.trans (hb11.mono HW10.out.size))
  clear hb11
  go_wp2_with fail
  refine (HAW.out _ HW11.out).mono ?_; rintro e w12 ⟨rfl, hb12⟩
  have HW12 := Lib.hid (HW11.out.trans (hb12.mono HW11.out.size))
  clear hb12
  go_wp2_with fail
  go_ret
  exact ⟨rfl, HW12.out⟩
end Go.Proofs.YtnlpjncljbaapaaGreatDoor
