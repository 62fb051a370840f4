/- Plain laws: dates on one line. -/
import Derived.Test.YtnlpjncljbaapaaGreatDoorLe
import Derived.Test.YtnlpjncljbaapaaGreatDoorSs
namespace Go.Proofs.YtnlpjncljbaapaaGreatDoor
open Go.RowKit

/-- The dates of a line, with commas between them. -/
def commaL (ts : List Int) : List UInt8 := joinC 44 (ts.map dateL)
def rdsL (ts : List Int) : List UInt8 := [82, 68, 65, 84, 69, 58] ++ commaL ts
def exsL (ts : List Int) : List UInt8 := [69, 88, 68, 65, 84, 69, 58] ++ commaL ts
theorem commaL_len (ts : List Int) : (commaL ts).length ≤ ts.length * 17 := by
  have := joinC_len 44 16 (ts.map dateL) (fun x hx => by obtain ⟨t, _, rfl⟩ := List.mem_map.1 hx; rw [dateL_len]; omega)
  rw [List.length_map] at this
  show (joinC 44 (ts.map dateL)).length ≤ _
  omega
theorem commaL_pc (ts : List Int) : ∀ c ∈ commaL ts, pc c := pc_join fun x hx c hc => by obtain ⟨t, _, rfl⟩ := List.mem_map.1 hx; exact pc_date t c hc
theorem comma_dates (ts : List Int) (hn : ts ≠ []) (hl : ts.length ≤ 1000) (h : DateOk ts) (W : World) : Calls Tryz.prog 99 #[.string ⟨(commaL ts).toArray⟩, .agg #[]] W fun e w' => GivesTimes ts W e w' :=
  dates_ok (commaL ts) ts W (by have := commaL_len ts; omega) (fun hc => by have := commaL_pc ts 58 hc; unfold pc at this; exact this.2.2.1 rfl) (fun x hx => h x hx)
    (splitL_joinC 44 (ts.map dateL) (by simpa using hn) (fun x hx => by obtain ⟨t, _, rfl⟩ := List.mem_map.1 hx; exact date_no (.inl rfl) t))
theorem dates_line (ts : List Int) (hn : ts ≠ []) (hl : ts.length ≤ 1000) (h : DateOk ts) (b : Bool) : LineIs ⟨((bif b then rdsL ts else exsL ts)).toArray⟩ (.dates b ts) := by
  have hlen := commaL_len ts
  cases b with
  | true => exact ⟨hl, _, named_ok [82, 68, 65, 84, 69] (commaL ts) name_rdate (vis_line (by unfold vis; decide) fun c h => vis_pc (commaL_pc ts c h)) (by simp; omega), comma_dates ts hn hl h⟩
  | false => exact ⟨hl, _, named_ok [69, 88, 68, 65, 84, 69] (commaL ts) name_exdate (vis_line (by unfold vis; decide) fun c h => vis_pc (commaL_pc ts c h)) (by simp; omega), comma_dates ts hn hl h⟩
/-- A line of dates, if there are any. -/
def optD (b : Bool) (ts : List Int) : List (List UInt8) := if ts = [] then [] else [bif b then rdsL ts else exsL ts]
def optDI (b : Bool) (ts : List Int) : List Item := if ts = [] then [] else [.dates b ts]
theorem optD_are (b : Bool) (ts : List Int) (h : DateOk ts) (hl : ts.length ≤ 1000) : LinesAre (optD b ts) (optDI b ts) := by
  unfold optD optDI
  by_cases hn : ts = []
  · rw [if_pos hn, if_pos hn]; exact .nil
  · rw [if_neg hn, if_neg hn]; exact .one (dates_line ts hn hl h b)
theorem optD_len (b : Bool) (ts : List Int) : (optD b ts).length ≤ 1 := by unfold optD; split <;> simp
/-- The lines of a set with its dates on one line each. -/
def itsJ (hr : Bool) (o : Opt) (rds exs : List Int) : List Item := ruleIt hr o ++ optDI true rds ++ optDI false exs
theorem itsJ_good (hr : Bool) (o : Opt) (rds exs : List Int) : Item.bad ∉ itsJ hr o rds exs := by
  unfold itsJ ruleIt optDI
  cases hr <;> by_cases h1 : rds = [] <;> by_cases h2 : exs = [] <;> simp [h1, h2]
theorem itsJ_rule (hr : Bool) (o : Opt) (rds exs : List Int) : ruleIn (itsJ hr o rds exs) = if hr then some o else none := by
  cases hr with
  | false =>
    unfold itsJ ruleIt optDI
    by_cases h1 : rds = [] <;> by_cases h2 : exs = [] <;> simp [h1, h2, ruleIn, Item.opt?]
  | true => rfl
theorem itsJ_dates (hr : Bool) (o : Opt) (rds exs : List Int) : datesOf true (itsJ hr o rds exs) = rds ∧ datesOf false (itsJ hr o rds exs) = exs := by
  unfold itsJ ruleIt optDI datesOf
  cases hr <;> by_cases h1 : rds = [] <;> by_cases h2 : exs = [] <;> simp [h1, h2]
theorem itsJ_first (hr : Bool) (o : Opt) (rds exs : List Int) (k : Nat) (o' : Opt) (h : (itsJ hr o rds exs)[k]? = some (.rule o')) : k = 0 := by
  unfold itsJ ruleIt optDI at h
  cases hr <;> by_cases h1 : rds = [] <;> by_cases h2 : exs = [] <;> simp [h1, h2] at h <;> rcases k with _ | _ | _ | k <;> simp_all
section
variable {t : Int} {hr : Bool} {fr : Nat} {hs : Bool} {st iv wk ct : Int} {hu : Bool} {un : Int} {p : Nat → Option Addr} {n c : Nat → Nat} {pr : Option Addr} {nr cr : Nat} {px : Option Addr} {nx cx : Nat} {l : Nat → List Int} {dl : List (Int × Int)} {rds exs : List Int} {f : Nat → Value}
theorem says_rule (h : TextSays t hr fr hs st iv wk ct hu un p n c pr nr cr px nx cx l dl rds exs f) : LinesAre (opt1 hr (rrL (txOf fr hu un ct iv l dl wk))) (ruleIt hr (opOf fr hu un ct iv l dl wk)) := by
  cases hr with
  | false => exact .nil
  | true =>
    obtain ⟨hc, _, _⟩ := h.2.2.2.2.1 rfl
    have hS := clean_small hc (unOf hu un) fun e => unOf_at e
    have := rule_line hS (by rw [putAll_parts]; exact clean_good hc _)
    rw [putAll_parts] at this
    exact .one this
theorem says_joined (h : TextSays t hr fr hs st iv wk ct hu un p n c pr nr cr px nx cx l dl rds exs f) (h1 : rds.length ≤ 1000) (h2 : exs.length ≤ 1000) :
    LinesAre (opt1 hr (rrL (txOf fr hu un ct iv l dl wk)) ++ optD true rds ++ optD false exs) (itsJ hr (opOf fr hu un ct iv l dl wk) rds exs) :=
  ((says_rule h).app (optD_are true rds (says_dates h).1 h1)).app (optD_are false exs (says_dates h).2 h2)
/-- The set without its dates. -/
theorem says_bare {f2 : Nat → Value} (h : TextSays t hr fr hs st iv wk ct hu un p n c pr nr cr px nx cx l dl rds exs f) (h2 : ∀ i, i < 22 → f2 i = if i = 21 then .slice none 0 0 else if i = 20 then .slice none 0 0 else f i) :
    TextSays t hr fr hs st iv wk ct hu un p n c none 0 0 none 0 0 l dl [] [] f2 := by
  have key : ∀ (b : Bool) (fr' : Nat) (iv' wk' ct' : Int) (hu' : Bool) (un' : Int) (p' : Nat → Option Addr) (n' c' : Nat → Nat), (∀ i, i < 22 → f i = sSetF t b fr' false 0 iv' wk' ct' hu' un' p' n' c' pr nr cr px nx cx i) → ∀ i, i < 22 → f2 i = sSetF t b fr' false 0 iv' wk' ct' hu' un' p' n' c' none 0 0 none 0 0 i := fun b fr' iv' wk' ct' hu' un' p' n' c' hf i hi => by
    rw [h2 i hi]
    by_cases h21 : i = 21
    · subst h21; rfl
    by_cases h20 : i = 20
    · subst h20; rfl
    rw [if_neg h21, if_neg h20, hf i hi]
    have h22 : i = 0 ∨ i = 1 ∨ i = 2 ∨ i = 3 ∨ i = 4 ∨ i = 5 ∨ i = 6 ∨ i = 7 ∨ i = 8 ∨ i = 9 ∨ i = 10 ∨ i = 11 ∨ i = 12 ∨ i = 13 ∨ i = 14 ∨ i = 15 ∨ i = 16 ∨ i = 17 ∨ i = 18 ∨ i = 19 := by omega
    rcases h22 with h | h | h | h | h | h | h | h | h | h | h | h | h | h | h | h | h | h | h | h <;> subst h <;> rfl
  exact ⟨h.1, by omega, by omega, fun x hx => by simp at hx, fun hb => ⟨(h.2.2.2.2.1 hb).1, (h.2.2.2.2.1 hb).2.1, key _ _ _ _ _ _ _ _ _ _ (h.2.2.2.2.1 hb).2.2⟩, fun hb => key _ _ _ _ _ _ _ _ _ _ (h.2.2.2.2.2 hb)⟩
end
end Go.Proofs.YtnlpjncljbaapaaGreatDoor

/- A set that ParseLines tells and the set that its lines say: laws.sameSet holds of them. -/
namespace Go.Proofs.YtnlpjncljbaapaaGreatDoor
open Go.RowKit

section
variable {t : Int} {hr : Bool} {fr : Nat} {hs : Bool} {st iv wk ct : Int} {hu : Bool} {un : Int} {p : Nat → Option Addr} {n c : Nat → Nat} {pr : Option Addr} {nr cr : Nat} {px : Option Addr} {nx cx : Nat} {l : Nat → List Int} {dl : List (Int × Int)} {rds exs : List Int} {F : Nat → Value}
theorem agree_of {w : World} {sl : Nat → Value} {q : Option Addr} (hb : hr = true) (h : TextSays t hr fr hs st iv wk ct hu un p n c pr nr cr px nx cx l dl rds exs F) (hin : SetIn w p n c pr nr cr px nx cx l dl rds exs)
    (ho : OptRows w (opOf fr hu un ct iv l dl wk) sl) (hd : RowDO w q dl.length dl) : Agree w (opOf fr hu un ct iv l dl wk) sl q fr iv wk ct hu (unOf hu un) p n := by
  obtain ⟨hc, hu0, -⟩ := h.2.2.2.2.1 hb
  have hS := clean_small (wk := wk) hc (unOf hu un) fun e => unOf_at e
  have hg := clean_good (wk := wk) hc (unOf hu un)
  have el : ∀ k, 8 ≤ k → k < 18 → k ≠ 13 → (opOf fr hu un ct iv l dl wk).l (k + 1) = l k := fun k h1 h2 h3 => by
    have h9 : k = 8 ∨ k = 9 ∨ k = 10 ∨ k = 11 ∨ k = 12 ∨ k = 14 ∨ k = 15 ∨ k = 16 ∨ k = 17 := by omega
    rcases h9 with h | h | h | h | h | h | h | h | h <;> subst h <;> rfl
  refine { fr := rfl, iv := ?_, wk := rfl, ct := ?_, hu := ?_, un := ?_, ra := fun k h1 h2 h3 => ?_, rb := fun k h1 h2 h3 => ?_, da := hd, db := hin.rd, len := hg.len, dlen := by have := hS.dl.1; show dl.length ≤ 1000; omega }
  · show max (if 1 < iv then iv else 0) 1 = max iv 1
    split <;> omega
  · show (if 0 < ct then ct else 0) = ct
    have := hS.ct
    split <;> omega
  · show (!(decide ((if hu then unOf hu un else 0) = 0))) = hu
    cases hu with
    | false => rfl
    | true => simp [unOf, hu0 rfl]
  · show (if hu then unOf hu un else 0) = unOf hu un
    cases hu <;> rfl
  · obtain ⟨e, hrow⟩ := ho.1 (k + 1) (by omega) (by omega) (by omega)
    refine ⟨rfl, fun i x hx => ?_⟩
    obtain ⟨g, e1, e2, e3⟩ := hrow i x hx
    exact ⟨g, 0, e1, e2, by rw [Nat.zero_add]; exact e3⟩
  · rw [el k h1 h2 h3]
    exact hin.ro k h1 h2 h3
theorem sameSet_any {w : World} {S B B1 B2 : Nat} {b : Bool} {f : Nat → Value} {rd ex : Value} {r1 r2 : List Int} (h : TextSays t hr fr hs st iv wk ct hu un p n c pr nr cr px nx cx l dl rds exs F) (hin : SetIn w p n c pr nr cr px nx cx l dl rds exs)
    (hrt : RuleTold w S B t b f (if hr then some (opOf fr hu un ct iv l dl wk) else none)) (ho1 : w.ownsRow B1 2 1 rd r1.length (intVs r1)) (ho2 : w.ownsRow B2 2 1 ex r2.length (intVs r2)) (e1 : r1.Perm rds) (e2 : r2.Perm exs) :
    Calls Tryz.prog 15 #[.agg (rowA 22 (toldF t b f rd ex)), .agg (rowA 22 F)] w fun e w' => e = .returned (.bool true) ∧ Below w.heap.size w w' := by
  obtain ⟨q1, c1, rfl, -⟩ := own_slice ho1
  obtain ⟨q2, c2, rfl, -⟩ := own_slice ho2
  have hl1 : rds.length ≤ 1000 := by have := hin.rr.1; have := h.2.1; omega
  have hl2 : exs.length ≤ 1000 := by have := hin.rx.1; have := h.2.2.1; omega
  have ht := (says_start h).1
  cases hr with
  | false =>
    obtain ⟨rfl, rfl⟩ := hrt
    rw [rowA_congr (h.2.2.2.2.2 rfl)]
    exact sameSet_walk t false 0 0 0 0 false 0 _ _ _ pr nr cr px nx cx zRuleF q1 c1 q2 c2 r1 r2 rds exs w ht (rowO_of_own ho1) (rowO_of_own ho2) hin.rr hin.rx e1 e2 hl1 hl2 (fun e => by cases e)
  | true =>
    obtain ⟨rfl, sl, v, rfl, hrows, -, hdo⟩ := hrt
    obtain ⟨q, m, rfl, -⟩ := own_slice hdo
    rw [rowA_congr (h.2.2.2.2.1 rfl).2.2]
    refine sameSet_walk t true fr iv wk ct hu (unOf hu un) p n c pr nr cr px nx cx _ q1 c1 q2 c2 r1 r2 rds exs w ht (rowO_of_own ho1) (rowO_of_own ho2) hin.rr hin.rx e1 e2 hl1 hl2 (fun _ => ⟨_, sl, q, m, rfl, agree_of rfl h hin hrows (rowDO_of_own rfl hdo)⟩)
end
end Go.Proofs.YtnlpjncljbaapaaGreatDoor
