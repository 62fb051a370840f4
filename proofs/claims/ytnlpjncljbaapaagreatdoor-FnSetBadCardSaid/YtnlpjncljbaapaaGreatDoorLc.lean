/- Plain laws: what the lines of a set say. -/
import Derived.Test.YtnlpjncljbaapaaGreatDoorLb
import Derived.Test.YtnlpjncljbaapaaGreatDoorStx
namespace Go.Proofs.YtnlpjncljbaapaaGreatDoor
open Go.RowKit

def vis (c : UInt8) : Prop := 33 ≤ c.toNat ∧ c.toNat < 128
theorem vis_pc {c : UInt8} (h : pc c) : vis c := by unfold pc at h; unfold vis; omega
theorem vis_sp {c : UInt8} (h : vis c) : Lib.isSp c = false := by
  unfold vis at h
  have key : ∀ d : UInt8, d.toNat < 33 → (c == d) = false := fun d hd => by
    rw [beq_eq_false_iff_ne]
    rintro rfl
    omega
  unfold Lib.isSp
  rw [key 9 (by decide), key 10 (by decide), key 11 (by decide), key 12 (by decide), key 13 (by decide), key 32 (by decide)]
  rfl
theorem clean_vis {l : List UInt8} (h : ∀ c ∈ l, vis c) : Clean l where
  asc := fun b hb => (h b hb).2
  head := fun b hb => vis_sp (h b (List.mem_of_mem_head? hb))
  last := fun b hb => vis_sp (h b (List.mem_of_mem_getLast? hb))
theorem named_ok (name rest : List UInt8) (hn : Name name) (hv : ∀ c ∈ name ++ 58 :: rest, vis c) (hs : (name ++ 58 :: rest).length ≤ 1000000) : Named ⟨(name ++ 58 :: rest).toArray⟩ ⟨name.toArray⟩ ⟨rest.toArray⟩ where
  call := fun W hG => name_ok name rest W hG hn (clean_vis hv) hs
  size := by rw [Lib.size_eq, Lib.size_eq]; simp
  top := by rw [Lib.size_eq]; simpa using hs
  ext := by
    rw [Lib.extract_from, Lib.size_eq]
    simp
theorem name_rrule : Name [82, 82, 85, 76, 69] := ⟨rfl, by decide, by decide⟩
theorem name_rdate : Name [82, 68, 65, 84, 69] := ⟨rfl, by decide, by decide⟩
theorem name_exdate : Name [69, 88, 68, 65, 84, 69] := ⟨rfl, by decide, by decide⟩
theorem name_dt : Name [68, 84, 83, 84, 65, 82, 84] := ⟨rfl, by decide, by decide⟩
theorem vis_line {name rest : List UInt8} (h : ∀ c ∈ name, vis c) (k : ∀ c ∈ rest, vis c) : ∀ c ∈ name ++ 58 :: rest, vis c := fun c hc => by
  rw [List.mem_append, List.mem_cons] at hc
  rcases hc with hc | hc | hc
  · exact h c hc
  · subst hc; unfold vis; decide
  · exact k c hc
theorem dt_named (t : Int) : Named ⟨(dtL t).toArray⟩ dtB ⟨(dateL t).toArray⟩ :=
  named_ok [68, 84, 83, 84, 65, 82, 84] (dateL t) name_dt (vis_line (by unfold vis; decide) fun c h => vis_pc (pc_date t c h)) (by simp [dateL_len])
theorem date_line (t : Int) (h : 0 ≤ t ∧ t < 315537897600) (b : Bool) : LineIs ⟨((bif b then rdL t else exL t)).toArray⟩ (.dates b [t]) := by
  have hd : ∀ W, Calls Tryz.prog 99 #[.string ⟨(dateL t).toArray⟩, .agg #[]] W fun e w' => GivesTimes [t] W e w' := fun W =>
    dates_ok (dateL t) [t] W (by rw [dateL_len]; omega) (dateL_no (by decide) (by decide) (by decide) t) (fun x hx => by simp at hx; subst hx; exact h) (splitL_one (date_no (.inl rfl) t))
  cases b with
  | true => exact ⟨by simp, _, named_ok [82, 68, 65, 84, 69] (dateL t) name_rdate (vis_line (by unfold vis; decide) fun c h => vis_pc (pc_date t c h)) (by simp [dateL_len]), hd⟩
  | false => exact ⟨by simp, _, named_ok [69, 88, 68, 65, 84, 69] (dateL t) name_exdate (vis_line (by unfold vis; decide) fun c h => vis_pc (pc_date t c h)) (by simp [dateL_len]), hd⟩
theorem opt1_len (b : Bool) (x : List UInt8) : (opt1 b x).length ≤ 1 := by cases b <;> simp [opt1]
theorem lists_len (l : Nat → List Int) : ∀ k, (lists l k).length ≤ k
  | 0 => by simp [lists]
  | k + 1 => by
    rw [lists_succ, List.length_append]
    have := lists_len l k
    have := opt1_len (decide (0 < (l (gCell k)).length)) (listP l k)
    omega
theorem parts_len (fr : Nat) (hu : Bool) (un ct iv : Int) (l : Nat → List Int) (dl : List (Int × Int)) (wk : Int) : (partsL fr hu un ct iv l dl wk).length ≤ 15 := by
  unfold partsL
  simp only [List.length_append, List.length_cons, List.length_nil]
  have h1 := opt1_len hu (pTill un)
  have h2 := opt1_len (decide (0 < ct)) (pCount ct)
  have h3 := opt1_len (decide (1 < iv)) (pInterval iv)
  have h4 := lists_len l 9
  have h5 := opt1_len (decide (0 < dl.length)) (pDays dl)
  have h6 := opt1_len (decide (wk ≠ 0)) (pWkst wk)
  omega
theorem good_of {aa : List (List UInt8)} {ps : List Part} (h : Says2 aa ps) : ∀ x ∈ aa, ∃ p, Good x p := fun x hx => by
  obtain ⟨i, hi⟩ := List.getElem?_of_mem hx
  have hl := (List.getElem?_eq_some_iff.1 hi).1
  exact ⟨_, h.2 i x _ hi (List.getElem?_eq_getElem (by rw [← h.1]; exact hl))⟩
theorem joinC_head (c : UInt8) (a : List UInt8) (r : List (List UInt8)) : ∃ q, joinC c (a :: r) = a ++ q := by
  cases r with
  | nil => exact ⟨[], by simp [joinC]⟩
  | cons b r => exact ⟨_, rfl⟩
/-- The text of a rule. -/
def ruleTx (fr : Nat) (hu : Bool) (un ct iv : Int) (l : Nat → List Int) (dl : List (Int × Int)) (wk : Int) : List UInt8 := joinC 59 (partsL fr hu un ct iv l dl wk)
structure TxOk (tx : List UInt8) (xs : List (List UInt8)) : Prop where
  vis : ∀ c ∈ tx, vis c
  len : tx.length ≤ 10000
  nl : (10 : UInt8) ∉ tx
  pre : Lib.trimPrefix tx [82, 82, 85, 76, 69, 58] = tx
  split : splitL 59 tx = xs
theorem ruleTx_ok {fr : Nat} {hu : Bool} {un ct iv : Int} {l : Nat → List Int} {dl : List (Int × Int)} {wk : Int} (h : SmallR fr hu un ct iv l dl wk) : TxOk (ruleTx fr hu un ct iv l dl wk) (partsL fr hu un ct iv l dl wk) := by
  have hs := says_parts h
  have hg := good_of hs
  have hne : partsL fr hu un ct iv l dl wk ≠ [] := by intro e; have := congrArg List.length e; unfold partsL at this; simp at this
  have hv : ∀ c ∈ ruleTx fr hu un ct iv l dl wk, vis c := fun c hc => by
    rcases joinC_mem 59 _ c hc with h1 | ⟨x, hx, h1⟩
    · subst h1; unfold vis; decide
    · obtain ⟨p, hp⟩ := hg x hx
      exact vis_pc (hp.pc c h1)
  refine ⟨hv, ?_, fun h10 => ?_, ?_, ?_⟩
  · have := joinC_len 59 400 _ (fun x hx => by obtain ⟨p, hp⟩ := hg x hx; exact hp.len)
    have h2 := parts_len fr hu un ct iv l dl wk
    show (joinC 59 _).length ≤ _
    omega
  · exact absurd (hv 10 h10) (by unfold vis; decide)
  · obtain ⟨q, hq⟩ : ∃ q, ruleTx fr hu un ct iv l dl wk = 70 :: q := by
      obtain ⟨q, hq⟩ := joinC_head 59 (pFreq fr) (opt1 hu (pTill un) ++ (opt1 (decide (0 < ct)) (pCount ct) ++ (opt1 (decide (1 < iv)) (pInterval iv) ++ (lists l 9 ++ (opt1 (decide (0 < dl.length)) (pDays dl) ++ opt1 (decide (wk ≠ 0)) (pWkst wk))))))
      refine ⟨[82, 69, 81, 61] ++ frNames[fr]?.getD [] ++ q, ?_⟩
      unfold ruleTx partsL
      simp only [List.append_assoc, List.cons_append, List.nil_append]
      rw [hq]
      simp [pFreq]
    rw [hq]
    rfl
  · exact splitL_joinC 59 _ hne (fun x hx hc => by
      obtain ⟨p, hp⟩ := hg x hx
      exact absurd (hp.pc 59 hc) (by unfold pc; decide))
theorem rule_line {fr : Nat} {hu : Bool} {un ct iv : Int} {l : Nat → List Int} {dl : List (Int × Int)} {wk : Int} (h : SmallR fr hu un ct iv l dl wk) (hg : OptGood (putAll (partsP fr hu un ct iv l dl wk))) :
    LineIs ⟨(rrL (ruleTx fr hu un ct iv l dl wk)).toArray⟩ (.rule (putAll (partsP fr hu un ct iv l dl wk))) := by
  have ht := ruleTx_ok h
  refine ⟨hg, _, named_ok [82, 82, 85, 76, 69] (ruleTx fr hu un ct iv l dl wk) name_rrule (vis_line (by unfold vis; decide) ht.vis) (by have := ht.len; simp; omega), fun W hW => ?_⟩
  have hs := says_parts h
  exact opt_ok (partsP fr hu un ct iv l dl wk) (partsL fr hu un ct iv l dl wk) _ W hW (clean_vis ht.vis) (by have := ht.len; omega) ht.nl ht.pre ht.split hs.1 (fun i a p h1 h2 => (hs.2 i a p h1 h2).says) fr rfl
def t2020 : Int := 63713433600
theorem d2020 : dateL t2020 = [50, 48, 50, 48, 48, 49, 48, 49, 84, 48, 48, 48, 48, 48, 48, 90] := by rfl
/-- The lines that make no set. -/
def badL : Nat → List UInt8
  | 0 => [82, 82, 85, 76, 69]
  | 1 => [82, 68, 65, 84, 69, 58, 120]
  | 2 => [69, 88, 68, 65, 84, 69, 58, 50, 48, 50, 48]
  | 3 => [69, 88, 68, 65, 84, 69, 58, 50, 48, 50, 48, 48, 49, 48, 49, 84, 48, 48, 48, 48, 48, 48, 90, 44, 121]
  | 4 => [82, 68, 65, 84, 69, 58, 50, 48, 50, 48, 49, 51, 48, 49, 84, 48, 48, 48, 48, 48, 48, 90]
  | 5 => [82, 82, 85, 76, 69, 58, 70, 82, 69, 81, 61, 78, 69, 86, 69, 82]
  | _ => [82, 82, 85, 76, 69, 58]
theorem bad_line (k : Nat) (hk : k < 7) : LineIs ⟨(badL k).toArray⟩ .bad := by
  have hk : k = 0 ∨ k = 1 ∨ k = 2 ∨ k = 3 ∨ k = 4 ∨ k = 5 ∨ k = 6 := by omega
  rcases hk with h | h | h | h | h | h | h <;> subst h
  · exact .inl fun W hG => name_none _ W hG name_rrule (clean_vis (by unfold vis; decide)) (by decide)
  · exact .inr (.inr ⟨true, _, named_ok [82, 68, 65, 84, 69] [120] name_rdate (by unfold vis; decide) (by decide), fun W => dates_no [120] [] [120] [] W (by decide) (by decide) (fun t h => by cases h) (.inl (by decide)) (splitL_one (by decide))⟩)
  · exact .inr (.inr ⟨false, _, named_ok [69, 88, 68, 65, 84, 69] [50, 48, 50, 48] name_exdate (by unfold vis; decide) (by decide), fun W => dates_no [50, 48, 50, 48] [] [50, 48, 50, 48] [] W (by decide) (by decide) (fun t h => by cases h) (.inr (.inl rfl)) (splitL_one (by decide))⟩)
  · refine .inr (.inr ⟨false, _, named_ok [69, 88, 68, 65, 84, 69] [50, 48, 50, 48, 48, 49, 48, 49, 84, 48, 48, 48, 48, 48, 48, 90, 44, 121] name_exdate (by unfold vis; decide) (by decide), fun W => dates_no [50, 48, 50, 48, 48, 49, 48, 49, 84, 48, 48, 48, 48, 48, 48, 90, 44, 121] [t2020] [121] [] W (by decide) (by decide) (fun t h => by simp at h; subst h; unfold t2020; omega) (.inl (by decide)) ?_⟩)
    show splitL 44 ([50, 48, 50, 48, 48, 49, 48, 49, 84, 48, 48, 48, 48, 48, 48, 90] ++ 44 :: [121]) = [dateL t2020] ++ [[121]]
    rw [splitL_app (by decide), splitL_one (by decide), d2020]
    rfl
  · exact .inr (.inr ⟨true, _, named_ok [82, 68, 65, 84, 69] [50, 48, 50, 48, 49, 51, 48, 49, 84, 48, 48, 48, 48, 48, 48, 90] name_rdate (by unfold vis; decide) (by decide), fun W => dates_no _ [] [50, 48, 50, 48, 49, 51, 48, 49, 84, 48, 48, 48, 48, 48, 48, 90] [] W (by decide) (by decide) (fun t h => by cases h) (.inr (.inr rfl)) (splitL_one (by decide))⟩)
  · exact .inr (.inl ⟨_, named_ok [82, 82, 85, 76, 69] neverL name_rrule (by unfold vis; decide) (by decide), fun W hG => opt_never W hG⟩)
  · exact .inr (.inl ⟨_, named_ok [82, 82, 85, 76, 69] emptyL name_rrule (by unfold vis; decide) (by decide), fun W hG => opt_empty W hG⟩)
end Go.Proofs.YtnlpjncljbaapaaGreatDoor
