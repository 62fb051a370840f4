/- Plain laws: what the lines of a set say. -/
import Derived.Test.YtnlpjncljbaapaaGreatDoorLb
import Derived.Test.YtnlpjncljbaapaaGreatDoorTsx
namespace Go.Proofs.YtnlpjncljbaapaaGreatDoor
open Go.RowKit

def vis (c : UInt8) : Prop := 33 ≤ c.toNat ∧ c.toNat < 128
theorem vis_pc {c : UInt8} (h : pc c) : vis c := by unfold pc at h; unfold vis; omega
theorem vis_sp {c : UInt8} (h : vis c) : Lib.isSp c = false := by
  unfold vis at h
  have key : ∀ d : UInt8, d.toNat < 33 → (c == d) = false := fun d hd => by
    rw [beq_eq_false_iff_ne]
    rintro rfl
    omega
  unfold Lib.isSp
  rw [key 9 (by decide), key 10 (by decide), key 11 (by decide), key 12 (by decide), key 13 (by decide), key 32 (by decide)]
  rfl
theorem clean_vis {l : List UInt8} (h : ∀ c ∈ l, vis c) : Clean l where
  asc := fun b hb => (h b hb).2
  head := fun b hb => vis_sp (h b (List.mem_of_mem_head? hb))
  last := fun b hb => vis_sp (h b (List.mem_of_mem_getLast? hb))
theorem opt1_len (b : Bool) (x : List UInt8) : (opt1 b x).length ≤ 1 := by cases b <;> simp [opt1]
theorem lists_len (l : Nat → List Int) : ∀ k, (lists l k).length ≤ k
  | 0 => by simp [lists]
  | k + 1 => by
    rw [lists_succ, List.length_append]
    have := lists_len l k
    have := opt1_len (decide (0 < (l (gCell k)).length)) (listP l k)
    omega
theorem parts_len (fr : Nat) (hu : Bool) (un ct iv : Int) (l : Nat → List Int) (dl : List (Int × Int)) (wk : Int) : (partsL fr hu un ct iv l dl wk).length ≤ 15 := by
  unfold partsL
  simp only [List.length_append, List.length_cons, List.length_nil]
  have h1 := opt1_len hu (pTill un)
  have h2 := opt1_len (decide (0 < ct)) (pCount ct)
  have h3 := opt1_len (decide (1 < iv)) (pInterval iv)
  have h4 := lists_len l 9
  have h5 := opt1_len (decide (0 < dl.length)) (pDays dl)
  have h6 := opt1_len (decide (wk ≠ 0)) (pWkst wk)
  omega
theorem good_of {aa : List (List UInt8)} {ps : List Part} (h : Says2 aa ps) : ∀ x ∈ aa, ∃ p, Good x p := fun x hx => by
  obtain ⟨i, hi⟩ := List.getElem?_of_mem hx
  have hl := (List.getElem?_eq_some_iff.1 hi).1
  exact ⟨_, h.2 i x _ hi (List.getElem?_eq_getElem (by rw [← h.1]; exact hl))⟩
theorem joinC_head (c : UInt8) (a : List UInt8) (r : List (List UInt8)) : ∃ q, joinC c (a :: r) = a ++ q := by
  cases r with
  | nil => exact ⟨[], by simp [joinC]⟩
  | cons b r => exact ⟨_, rfl⟩
/-- The text of a rule. -/
def ruleTx (fr : Nat) (hu : Bool) (un ct iv : Int) (l : Nat → List Int) (dl : List (Int × Int)) (wk : Int) : List UInt8 := joinC 59 (partsL fr hu un ct iv l dl wk)
structure TxOk (tx : List UInt8) (xs : List (List UInt8)) : Prop where
  vis : ∀ c ∈ tx, vis c
  len : tx.length ≤ 10000
  nl : (10 : UInt8) ∉ tx
  pre : Lib.trimPrefix tx [82, 82, 85, 76, 69, 58] = tx
  split : splitL 59 tx = xs
theorem ruleTx_ok {fr : Nat} {hu : Bool} {un ct iv : Int} {l : Nat → List Int} {dl : List (Int × Int)} {wk : Int} (h : SmallR fr hu un ct iv l dl wk) : TxOk (ruleTx fr hu un ct iv l dl wk) (partsL fr hu un ct iv l dl wk) := by
  have hs := says_parts h
  have hg := good_of hs
  have hne : partsL fr hu un ct iv l dl wk ≠ [] := by intro e; have := congrArg List.length e; unfold partsL at this; simp at this
  have hv : ∀ c ∈ ruleTx fr hu un ct iv l dl wk, vis c := fun c hc => by
    rcases joinC_mem 59 _ c hc with h1 | ⟨x, hx, h1⟩
    · subst h1; unfold vis; decide
    · obtain ⟨p, hp⟩ := hg x hx
      exact vis_pc (hp.pc c h1)
  refine ⟨hv, ?_, fun h10 => ?_, ?_, ?_⟩
  · have := joinC_len 59 400 _ (fun x hx => by obtain ⟨p, hp⟩ := hg x hx; exact hp.len)
    have h2 := parts_len fr hu un ct iv l dl wk
    show (joinC 59 _).length ≤ _
    omega
  · exact absurd (hv 10 h10) (by unfold vis; decide)
  · obtain ⟨q, hq⟩ : ∃ q, ruleTx fr hu un ct iv l dl wk = 70 :: q := by
      obtain ⟨q, hq⟩ := joinC_head 59 (pFreq fr) (opt1 hu (pTill un) ++ (opt1 (decide (0 < ct)) (pCount ct) ++ (opt1 (decide (1 < iv)) (pInterval iv) ++ (lists l 9 ++ (opt1 (decide (0 < dl.length)) (pDays dl) ++ opt1 (decide (wk ≠ 0)) (pWkst wk))))))
      refine ⟨[82, 69, 81, 61] ++ frNames[fr]?.getD [] ++ q, ?_⟩
      unfold ruleTx partsL
      simp only [List.append_assoc, List.cons_append, List.nil_append]
      rw [hq]
      simp [pFreq]
    rw [hq]
    rfl
  · exact splitL_joinC 59 _ hne (fun x hx hc => by
      obtain ⟨p, hp⟩ := hg x hx
      exact absurd (hp.pc 59 hc) (by unfold pc; decide))
end Go.Proofs.YtnlpjncljbaapaaGreatDoor

/- Plain laws: the options that the parts of a clean rule's text give. -/
namespace Go.Proofs.YtnlpjncljbaapaaGreatDoor
open Go.RowKit

def optL (l : Nat → List Int) : Nat → List Int
  | 9 => l 8
  | 10 => l 9
  | 11 => l 10
  | 12 => l 11
  | 13 => l 12
  | 15 => l 14
  | 16 => l 15
  | 17 => l 16
  | 18 => l 17
  | _ => []
def optOf (fr : Nat) (hu : Bool) (un ct iv : Int) (l : Nat → List Int) (dl : List (Int × Int)) (wk : Int) : Opt :=
  { freq := fr, interval := if 1 < iv then iv else 0, wk := wk, count := if 0 < ct then ct else 0, till := if hu then un else 0, days := dl, l := optL l }
abbrev putF : Opt → Part → Opt := fun o p => p.put o
theorem putL_nil {o : Opt} {c : Nat} (h : o.l c = []) : o.putL c [] = o := by
  unfold Opt.putL
  have : (fun j => if j = c then [] else o.l j) = o.l := by
    funext j
    by_cases hj : j = c
    · subst hj; rw [if_pos rfl, h]
    · rw [if_neg hj]
  rw [this]
theorem optStep (o : Opt) (k : Nat) (lk : List Int) (hk : k < 9) (h : o.l (gCell k + 1) = []) : (optP (decide (0 < lk.length)) (gPart k lk)).foldl putF o = o.putL (gCell k + 1) lk := by
  have hput : putF o (gPart k lk) = o.putL (gCell k + 1) lk := by
    have hk : k = 0 ∨ k = 1 ∨ k = 2 ∨ k = 3 ∨ k = 4 ∨ k = 5 ∨ k = 6 ∨ k = 7 ∨ k = 8 := by omega
    rcases hk with h | h | h | h | h | h | h | h | h <;> subst h <;> rfl
  cases lk with
  | nil => simp only [List.length_nil, Nat.lt_irrefl, decide_false]; exact (putL_nil h).symm
  | cons a r => exact hput
theorem lists_fold (l : Nat → List Int) (o : Opt) (h : o.l = fun _ => []) : (listsP l 9).foldl putF o = { o with l := optL l } := by
  simp only [listsP_succ, List.foldl_append]
  rw [show (listsP l 0).foldl putF o = o from rfl]
  rw [optStep o 0 _ (by omega) (by rw [h]), optStep _ 1 _ (by omega) (by simp [Opt.putL, h, gCell]), optStep _ 2 _ (by omega) (by simp [Opt.putL, h, gCell]), optStep _ 3 _ (by omega) (by simp [Opt.putL, h, gCell]),
    optStep _ 4 _ (by omega) (by simp [Opt.putL, h, gCell]), optStep _ 5 _ (by omega) (by simp [Opt.putL, h, gCell]), optStep _ 6 _ (by omega) (by simp [Opt.putL, h, gCell]), optStep _ 7 _ (by omega) (by simp [Opt.putL, h, gCell]), optStep _ 8 _ (by omega) (by simp [Opt.putL, h, gCell])]
  simp only [Opt.putL, gCell, h]
  congr 1
  funext j
  match j with
  | 0 | 1 | 2 | 3 | 4 | 5 | 6 | 7 | 8 | 9 | 10 | 11 | 12 | 13 | 14 | 15 | 16 | 17 | 18 => rfl
  | j + 19 => simp [optL]
theorem optFold (o : Opt) (b : Bool) (p : Part) : (optP b p).foldl putF o = if b then putF o p else o := by cases b <;> rfl
theorem putAll_parts (fr : Nat) (hu : Bool) (un ct iv : Int) (l : Nat → List Int) (dl : List (Int × Int)) (wk : Int) : putAll (partsP fr hu un ct iv l dl wk) = optOf fr hu un ct iv l dl wk := by
  show (partsP fr hu un ct iv l dl wk).foldl putF {} = _
  unfold partsP
  simp only [List.foldl_append, optFold]
  rw [lists_fold]
  · unfold optOf
    by_cases h1 : hu = true <;> by_cases h2 : 0 < ct <;> by_cases h3 : 1 < iv <;> by_cases h4 : 0 < dl.length <;> by_cases h5 : wk = 0 <;> simp [h1, h2, h3, h4, h5, Part.put, putF]
    all_goals first | rfl | (simp at h4; simp [h4])
  · by_cases h1 : hu = true <;> by_cases h2 : 0 < ct <;> by_cases h3 : 1 < iv <;> simp [h1, h2, h3, Part.put, putF]
theorem inB_pm {x hi : Int} (h : -hi ≤ x ∧ x ≤ hi) (h0 : x ≠ 0) : inB x 1 hi true := by
  rcases Int.lt_or_le x 0 with h1 | h1
  · exact .inr ⟨rfl, by omega, h.1⟩
  · exact .inl ⟨by omega, h.2⟩
theorem clean_good {fr : Nat} {hs : Bool} {st iv wk ct : Int} {hu : Bool} {un : Int} {l : Nat → List Int} {dl : List (Int × Int)} (h : CleanOk fr hs st iv wk ct hu un l dl) (un' : Int) : OptGood (optOf fr hu un' ct iv l dl wk) where
  fr := ⟨by show (0 : Int) ≤ (fr : Int); omega, by show (fr : Int) ≤ 6; have := h.h_fr; omega⟩
  len := fun k => by
    show (optL l k).length ≤ 1000
    match k with
    | 9 => have := h.h_l8.1; show (l 8).length ≤ _; omega
    | 10 => have := h.h_l9.1; show (l 9).length ≤ _; omega
    | 11 => have := h.h_l10.1; show (l 10).length ≤ _; omega
    | 12 => have := h.h_l11.1; show (l 11).length ≤ _; omega
    | 13 => have := h.h_l12.1; show (l 12).length ≤ _; omega
    | 15 => have := h.h_l14.1; show (l 14).length ≤ _; omega
    | 16 => have := h.h_l15.1; show (l 15).length ≤ _; omega
    | 17 => have := h.h_l16.1; show (l 16).length ≤ _; omega
    | 18 => have := h.h_l17.1; show (l 17).length ≤ _; omega
    | 0 | 1 | 2 | 3 | 4 | 5 | 6 | 7 | 8 | 14 => exact Nat.zero_le _
    | k + 19 => simp [optL]
  dlen := by have := h.h_dl.1; show dl.length ≤ 1000; omega
  prod := Nat.le_trans h.h_prod (by decide)
  bd := fun k hk => by
    have hk : k = 0 ∨ k = 1 ∨ k = 2 ∨ k = 3 ∨ k = 4 ∨ k = 5 ∨ k = 6 ∨ k = 7 := by omega
    rcases hk with e | e | e | e | e | e | e | e <;> subst e
    · intro x hx; have := h.h_l16.2 x hx; exact .inl this
    · intro x hx; have := h.h_l15.2 x hx; exact .inl this
    · intro x hx; have := h.h_l14.2 x hx; exact .inl this
    · intro x hx; have := h.h_l10.2 x hx; exact inB_pm (hi := 31) ⟨this.1, this.2.1⟩ this.2.2
    · intro x hx; have := h.h_l11.2 x hx; exact inB_pm (hi := 366) ⟨this.1, this.2.1⟩ this.2.2
    · intro x hx; have := h.h_l12.2 x hx; exact inB_pm (hi := 53) ⟨this.1, this.2.1⟩ this.2.2
    · intro x hx; have := h.h_l9.2 x hx; exact .inl ⟨this.1, this.2.1⟩
    · intro x hx; have := h.h_l8.2 x hx; exact inB_pm (hi := 366) ⟨this.1, this.2.1⟩ this.2.2
  dbd := fun d hd => (h.h_dl.2 d hd).2
  iv := by show 0 ≤ (if 1 < iv then iv else 0); split <;> omega
end Go.Proofs.YtnlpjncljbaapaaGreatDoor
