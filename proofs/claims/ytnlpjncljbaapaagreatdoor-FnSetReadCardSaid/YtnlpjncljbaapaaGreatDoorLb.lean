/- Plain laws: what is written is read: numbers, days, pieces of a text. -/
import Derived.Test.YtnlpjncljbaapaaGreatDoorSg
import Derived.Test.YtnlpjncljbaapaaGreatDoorLs
namespace Go.Proofs.YtnlpjncljbaapaaGreatDoor
open Go.RowKit

def isD (c : UInt8) : Prop := 48 ≤ c.toNat ∧ c.toNat ≤ 57
theorem dig_of {u : Nat} (h : u < 10) : (UInt8.ofNat (48 + u)).toNat = 48 + u := by
  rw [UInt8.toNat_ofNat']
  omega
theorem decDigits_dig : ∀ u : Nat, ∀ c ∈ Lib.decDigits u, isD c := by
  intro u
  induction u using Nat.strongRecOn with
  | ind u ih =>
    intro c hc
    by_cases h : u < 10
    · rw [dec1 h, List.mem_singleton] at hc
      subst hc
      unfold isD
      rw [dig_of h]
      omega
    · rw [decS h, List.mem_append] at hc
      rcases hc with hc | hc
      · exact ih (u / 10) (by omega) c hc
      · rw [List.mem_singleton] at hc
        subst hc
        unfold isD
        rw [dig_of (show u % 10 < 10 by omega)]
        omega
theorem decDigits_ne (u : Nat) : Lib.decDigits u ≠ [] := by
  by_cases h : u < 10
  · rw [dec1 h]; simp
  · rw [decS h]; simp
theorem decFrom_app : ∀ (l r : List UInt8) (acc : Nat), Lib.decFrom acc (l ++ r) = (Lib.decFrom acc l).bind fun n => Lib.decFrom n r
  | [], r, acc => rfl
  | b :: l, r, acc => by
    simp only [List.cons_append, Lib.decFrom]
    cases Lib.digitVal b with
    | none => rfl
    | some d => exact decFrom_app l r _
theorem digitVal_of {u : Nat} (h : u < 10) : Lib.digitVal (UInt8.ofNat (48 + u)) = some u := by
  unfold Lib.digitVal
  rw [dig_of h, if_pos (by omega)]
  simp
theorem decFrom_digits : ∀ u : Nat, Lib.decFrom 0 (Lib.decDigits u) = some u := by
  intro u
  induction u using Nat.strongRecOn with
  | ind u ih =>
    by_cases h : u < 10
    · rw [dec1 h]
      simp only [Lib.decFrom, digitVal_of h]
      congr 1
      omega
    · rw [decS h, decFrom_app, ih (u / 10) (by omega)]
      simp only [Option.bind_some, Lib.decFrom, digitVal_of (show u % 10 < 10 by omega)]
      congr 1
      omega
theorem decNat_digits (u : Nat) : Lib.decNat (Lib.decDigits u) = some u := by
  unfold Lib.decNat
  rw [if_neg (by simpa using decDigits_ne u), decFrom_digits]
theorem atoi_itoa (n : Int) : Lib.atoi (Lib.itoa n) = some n := by
  unfold Lib.itoa
  by_cases h : n < 0
  · rw [if_pos h]
    simp [Lib.atoi, decNat_digits]
    omega
  · rw [if_neg h]
    cases hd : Lib.decDigits n.toNat with
    | nil => exact absurd hd (decDigits_ne _)
    | cons b r =>
      have hb := decDigits_dig n.toNat b (by rw [hd]; simp)
      have hv := decNat_digits n.toNat
      rw [hd] at hv
      have h1 : (b == 45) = false := by
        rw [beq_eq_false_iff_ne]; rintro rfl; unfold isD at hb; simp at hb
      have h2 : (b == 43) = false := by
        rw [beq_eq_false_iff_ne]; rintro rfl; unfold isD at hb; simp at hb
      simp [Lib.atoi, h1, h2, hv]
      omega
theorem itoa_sign (n : Int) : ∀ c ∈ Lib.itoa n, c = 45 ∨ isD c := by
  intro c hc
  unfold Lib.itoa at hc
  split at hc
  · simp at hc
    rcases hc with h | h
    · exact .inl h
    · exact .inr (decDigits_dig _ c h)
  · exact .inr (decDigits_dig _ c hc)
theorem itoa_ne (n : Int) : Lib.itoa n ≠ [] := by
  unfold Lib.itoa
  split
  · simp
  · exact decDigits_ne _
theorem decDigits_len : ∀ (k u : Nat), u < 10 ^ (k + 1) → (Lib.decDigits u).length ≤ k + 1
  | 0, u, h => by rw [dec1 (by simpa using h)]; simp
  | k + 1, u, h => by
    by_cases h0 : u < 10
    · rw [dec1 h0]; simp
    · rw [decS h0, List.length_append]
      have := decDigits_len k (u / 10) (by rw [Nat.pow_succ] at h; omega)
      simp
      omega
theorem itoa_len (n : Int) (h : -10000 < n ∧ n < 10000) : (Lib.itoa n).length ≤ 5 := by
  unfold Lib.itoa
  split
  · have := decDigits_len 3 n.natAbs (by omega)
    simp
    omega
  · have := decDigits_len 3 n.toNat (by omega)
    omega
theorem splitL_joinC (c : UInt8) : ∀ xs : List (List UInt8), xs ≠ [] → (∀ x ∈ xs, c ∉ x) → splitL c (joinC c xs) = xs
  | [], h, _ => absurd rfl h
  | [a], _, h => splitL_one (h a (by simp))
  | a :: b :: r, _, h => by
    show splitL c (a ++ c :: joinC c (b :: r)) = _
    rw [splitL_app (h a (by simp)), splitL_joinC c (b :: r) (by simp) (fun x hx => h x (by simp at hx ⊢; exact .inr hx))]
theorem joinC_mem (c : UInt8) : ∀ (xs : List (List UInt8)) (b : UInt8), b ∈ joinC c xs → b = c ∨ ∃ x ∈ xs, b ∈ x
  | [], b, h => by simp [joinC] at h
  | [a], b, h => .inr ⟨a, by simp, h⟩
  | a :: d :: r, b, h => by
    have h : b ∈ a ++ c :: joinC c (d :: r) := h
    rw [List.mem_append, List.mem_cons] at h
    rcases h with h | h | h
    · exact .inr ⟨a, by simp, h⟩
    · exact .inl h
    · rcases joinC_mem c (d :: r) b h with h | ⟨x, hx, hb⟩
      · exact .inl h
      · exact .inr ⟨x, by simp at hx ⊢; exact .inr hx, hb⟩
theorem not_mem_of_sign {c : UInt8} (h : c ≠ 45) (h2 : ¬ isD c) (n : Int) : c ∉ Lib.itoa n := fun hc => (itoa_sign n c hc).elim h h2
theorem areInts_itoa (l : List Int) (h : ∀ x ∈ l, -10000 < x ∧ x < 10000) : areInts (l.map Lib.itoa) l :=
  ⟨by simp, fun i p n hp hn => by
    rw [List.getElem?_map, hn] at hp
    simp at hp
    subst hp
    have := itoa_len n (h n (List.mem_of_getElem? hn))
    exact ⟨by omega, atoi_itoa n⟩⟩
theorem wd_look (k : Int) (h0 : 0 ≤ k) (h1 : k ≤ 6) : ∃ nm : List UInt8, wdNames[k.toNat]?.getD [] = nm ∧ nm.length = 2 ∧ lookL ⟨nm.toArray⟩ wkKV = some (.agg #[.int .i64 k, .int .i64 0]) ∧ ∀ c ∈ nm, 65 ≤ c.toNat ∧ c.toNat ≤ 90 := by
  have h : k = 0 ∨ k = 1 ∨ k = 2 ∨ k = 3 ∨ k = 4 ∨ k = 5 ∨ k = 6 := by omega
  rcases h with h | h | h | h | h | h | h <;> subst h <;> exact ⟨_, rfl, rfl, by rfl, by decide⟩
theorem isDay_text (d : Int × Int) (h0 : 0 ≤ d.1) (h1 : d.1 ≤ 6) (h2 : -10000 < d.2 ∧ d.2 < 10000) : isDay (dayText d) d.1 d.2 := by
  obtain ⟨nm, hnm, hl, hlk, _⟩ := wd_look d.1 h0 h1
  unfold dayText
  rw [hnm]
  by_cases hz : d.2 = 0
  · rw [if_pos hz]
    exact .inl ⟨hl, hz, hlk⟩
  · rw [if_neg hz]
    have hlen := itoa_len d.2 h2
    have hpos : 1 ≤ (Lib.itoa d.2).length := by
      have := itoa_ne d.2
      cases hi : Lib.itoa d.2 with
      | nil => exact absurd hi this
      | cons a r => simp
    refine .inr ⟨(Lib.itoa d.2).length, by rw [List.length_append, hl], hpos, by omega, ?_, ?_⟩
    · rw [List.take_left]; exact atoi_itoa _
    · rw [List.drop_left]; exact hlk
theorem dayText_sign (d : Int × Int) (h0 : 0 ≤ d.1) (h1 : d.1 ≤ 6) : ∀ c ∈ dayText d, c = 45 ∨ isD c ∨ (65 ≤ c.toNat ∧ c.toNat ≤ 90) := by
  obtain ⟨nm, hnm, hl, _, hc⟩ := wd_look d.1 h0 h1
  intro c h
  unfold dayText at h
  rw [hnm, List.mem_append] at h
  rcases h with h | h
  · split at h
    · simp at h
    · rcases itoa_sign d.2 c h with h | h
      · exact .inl h
      · exact .inr (.inl h)
  · exact .inr (.inr (hc c h))
theorem areDays_text (l : List (Int × Int)) (h : ∀ d ∈ l, (0 ≤ d.1 ∧ d.1 ≤ 6) ∧ -10000 < d.2 ∧ d.2 < 10000) : areDays (l.map dayText) l :=
  ⟨by simp, fun i p k n hp hn => by
    rw [List.getElem?_map, hn] at hp
    simp at hp
    subst hp
    have := h _ (List.mem_of_getElem? hn)
    exact isDay_text (k, n) this.1.1 this.1.2 this.2⟩
end Go.Proofs.YtnlpjncljbaapaaGreatDoor

/- Plain laws: the parts of a rule's text say the rule. -/
namespace Go.Proofs.YtnlpjncljbaapaaGreatDoor
open Go.RowKit

/-- A sign of a part. -/
def pc (c : UInt8) : Prop := 44 ≤ c.toNat ∧ c.toNat ≤ 90 ∧ c.toNat ≠ 58 ∧ c.toNat ≠ 59
theorem pc_isD {c : UInt8} (h : isD c) : pc c := by unfold isD at h; unfold pc; omega
theorem pc_itoa (n : Int) : ∀ c ∈ Lib.itoa n, pc c := fun c h => by
  rcases itoa_sign n c h with h | h
  · subst h; unfold pc; decide
  · exact pc_isD h
theorem pc_join {xs : List (List UInt8)} (h : ∀ x ∈ xs, ∀ c ∈ x, pc c) : ∀ c ∈ joinC 44 xs, pc c := fun c hc => by
  rcases joinC_mem 44 xs c hc with h1 | ⟨x, hx, h1⟩
  · subst h1; unfold pc; decide
  · exact h x hx c h1
theorem pc_upper {c : UInt8} (h : 65 ≤ c.toNat ∧ c.toNat ≤ 90) : pc c := by unfold pc; omega
theorem pc_date (t : Int) : ∀ c ∈ dateL t, pc c := fun c hc => by
  have key : ∀ c : UInt8, ¬ pc c → (c.toNat < 48 ∨ 57 < c.toNat) ∧ c ≠ 84 ∧ c ≠ 90 := fun c h => by
    refine ⟨?_, ?_, ?_⟩
    · unfold pc at h; omega
    · rintro rfl; exact h (by unfold pc; decide)
    · rintro rfl; exact h (by unfold pc; decide)
  by_cases h : pc c
  · exact h
  · obtain ⟨h1, h2, h3⟩ := key c h
    exact absurd hc (dateL_no h1 h2 h3 t)
theorem date_no {c : UInt8} (h : c = 44 ∨ c = 61) (t : Int) : c ∉ dateL t := by
  rcases h with h | h <;> subst h <;> exact dateL_no (by decide) (by decide) (by decide) t
/-- A piece of a text says a part, in signs of parts. -/
structure Good (a : List UInt8) (p : Part) : Prop where
  says : p.says a
  pc : ∀ c ∈ a, pc c
  len : a.length ≤ 400
def Says2 (aa : List (List UInt8)) (ps : List Part) : Prop := aa.length = ps.length ∧ ∀ (i : Nat) a p, aa[i]? = some a → ps[i]? = some p → Good a p
theorem Says2.nil : Says2 [] [] := ⟨rfl, fun i a p h => by simp at h⟩
theorem Says2.one {a : List UInt8} {p : Part} (h : Good a p) : Says2 [a] [p] := ⟨rfl, fun i a' p' h1 h2 => by
  cases i with
  | zero => simp at h1 h2; subst h1; subst h2; exact h
  | succ i => simp at h1⟩
theorem Says2.app {aa bs : List (List UInt8)} {ps qs : List Part} (h : Says2 aa ps) (k : Says2 bs qs) : Says2 (aa ++ bs) (ps ++ qs) := ⟨by rw [List.length_append, List.length_append, h.1, k.1], fun i a p h1 h2 => by
  by_cases hi : i < aa.length
  · rw [List.getElem?_append_left hi] at h1
    rw [List.getElem?_append_left (by rw [← h.1]; exact hi)] at h2
    exact h.2 i a p h1 h2
  · rw [List.getElem?_append_right (by omega)] at h1
    rw [List.getElem?_append_right (by rw [← h.1]; omega), ← h.1] at h2
    exact k.2 _ a p h1 h2⟩
def optP (b : Bool) (p : Part) : List Part := bif b then [p] else []
theorem Says2.opt {b : Bool} {a : List UInt8} {p : Part} (h : b = true → Good a p) : Says2 (opt1 b a) (optP b p) := by
  cases b with
  | false => exact .nil
  | true => exact .one (h rfl)
def gPart (k : Nat) (l : List Int) : Part :=
  match k with
  | 0 => .i17 l
  | 1 => .i16 l
  | 2 => .i15 l
  | 3 => .i11 l
  | 4 => .i12 l
  | 5 => .i13 l
  | 6 => .i10 l
  | 7 => .i9 l
  | _ => .i18 l
def listsP (l : Nat → List Int) (k : Nat) : List Part := (List.range k).flatMap fun j => optP (decide (0 < (l (gCell j)).length)) (gPart j (l (gCell j)))
theorem listsP_succ (l : Nat → List Int) (k : Nat) : listsP l (k + 1) = listsP l k ++ optP (decide (0 < (l (gCell k)).length)) (gPart k (l (gCell k))) := by
  unfold listsP
  rw [List.range_succ, List.flatMap_append]
  simp
def partsP (fr : Nat) (hu : Bool) (un ct iv : Int) (l : Nat → List Int) (dl : List (Int × Int)) (wk : Int) : List Part :=
  [.freq fr] ++ optP hu (.till un) ++ optP (decide (0 < ct)) (.count ct) ++ optP (decide (1 < iv)) (.interval iv) ++ listsP l 9 ++ optP (decide (0 < dl.length)) (.days dl) ++ optP (decide (wk ≠ 0)) (.wkst wk)
/-- The numbers of a rule are small. -/
structure SmallR (fr : Nat) (hu : Bool) (un ct iv : Int) (l : Nat → List Int) (dl : List (Int × Int)) (wk : Int) : Prop where
  fr : fr ≤ 6
  un : hu = true → 0 ≤ un ∧ un < 315537897600
  ct : 0 ≤ ct ∧ ct ≤ 1000
  iv : 0 ≤ iv ∧ iv ≤ 1000
  l : ∀ k, k < 9 → (l (gCell k)).length ≤ 12 ∧ ∀ x ∈ l (gCell k), -10000 < x ∧ x < 10000
  dl : dl.length ≤ 12 ∧ ∀ d ∈ dl, (0 ≤ d.1 ∧ d.1 ≤ 6) ∧ -10000 < d.2 ∧ d.2 < 10000
  wk : 0 ≤ wk ∧ wk ≤ 6
theorem good_freq (fr : Nat) (h : fr ≤ 6) : Good (pFreq fr) (.freq fr) := by
  have h : fr = 0 ∨ fr = 1 ∨ fr = 2 ∨ fr = 3 ∨ fr = 4 ∨ fr = 5 ∨ fr = 6 := by omega
  rcases h with h | h | h | h | h | h | h <;> subst h <;> exact ⟨⟨_, rfl, by decide, by decide, by decide, rfl⟩, by unfold pc; decide, by decide⟩
theorem len_ne {α : Type} {l : List α} (h : l ≠ []) : 0 < l.length := by
  cases l with
  | nil => exact absurd rfl h
  | cons a r => simp
theorem good_name {nm v : List UInt8} {p : Part} (hn : p.name = nm) (hv : v ≠ []) (h61 : (61 : UInt8) ∉ v) (hpc : ∀ c ∈ nm, 65 ≤ c.toNat ∧ c.toNat ≤ 90) (hpv : ∀ c ∈ v, pc c) (hl : v.length ≤ 380) (hnl : nm.length ≤ 10) (hval : p.val v) : Good (nm ++ 61 :: v) p :=
  ⟨⟨v, by rw [hn], hv, h61, by omega, hval⟩, fun c hc => by
    rw [List.mem_append, List.mem_cons] at hc
    rcases hc with hc | hc | hc
    · exact pc_upper (hpc c hc)
    · subst hc; unfold pc; decide
    · exact hpv c hc, by rw [List.length_append, List.length_cons]; omega⟩
theorem itoa61 (n : Int) : (61 : UInt8) ∉ Lib.itoa n := not_mem_of_sign (by decide) (by unfold isD; decide) n
theorem itoa44 (n : Int) : (44 : UInt8) ∉ Lib.itoa n := not_mem_of_sign (by decide) (by unfold isD; decide) n
theorem join61 {xs : List (List UInt8)} (h : ∀ x ∈ xs, (61 : UInt8) ∉ x) : (61 : UInt8) ∉ joinC 44 xs := fun hc => by
  rcases joinC_mem 44 xs 61 hc with h1 | ⟨x, hx, h1⟩
  · exact absurd h1 (by decide)
  · exact h x hx h1
theorem join_ne {xs : List (List UInt8)} (h0 : xs ≠ []) (h : ∀ x ∈ xs, x ≠ []) : joinC 44 xs ≠ [] := by
  match xs, h0 with
  | [a], _ => exact h a (by simp)
  | a :: b :: r, _ => simp [joinC]
theorem good_list (k : Nat) (hk : k < 9) (l : List Int) (h0 : 0 < l.length) (hl : l.length ≤ 12) (hx : ∀ x ∈ l, -10000 < x ∧ x < 10000) : Good (gNm k ++ 61 :: joinC 44 (l.map Lib.itoa)) (gPart k l) := by
  have hne : l.map Lib.itoa ≠ [] := by intro e; have := congrArg List.length e; simp at this; subst this; simp at h0
  have hv : joinC 44 (l.map Lib.itoa) ≠ [] := join_ne hne (fun x hx => by obtain ⟨y, _, rfl⟩ := List.mem_map.1 hx; exact itoa_ne y)
  have h61 : (61 : UInt8) ∉ joinC 44 (l.map Lib.itoa) := join61 (fun x hx => by obtain ⟨y, _, rfl⟩ := List.mem_map.1 hx; exact itoa61 y)
  have hpv : ∀ c ∈ joinC 44 (l.map Lib.itoa), pc c := pc_join (fun x hx => by obtain ⟨y, _, rfl⟩ := List.mem_map.1 hx; exact pc_itoa y)
  have hlen : (joinC 44 (l.map Lib.itoa)).length ≤ 380 := by
    have := joinC_len 44 5 (l.map Lib.itoa) (fun x hx' => by obtain ⟨y, hy, rfl⟩ := List.mem_map.1 hx'; exact itoa_len y (hx y hy))
    rw [List.length_map] at this
    omega
  have hval : (joinC 44 (l.map Lib.itoa)).length ≤ 100000 ∧ areInts (splitL 44 (joinC 44 (l.map Lib.itoa))) l := by
    refine ⟨by omega, ?_⟩
    rw [splitL_joinC 44 _ hne (fun x hx => by obtain ⟨y, _, rfl⟩ := List.mem_map.1 hx; exact itoa44 y)]
    exact areInts_itoa l hx
  have hk : k = 0 ∨ k = 1 ∨ k = 2 ∨ k = 3 ∨ k = 4 ∨ k = 5 ∨ k = 6 ∨ k = 7 ∨ k = 8 := by omega
  rcases hk with h | h | h | h | h | h | h | h | h <;> subst h <;> exact good_name rfl hv h61 (by decide) hpv hlen (by decide) hval
theorem says_lists (l : Nat → List Int) (h : ∀ k, k < 9 → (l (gCell k)).length ≤ 12 ∧ ∀ x ∈ l (gCell k), -10000 < x ∧ x < 10000) : ∀ k, k ≤ 9 → Says2 (lists l k) (listsP l k)
  | 0, _ => .nil
  | k + 1, hk => by
    rw [lists_succ, listsP_succ]
    exact (says_lists l h k (by omega)).app (.opt fun hb => good_list k (by omega) _ (of_decide_eq_true hb) (h k (by omega)).1 (h k (by omega)).2)
theorem says_parts {fr : Nat} {hu : Bool} {un ct iv : Int} {l : Nat → List Int} {dl : List (Int × Int)} {wk : Int} (h : SmallR fr hu un ct iv l dl wk) : Says2 (partsL fr hu un ct iv l dl wk) (partsP fr hu un ct iv l dl wk) := by
  unfold partsL partsP
  refine ((((((Says2.one (good_freq fr h.fr)).app (.opt fun hb => ?_)).app (.opt fun hb => ?_)).app (.opt fun hb => ?_)).app (says_lists l h.l 9 (Nat.le_refl _))).app (.opt fun hb => ?_)).app (.opt fun hb => ?_)
  · exact good_name (nm := [85, 78, 84, 73, 76]) (v := dateL un) rfl (by intro e; have := congrArg List.length e; rw [dateL_len] at this; simp at this) (date_no (.inr rfl) un) (by decide) (pc_date un) (by rw [dateL_len]; omega) (by decide) ⟨rfl, h.un hb⟩
  · exact good_name (nm := [67, 79, 85, 78, 84]) (v := Lib.itoa ct) rfl (itoa_ne ct) (itoa61 ct) (by decide) (pc_itoa ct) (by have := itoa_len ct (by have := h.ct; omega); omega) (by decide) ⟨by have := itoa_len ct (by have := h.ct; omega); omega, atoi_itoa ct⟩
  · exact good_name (nm := [73, 78, 84, 69, 82, 86, 65, 76]) (v := Lib.itoa iv) rfl (itoa_ne iv) (itoa61 iv) (by decide) (pc_itoa iv) (by have := itoa_len iv (by have := h.iv; omega); omega) (by decide) ⟨by have := itoa_len iv (by have := h.iv; omega); omega, atoi_itoa iv⟩
  · have h0 := of_decide_eq_true hb
    have hne : dl.map dayText ≠ [] := by intro e; have := congrArg List.length e; simp at this; subst this; simp at h0
    have hsg : ∀ x ∈ dl.map dayText, ∀ c ∈ x, c = 45 ∨ isD c ∨ (65 ≤ c.toNat ∧ c.toNat ≤ 90) := fun x hx => by
      obtain ⟨d, hd, rfl⟩ := List.mem_map.1 hx
      exact dayText_sign d (h.dl.2 d hd).1.1 (h.dl.2 d hd).1.2
    have hno : ∀ e : UInt8, e ≠ 45 → ¬ isD e → ¬ (65 ≤ e.toNat ∧ e.toNat ≤ 90) → ∀ x ∈ dl.map dayText, e ∉ x := fun e h1 h2 h3 x hx hc => by
      rcases hsg x hx e hc with h | h | h
      · exact h1 h
      · exact h2 h
      · exact h3 h
    have hlen : (joinC 44 (dl.map dayText)).length ≤ 380 := by
      have := joinC_len 44 7 (dl.map dayText) (fun x hx => by
        obtain ⟨d, hd, rfl⟩ := List.mem_map.1 hx
        obtain ⟨b, hb, hl, _⟩ := wd_at d.1 (h.dl.2 d hd).1.1 (h.dl.2 d hd).1.2
        unfold dayText
        rw [hb, List.length_append, hl]
        have := itoa_len d.2 (h.dl.2 d hd).2
        split <;> simp <;> omega)
      rw [List.length_map] at this
      have := h.dl.1
      omega
    refine good_name (nm := [66, 89, 68, 65, 89]) (v := joinC 44 (dl.map dayText)) rfl (join_ne hne fun x hx => ?_) (join61 (hno 61 (by decide) (by unfold isD; decide) (by decide))) (by decide) (pc_join fun x hx c hc => ?_) hlen (by decide) ⟨by omega, ?_⟩
    · obtain ⟨d, hd, rfl⟩ := List.mem_map.1 hx
      obtain ⟨b, hb, hl, _⟩ := wd_at d.1 (h.dl.2 d hd).1.1 (h.dl.2 d hd).1.2
      unfold dayText
      rw [hb]
      intro e
      have := congrArg List.length e
      rw [List.length_append, hl] at this
      simp at this
    · rcases hsg x hx c hc with h | h | h
      · subst h; unfold pc; decide
      · exact pc_isD h
      · exact pc_upper h
    · rw [splitL_joinC 44 _ hne (hno 44 (by decide) (by unfold isD; decide) (by decide))]
      exact areDays_text dl h.dl.2
  · obtain ⟨nm, hnm, hl, hlk, hc⟩ := wd_look wk h.wk.1 h.wk.2
    have e : pWkst wk = [87, 75, 83, 84] ++ 61 :: nm := by unfold pWkst; rw [hnm]; rfl
    rw [e]
    refine good_name (nm := [87, 75, 83, 84]) rfl (by intro e; rw [e] at hl; simp at hl) (fun hc' => ?_) (by decide) (fun c h' => pc_upper (hc c h')) (by omega) (by decide) (.inl ⟨hl, rfl, hlk⟩)
    have := hc 61 hc'
    exact absurd this (by decide)
end Go.Proofs.YtnlpjncljbaapaaGreatDoor
