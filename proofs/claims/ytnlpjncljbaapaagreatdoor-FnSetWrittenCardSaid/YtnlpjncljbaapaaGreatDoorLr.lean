/- Plain laws: the package's own text of a rule says this rule. -/
import Derived.Test.YtnlpjncljbaapaaGreatDoorWu
import Derived.Test.YtnlpjncljbaapaaGreatDoorLd
namespace Go.Proofs.YtnlpjncljbaapaaGreatDoor
open Go.RowKit

theorem atoi_sgn (n : Int) : Lib.atoi (sgnL n) = some n := by
  unfold sgnL
  by_cases h : n < 0
  · rw [if_pos h]; exact atoi_itoa n
  · rw [if_neg h]
    unfold Lib.itoa
    rw [if_neg h]
    simp [Lib.atoi, decNat_digits]
    omega
theorem sgn_sign (n : Int) : ∀ c ∈ sgnL n, c = 45 ∨ c = 43 ∨ isD c := by
  intro c hc
  unfold sgnL at hc
  split at hc
  · rcases itoa_sign n c hc with h | h
    · exact .inl h
    · exact .inr (.inr h)
  · rcases List.mem_cons.1 hc with h | h
    · exact .inr (.inl h)
    · rcases itoa_sign n c h with h | h
      · exact .inl h
      · exact .inr (.inr h)
theorem sgn_len (n : Int) (h : -10000 < n ∧ n < 10000) : 1 ≤ (sgnL n).length ∧ (sgnL n).length ≤ 6 := by
  have h1 := itoa_len n h
  have h2 := len_ne (itoa_ne n)
  unfold sgnL
  split
  · omega
  · rw [List.length_cons]; omega
theorem isDay_wstr (d : Int × Int) (h0 : 0 ≤ d.1) (h1 : d.1 ≤ 6) (h2 : -10000 < d.2 ∧ d.2 < 10000) : isDay (wstrL d) d.1 d.2 := by
  obtain ⟨nm, hnm, hl, hlk, _⟩ := wd_look d.1 h0 h1
  unfold wstrL
  rw [hnm]
  by_cases hz : d.2 = 0
  · rw [if_pos hz]
    exact .inl ⟨hl, hz, hlk⟩
  · rw [if_neg hz]
    have hlen := sgn_len d.2 h2
    refine .inr ⟨(sgnL d.2).length, by rw [List.length_append, hl], hlen.1, by omega, ?_, ?_⟩
    · rw [List.take_left]; exact atoi_sgn _
    · rw [List.drop_left]; exact hlk
theorem wstr_sign (d : Int × Int) (h0 : 0 ≤ d.1) (h1 : d.1 ≤ 6) : ∀ c ∈ wstrL d, c = 45 ∨ c = 43 ∨ isD c ∨ (65 ≤ c.toNat ∧ c.toNat ≤ 90) := by
  obtain ⟨nm, hnm, hl, _, hc⟩ := wd_look d.1 h0 h1
  intro c h
  unfold wstrL at h
  rw [hnm, List.mem_append] at h
  rcases h with h | h
  · split at h
    · simp at h
    · rcases sgn_sign d.2 c h with h | h | h
      · exact .inl h
      · exact .inr (.inl h)
      · exact .inr (.inr (.inl h))
  · exact .inr (.inr (.inr (hc c h)))
theorem wstr_len (d : Int × Int) (h0 : 0 ≤ d.1) (h1 : d.1 ≤ 6) (h2 : -10000 < d.2 ∧ d.2 < 10000) : 2 ≤ (wstrL d).length ∧ (wstrL d).length ≤ 8 := by
  obtain ⟨nm, hnm, hl, _, _⟩ := wd_look d.1 h0 h1
  have hlen := sgn_len d.2 h2
  unfold wstrL
  rw [hnm, List.length_append, hl]
  split
  · simp
  · omega
theorem areDays_wstr (l : List (Int × Int)) (h : ∀ d ∈ l, (0 ≤ d.1 ∧ d.1 ≤ 6) ∧ -10000 < d.2 ∧ d.2 < 10000) : areDays (l.map wstrL) l :=
  ⟨by simp, fun i p k n hp hn => by
    rw [List.getElem?_map, hn] at hp
    simp at hp
    subst hp
    have := h _ (List.mem_of_getElem? hn)
    exact isDay_wstr (k, n) this.1.1 this.1.2 this.2⟩
theorem good_days (dl : List (Int × Int)) (h0 : 0 < dl.length) (hl : dl.length ≤ 12) (h : ∀ d ∈ dl, (0 ≤ d.1 ∧ d.1 ≤ 6) ∧ -10000 < d.2 ∧ d.2 < 10000) : Good (dayP dl) (.days dl) := by
  have hne : dl.map wstrL ≠ [] := by intro e; have := congrArg List.length e; simp at this; subst this; simp at h0
  have hsg : ∀ x ∈ dl.map wstrL, ∀ c ∈ x, c = 45 ∨ c = 43 ∨ isD c ∨ (65 ≤ c.toNat ∧ c.toNat ≤ 90) := fun x hx => by
    obtain ⟨d, hd, rfl⟩ := List.mem_map.1 hx
    exact wstr_sign d (h d hd).1.1 (h d hd).1.2
  have hno : ∀ e : UInt8, e ≠ 45 → e ≠ 43 → ¬ isD e → ¬ (65 ≤ e.toNat ∧ e.toNat ≤ 90) → ∀ x ∈ dl.map wstrL, e ∉ x := fun e h1 h2 h3 h4 x hx hc => by
    rcases hsg x hx e hc with h | h | h | h
    · exact h1 h
    · exact h2 h
    · exact h3 h
    · exact h4 h
  have hlen : (joinC 44 (dl.map wstrL)).length ≤ 380 := by
    have := joinC_len 44 8 (dl.map wstrL) (fun x hx => by
      obtain ⟨d, hd, rfl⟩ := List.mem_map.1 hx
      exact (wstr_len d (h d hd).1.1 (h d hd).1.2 (h d hd).2).2)
    rw [List.length_map] at this
    omega
  refine good_name (nm := [66, 89, 68, 65, 89]) (v := joinC 44 (dl.map wstrL)) rfl (join_ne hne fun x hx => ?_) (join61 (hno 61 (by decide) (by decide) (by unfold isD; decide) (by decide))) (by decide) (pc_join fun x hx c hc => ?_) hlen (by decide) ⟨by omega, ?_⟩
  · obtain ⟨d, hd, rfl⟩ := List.mem_map.1 hx
    intro e
    have := (wstr_len d (h d hd).1.1 (h d hd).1.2 (h d hd).2).1
    rw [e] at this
    simp at this
  · rcases hsg x hx c hc with h | h | h | h
    · subst h; unfold pc; decide
    · subst h; unfold pc; decide
    · exact pc_isD h
    · exact pc_upper h
  · rw [splitL_joinC 44 _ hne (hno 44 (by decide) (by decide) (by unfold isD; decide) (by decide))]
    exact areDays_wstr dl h
/-- Which list it is. -/
def oG : Nat → Nat
  | 9 => 7
  | 10 => 6
  | 11 => 3
  | 12 => 4
  | 13 => 5
  | 15 => 2
  | 16 => 1
  | 17 => 0
  | _ => 8
def oK (k : Nat) : Prop := k = 9 ∨ k = 10 ∨ k = 11 ∨ k = 12 ∨ k = 13 ∨ k = 15 ∨ k = 16 ∨ k = 17 ∨ k = 18
def numQ (o : Opt) (k : Nat) : List Part := optP (decide (0 < (o.l k).length)) (gPart (oG k) (o.l k))
def oParts (o : Opt) : List Part := [.freq o.freq] ++ optP (decide (o.interval ≠ 0)) (.interval o.interval) ++ optP (decide (o.wk ≠ 0)) (.wkst o.wk) ++ optP (decide (o.count ≠ 0)) (.count o.count) ++ optP (decide (o.till ≠ 0)) (.till o.till)
  ++ numQ o 9 ++ numQ o 10 ++ numQ o 11 ++ numQ o 12 ++ numQ o 13 ++ optP (decide (0 < o.days.length)) (.days o.days) ++ numQ o 15 ++ numQ o 16 ++ numQ o 17 ++ numQ o 18
theorem good_num (k : Nat) (hk : oK k) (l : List Int) (h0 : 0 < l.length) (hl : l.length ≤ 12) (hx : ∀ x ∈ l, -10000 < x ∧ x < 10000) : Good (numP (oNm k) l) (gPart (oG k) l) := by
  rcases hk with h | h | h | h | h | h | h | h | h <;> subst h
  · exact good_list 7 (by decide) l h0 hl hx
  · exact good_list 6 (by decide) l h0 hl hx
  · exact good_list 3 (by decide) l h0 hl hx
  · exact good_list 4 (by decide) l h0 hl hx
  · exact good_list 5 (by decide) l h0 hl hx
  · exact good_list 2 (by decide) l h0 hl hx
  · exact good_list 1 (by decide) l h0 hl hx
  · exact good_list 0 (by decide) l h0 hl hx
  · exact good_list 8 (by decide) l h0 hl hx
theorem oK_in {k : Nat} (h : oK k) : 9 ≤ k ∧ k < 19 ∧ k ≠ 14 := by unfold oK at h; omega
theorem says_num {o : Opt} (h : OptSmall o) (k : Nat) (hk : oK k) : Says2 (numO o k) (numQ o k) := by
  obtain ⟨h1, h2, h3⟩ := oK_in hk
  have hl := h.l k h1 h2 h3
  exact .opt fun hb => good_num k hk _ (of_decide_eq_true hb) hl.1 (fun x hx => by have := hl.2 x hx; omega)
theorem says_opt {o : Opt} (h : OptSmall o) : Says2 (optTx o) (oParts o) := by
  unfold optTx optB optA optA3 optA2 optA1 optA0 oParts
  have hn := says_num h
  have hfr : ((o.freq.toNat : Nat) : Int) = o.freq := by have := h.fr; omega
  have hf : Good (pFreq o.freq.toNat) (.freq o.freq) := by
    have := good_freq o.freq.toNat (by have := h.fr; omega)
    rwa [hfr] at this
  refine ((((((((((((((Says2.one hf).app ?_).app ?_).app ?_).app ?_).app (hn 9 (by simp [oK]))).app (hn 10 (by simp [oK]))).app (hn 11 (by simp [oK]))).app (hn 12 (by simp [oK]))).app (hn 13 (by simp [oK]))).app ?_).app (hn 15 (by simp [oK]))).app (hn 16 (by simp [oK]))).app (hn 17 (by simp [oK]))).app (hn 18 (by simp [oK]))
  · exact .opt fun hb => good_name (nm := [73, 78, 84, 69, 82, 86, 65, 76]) (v := Lib.itoa o.interval) rfl (itoa_ne _) (itoa61 _) (by decide) (pc_itoa _) (by have := itoa_len o.interval (by have := h.iv; omega); omega) (by decide) ⟨by have := itoa_len o.interval (by have := h.iv; omega); omega, atoi_itoa _⟩
  · refine .opt fun hb => ?_
    obtain ⟨nm, hnm, hl, hlk, hc⟩ := wd_look o.wk h.wk.1 h.wk.2
    have e : pWkst o.wk = [87, 75, 83, 84] ++ 61 :: nm := by unfold pWkst; rw [hnm]; rfl
    rw [e]
    refine good_name (nm := [87, 75, 83, 84]) rfl (by intro e; rw [e] at hl; simp at hl) (fun hc' => ?_) (by decide) (fun c h' => pc_upper (hc c h')) (by omega) (by decide) (.inl ⟨hl, rfl, hlk⟩)
    have := hc 61 hc'
    exact absurd this (by decide)
  · exact .opt fun hb => good_name (nm := [67, 79, 85, 78, 84]) (v := Lib.itoa o.count) rfl (itoa_ne _) (itoa61 _) (by decide) (pc_itoa _) (by have := itoa_len o.count (by have := h.ct; omega); omega) (by decide) ⟨by have := itoa_len o.count (by have := h.ct; omega); omega, atoi_itoa _⟩
  · exact .opt fun hb => good_name (nm := [85, 78, 84, 73, 76]) (v := dateL o.till) rfl (by intro e; have := congrArg List.length e; rw [dateL_len] at this; simp at this) (date_no (.inr rfl) _) (by decide) (pc_date _) (by rw [dateL_len]; omega) (by decide) ⟨rfl, h.un⟩
  · exact .opt fun hb => good_days _ (of_decide_eq_true hb) h.dl.1 (fun d hd => ⟨(h.dl.2 d hd).1, by have := (h.dl.2 d hd).2; omega⟩)
theorem num_len (o : Opt) (k : Nat) : (numO o k).length ≤ 1 := opt1_len _ _
theorem optTx_len (o : Opt) : (optTx o).length ≤ 16 := by
  unfold optTx optB optA optA3 optA2 optA1 optA0 dayO ivO wkO ctO unO
  simp only [List.length_append, List.length_cons, List.length_nil]
  have h1 := opt1_len (decide (o.interval ≠ 0)) (pInterval o.interval)
  have h2 := opt1_len (decide (o.wk ≠ 0)) (pWkst o.wk)
  have h3 := opt1_len (decide (o.count ≠ 0)) (pCount o.count)
  have h4 := opt1_len (decide (o.till ≠ 0)) (pTill o.till)
  have h5 := opt1_len (decide (0 < o.days.length)) (dayP o.days)
  have := num_len o 9
  have := num_len o 10
  have := num_len o 11
  have := num_len o 12
  have := num_len o 13
  have := num_len o 15
  have := num_len o 16
  have := num_len o 17
  have := num_len o 18
  omega
theorem optTx_head (o : Opt) : ∃ r, optTx o = pFreq o.freq.toNat :: r := by
  unfold optTx optB optA optA3 optA2 optA1 optA0
  simp only [List.append_assoc, List.cons_append, List.nil_append]
  exact ⟨_, rfl⟩
theorem rrTx_ok {o : Opt} (h : OptSmall o) : TxOk (rrTx o) (optTx o) := by
  have hs := says_opt h
  have hg := good_of hs
  obtain ⟨r, hr⟩ := optTx_head o
  have hne : optTx o ≠ [] := by rw [hr]; simp
  have hv : ∀ c ∈ rrTx o, vis c := fun c hc => by
    rcases joinC_mem 59 _ c hc with h1 | ⟨x, hx, h1⟩
    · subst h1; unfold vis; decide
    · obtain ⟨p, hp⟩ := hg x hx
      exact vis_pc (hp.pc c h1)
  refine ⟨hv, ?_, fun h10 => ?_, ?_, ?_⟩
  · have := joinC_len 59 400 _ (fun x hx => by obtain ⟨p, hp⟩ := hg x hx; exact hp.len)
    have h2 := optTx_len o
    show (joinC 59 _).length ≤ _
    omega
  · exact absurd (hv 10 h10) (by unfold vis; decide)
  · obtain ⟨q, hq⟩ : ∃ q, rrTx o = 70 :: q := by
      obtain ⟨q, hq⟩ := joinC_head 59 (pFreq o.freq.toNat) r
      refine ⟨[82, 69, 81, 61] ++ frNames[o.freq.toNat]?.getD [] ++ q, ?_⟩
      unfold rrTx
      rw [hr, hq]
      simp [pFreq]
    rw [hq]
    rfl
  · exact splitL_joinC 59 _ hne (fun x hx hc => by
      obtain ⟨p, hp⟩ := hg x hx
      exact absurd (hp.pc 59 hc) (by unfold pc; decide))
theorem numQ_fold (o x : Opt) (k : Nat) (hk : oK k) (h : x.l k = []) : (numQ o k).foldl putF x = x.putL k (o.l k) := by
  have hput : ∀ l, putF x (gPart (oG k) l) = x.putL k l := fun l => by
    rcases hk with h | h | h | h | h | h | h | h | h <;> subst h <;> rfl
  unfold numQ
  cases hl : o.l k with
  | nil => exact (putL_nil h).symm
  | cons a r => exact hput _
theorem stW (x : Opt) (v : Int) (h : x.wk = 0) : (optP (decide (v ≠ 0)) (.wkst v)).foldl putF x = { x with wk := v } := by
  by_cases hv : v = 0
  · subst hv; cases x; simp only at h; subst h; rfl
  · rw [show decide (v ≠ 0) = true from decide_eq_true hv]; rfl
theorem stC (x : Opt) (v : Int) (h : x.count = 0) : (optP (decide (v ≠ 0)) (.count v)).foldl putF x = { x with count := v } := by
  by_cases hv : v = 0
  · subst hv; cases x; simp only at h; subst h; rfl
  · rw [show decide (v ≠ 0) = true from decide_eq_true hv]; rfl
theorem stU (x : Opt) (v : Int) (h : x.till = 0) : (optP (decide (v ≠ 0)) (.till v)).foldl putF x = { x with till := v } := by
  by_cases hv : v = 0
  · subst hv; cases x; simp only at h; subst h; rfl
  · rw [show decide (v ≠ 0) = true from decide_eq_true hv]; rfl
theorem stD (x : Opt) (v : List (Int × Int)) (h : x.days = []) : (optP (decide (0 < v.length)) (.days v)).foldl putF x = { x with days := v } := by
  cases v with
  | nil => cases x; simp only at h; subst h; rfl
  | cons a r => rfl
theorem rrTx_len {o : Opt} (h : OptSmall o) : (rrTx o).length ≤ 10000 := (rrTx_ok h).len
end Go.Proofs.YtnlpjncljbaapaaGreatDoor
