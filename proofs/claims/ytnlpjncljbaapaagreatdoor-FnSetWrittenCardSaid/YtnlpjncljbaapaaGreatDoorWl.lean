/- Plain laws: the package's own lines of a set say this set, to the specification. -/
import Derived.Test.YtnlpjncljbaapaaGreatDoorRt
import Derived.Test.YtnlpjncljbaapaaGreatDoorLr
namespace Go.Proofs.YtnlpjncljbaapaaGreatDoor
open Go.RowKit

/-- Pieces say parts, to the specification. -/
def SaysS (aa : List (List UInt8)) (ps : List Part) : Prop := aa.length = ps.length ∧ ∀ (i : Nat) a p, aa[i]? = some a → ps[i]? = some p → p.ssays a ∧ a.length ≤ 120 ∧ (58 : UInt8) ∉ a
theorem SaysS.nil : SaysS [] [] := ⟨rfl, fun i a p h => by simp at h⟩
theorem SaysS.one {a : List UInt8} {p : Part} (h : p.ssays a ∧ a.length ≤ 120 ∧ (58 : UInt8) ∉ a) : SaysS [a] [p] := ⟨rfl, fun i a' p' h1 h2 => by
  cases i with
  | zero => simp at h1 h2; subst h1; subst h2; exact h
  | succ i => simp at h1⟩
theorem SaysS.app {aa bs : List (List UInt8)} {ps qs : List Part} (h : SaysS aa ps) (k : SaysS bs qs) : SaysS (aa ++ bs) (ps ++ qs) := ⟨by rw [List.length_append, List.length_append, h.1, k.1], fun i a p h1 h2 => by
  by_cases hi : i < aa.length
  · rw [List.getElem?_append_left hi] at h1
    rw [List.getElem?_append_left (by rw [← h.1]; exact hi)] at h2
    exact h.2 i a p h1 h2
  · rw [List.getElem?_append_right (by omega)] at h1
    rw [List.getElem?_append_right (by rw [← h.1]; omega), ← h.1] at h2
    exact k.2 _ a p h1 h2⟩
theorem SaysS.opt {b : Bool} {a : List UInt8} {p : Part} (h : b = true → p.ssays a ∧ a.length ≤ 120 ∧ (58 : UInt8) ∉ a) : SaysS (opt1 b a) (optP b p) := by
  cases b with
  | false => exact .nil
  | true => exact .one (h rfl)
theorem ss_name {nm v : List UInt8} {p : Part} (hn : p.name = nm) (h61 : (61 : UInt8) ∉ v) (h58 : (58 : UInt8) ∉ v) (hn58 : (58 : UInt8) ∉ nm) (hl : v.length ≤ 109) (hnl : nm.length ≤ 10) (hval : p.sval v) : p.ssays (nm ++ 61 :: v) ∧ (nm ++ 61 :: v).length ≤ 120 ∧ (58 : UInt8) ∉ nm ++ 61 :: v :=
  ⟨⟨v, by rw [hn], h61, by omega, hval⟩, by rw [List.length_append, List.length_cons]; omega, fun h => by
    rw [List.mem_append, List.mem_cons] at h
    rcases h with h | h | h
    · exact hn58 h
    · exact absurd h (by decide)
    · exact h58 h⟩
theorem itoa58 (n : Int) : (58 : UInt8) ∉ Lib.itoa n := not_mem_of_sign (by decide) (by unfold isD; decide) n
theorem join58 {xs : List (List UInt8)} (h : ∀ x ∈ xs, (58 : UInt8) ∉ x) : (58 : UInt8) ∉ joinC 44 xs := fun hc => by
  rcases joinC_mem 44 xs 58 hc with h1 | ⟨x, hx, h1⟩
  · exact absurd h1 (by decide)
  · exact h x hx h1
theorem ss_num (k : Nat) (hk : oK k) (l : List Int) (h0 : 0 < l.length) (hl : l.length ≤ 12) (hx : ∀ x ∈ l, -10000 < x ∧ x < 10000) : (gPart (oG k) l).ssays (numP (oNm k) l) ∧ (numP (oNm k) l).length ≤ 120 ∧ (58 : UInt8) ∉ numP (oNm k) l := by
  have hne : l.map Lib.itoa ≠ [] := by intro e; have := congrArg List.length e; simp at this; subst this; simp at h0
  have h61 : (61 : UInt8) ∉ joinC 44 (l.map Lib.itoa) := join61 (fun x hx => by obtain ⟨y, _, rfl⟩ := List.mem_map.1 hx; exact itoa61 y)
  have h58 : (58 : UInt8) ∉ joinC 44 (l.map Lib.itoa) := join58 (fun x hx => by obtain ⟨y, _, rfl⟩ := List.mem_map.1 hx; exact itoa58 y)
  have hlen : (joinC 44 (l.map Lib.itoa)).length ≤ 109 := by
    have := joinC_len 44 5 (l.map Lib.itoa) (fun x hx' => by obtain ⟨y, hy, rfl⟩ := List.mem_map.1 hx'; exact itoa_len y (hx y hy))
    rw [List.length_map] at this
    omega
  have hval : (joinC 44 (l.map Lib.itoa)).length ≤ 100000 ∧ (splitL 44 (joinC 44 (l.map Lib.itoa))).length = l.length ∧ ∀ (i : Nat) p n, (splitL 44 (joinC 44 (l.map Lib.itoa)))[i]? = some p → l[i]? = some n → isNum p n := by
    rw [splitL_joinC 44 _ hne (fun x hx => by obtain ⟨y, _, rfl⟩ := List.mem_map.1 hx; exact itoa44 y)]
    refine ⟨by omega, by simp, fun i p n hp hn => ?_⟩
    rw [List.getElem?_map, hn] at hp
    simp at hp
    subst hp
    exact isNum_itoa n (hx n (List.mem_of_getElem? hn))
  rcases hk with h | h | h | h | h | h | h | h | h <;> subst h <;> exact ss_name rfl h61 h58 (by decide) hlen (by decide) hval
theorem ss_days (dl : List (Int × Int)) (h0 : 0 < dl.length) (hl : dl.length ≤ 12) (h : ∀ d ∈ dl, (0 ≤ d.1 ∧ d.1 ≤ 6) ∧ -10000 < d.2 ∧ d.2 < 10000) : (Part.days dl).ssays (dayP dl) ∧ (dayP dl).length ≤ 120 ∧ (58 : UInt8) ∉ dayP dl := by
  have hne : dl.map wstrL ≠ [] := by intro e; have := congrArg List.length e; simp at this; subst this; simp at h0
  have hno : ∀ e : UInt8, e ≠ 45 → e ≠ 43 → ¬ isD e → ¬ (65 ≤ e.toNat ∧ e.toNat ≤ 90) → ∀ x ∈ dl.map wstrL, e ∉ x := fun e h1 h2 h3 h4 x hx hc => by
    obtain ⟨d, hd, rfl⟩ := List.mem_map.1 hx
    rcases wstr_sign d (h d hd).1.1 (h d hd).1.2 e hc with h | h | h | h
    · exact h1 h
    · exact h2 h
    · exact h3 h
    · exact h4 h
  have hlen : (joinC 44 (dl.map wstrL)).length ≤ 109 := by
    have := joinC_len 44 8 (dl.map wstrL) (fun x hx => by
      obtain ⟨d, hd, rfl⟩ := List.mem_map.1 hx
      exact (wstr_len d (h d hd).1.1 (h d hd).1.2 (h d hd).2).2)
    rw [List.length_map] at this
    omega
  refine ss_name (nm := [66, 89, 68, 65, 89]) (v := joinC 44 (dl.map wstrL)) rfl (join61 (hno 61 (by decide) (by decide) (by unfold isD; decide) (by decide))) (join58 (hno 58 (by decide) (by decide) (by unfold isD; decide) (by decide))) (by decide) hlen (by decide) ⟨by omega, ?_⟩
  rw [splitL_joinC 44 _ hne (hno 44 (by decide) (by decide) (by unfold isD; decide) (by decide))]
  refine ⟨by simp, fun i p d hp hd => ?_⟩
  rw [List.getElem?_map, hd] at hp
  simp at hp
  subst hp
  exact isWd_wstr d (h d (List.mem_of_getElem? hd))
theorem saysS_opt {o : Opt} (h : OptSmall o) : SaysS (optTx o) (oParts o) := by
  unfold optTx optB optA optA3 optA2 optA1 optA0 oParts
  have hn : ∀ k, oK k → SaysS (numO o k) (numQ o k) := fun k hk => by
    obtain ⟨h1, h2, h3⟩ := oK_in hk
    have hl := h.l k h1 h2 h3
    exact .opt fun hb => ss_num k hk _ (of_decide_eq_true hb) hl.1 (fun x hx => by have := hl.2 x hx; omega)
  have hf : (Part.freq o.freq).ssays (pFreq o.freq.toNat) ∧ (pFreq o.freq.toNat).length ≤ 120 ∧ (58 : UInt8) ∉ pFreq o.freq.toNat := by
    have hfr : o.freq = 0 ∨ o.freq = 1 ∨ o.freq = 2 ∨ o.freq = 3 ∨ o.freq = 4 ∨ o.freq = 5 ∨ o.freq = 6 := by have := h.fr; omega
    have key : ∀ i : Int, (i = 0 ∨ i = 1 ∨ i = 2 ∨ i = 3 ∨ i = 4 ∨ i = 5 ∨ i = 6) → (Part.freq i).ssays (pFreq i.toNat) ∧ (pFreq i.toNat).length ≤ 120 ∧ (58 : UInt8) ∉ pFreq i.toNat := fun i hi => by
      rcases hi with e | e | e | e | e | e | e <;> subst e <;> exact ⟨⟨_, rfl, by decide, by decide, by decide, by decide, rfl⟩, by decide, by decide⟩
    exact key o.freq hfr
  refine ((((((((((((((SaysS.one hf).app ?_).app ?_).app ?_).app ?_).app (hn 9 (by simp [oK]))).app (hn 10 (by simp [oK]))).app (hn 11 (by simp [oK]))).app (hn 12 (by simp [oK]))).app (hn 13 (by simp [oK]))).app ?_).app (hn 15 (by simp [oK]))).app (hn 16 (by simp [oK]))).app (hn 17 (by simp [oK]))).app (hn 18 (by simp [oK]))
  · exact .opt fun hb => ss_name (nm := [73, 78, 84, 69, 82, 86, 65, 76]) (v := Lib.itoa o.interval) rfl (itoa61 _) (itoa58 _) (by decide) (by have := itoa_len o.interval (by have := h.iv; omega); omega) (by decide) ⟨isNum_itoa _ (by have := h.iv; omega), by have := h.iv; have := of_decide_eq_true hb; omega⟩
  · refine .opt fun hb => ?_
    obtain ⟨nm, hnm, hl, -, hc⟩ := wd_look o.wk h.wk.1 h.wk.2
    have e : pWkst o.wk = [87, 75, 83, 84] ++ 61 :: nm := by unfold pWkst; rw [hnm]; rfl
    rw [e]
    exact ss_name (nm := [87, 75, 83, 84]) rfl (fun h' => absurd (hc 61 h') (by decide)) (fun h' => absurd (hc 58 h') (by decide)) (by decide) (by omega) (by decide) ⟨h.wk, hnm.symm⟩
  · exact .opt fun hb => ss_name (nm := [67, 79, 85, 78, 84]) (v := Lib.itoa o.count) rfl (itoa61 _) (itoa58 _) (by decide) (by have := itoa_len o.count (by have := h.ct; omega); omega) (by decide) ⟨isNum_itoa _ (by have := h.ct; omega), by have := h.ct; have := of_decide_eq_true hb; omega⟩
  · exact .opt fun hb => ss_name (nm := [85, 78, 84, 73, 76]) (v := dateL o.till) rfl (date_no (.inr rfl) _) (date58 _) (by decide) (by rw [dateL_len]; omega) (by decide) ⟨rfl, h.un⟩
  · exact .opt fun hb => ss_days _ (of_decide_eq_true hb) h.dl.1 (fun d hd => ⟨(h.dl.2 d hd).1, by have := (h.dl.2 d hd).2; omega⟩)
theorem SaysS.mem {aa : List (List UInt8)} {ps : List Part} (h : SaysS aa ps) : ∀ x ∈ aa, x.length ≤ 120 ∧ (58 : UInt8) ∉ x := fun x hx => by
  obtain ⟨i, hi⟩ := List.getElem?_of_mem hx
  have hl := (List.getElem?_eq_some_iff.1 hi).1
  exact (h.2 i x _ hi (List.getElem?_eq_getElem (by rw [← h.1]; exact hl))).2
/-- The names of a rule's parts. -/
def allNames : List (List UInt8) := [[70, 82, 69, 81], [73, 78, 84, 69, 82, 86, 65, 76], [87, 75, 83, 84], [67, 79, 85, 78, 84], [85, 78, 84, 73, 76], oNm 9, oNm 10, oNm 11, oNm 12, oNm 13, [66, 89, 68, 65, 89], oNm 15, oNm 16, oNm 17, oNm 18]
theorem sub_opt (b : Bool) (p : Part) (n : List UInt8) (hn : p.name = n) : List.Sublist ((optP b p).map Part.name) [n] := by
  subst hn
  cases b with
  | false => simp [optP]
  | true => simp [optP]
theorem sub_num (o : Opt) (k : Nat) (hk : oK k) : List.Sublist ((numQ o k).map Part.name) [oNm k] := by
  refine sub_opt _ _ _ ?_
  rcases hk with h | h | h | h | h | h | h | h | h <;> subst h <;> rfl
theorem names_sub (o : Opt) : List.Sublist ((oParts o).map Part.name) allNames := by
  unfold oParts
  simp only [List.map_append]
  exact ((((((((((((((List.Sublist.refl [[70, 82, 69, 81]]).append (sub_opt _ _ [73, 78, 84, 69, 82, 86, 65, 76] rfl)).append (sub_opt _ _ [87, 75, 83, 84] rfl)).append (sub_opt _ _ [67, 79, 85, 78, 84] rfl)).append (sub_opt _ _ [85, 78, 84, 73, 76] rfl)).append (sub_num o 9 (by simp [oK]))).append (sub_num o 10 (by simp [oK]))).append (sub_num o 11 (by simp [oK]))).append (sub_num o 12 (by simp [oK]))).append (sub_num o 13 (by simp [oK]))).append (sub_opt _ _ [66, 89, 68, 65, 89] rfl)).append (sub_num o 15 (by simp [oK]))).append (sub_num o 16 (by simp [oK]))).append (sub_num o 17 (by simp [oK]))).append (sub_num o 18 (by simp [oK]))
theorem names_nodup (o : Opt) : ((oParts o).map Part.name).Nodup := (names_sub o).nodup (by decide)
theorem names_freq (o : Opt) : [70, 82, 69, 81] ∈ (oParts o).map Part.name := by
  unfold oParts
  simp only [List.append_assoc, List.cons_append, List.nil_append, List.map_cons]
  exact List.mem_cons_self
theorem rrTx_len2 {o : Opt} (h : OptSmall o) : (rrTx o).length ≤ 2000 := by
  have h1 := joinC_len 59 120 (optTx o) (fun x hx => ((saysS_opt h).mem x hx).1)
  have h2 := optTx_len o
  show (joinC 59 (optTx o)).length ≤ _
  omega
theorem rrTx_58 {o : Opt} (h : OptSmall o) : (58 : UInt8) ∉ rrTx o := fun hc => by
  rcases joinC_mem 59 (optTx o) 58 hc with h1 | ⟨x, hx, h1⟩
  · exact absurd h1 (by decide)
  · exact ((saysS_opt h).mem x hx).2 h1
theorem rrTx_read {o : Opt} (h : OptSmall o) (W : World) : Calls Tryz.prog 47 #[.string ⟨(rrTx o).toArray⟩] W fun e w' => GivesRead (putS o1 (oParts o)) (huS false (oParts o)) W e w' :=
  have hs := saysS_opt h
  read_any (rrTx o) (optTx o) (oParts o) W (rrTx_len2 h) (rrTx_ok h).split hs.1 (fun i a p h1 h2 => (hs.2 i a p h1 h2).1) (names_nodup o) (names_freq o)
theorem stI' (x : Opt) (v : Int) : (optP (decide (v ≠ 0)) (.interval v)).foldl putF x = { x with interval := if v = 0 then x.interval else v } := by
  by_cases hv : v = 0
  · subst hv; cases x; rfl
  · rw [show decide (v ≠ 0) = true from decide_eq_true hv, if_neg hv]; rfl
theorem putS_opt (o : Opt) (hz : ∀ k, k < 9 ∨ k = 14 ∨ 18 < k → o.l k = []) : putS o1 (oParts o) = { o with interval := if o.interval = 0 then 1 else o.interval } := by
  show (oParts o).foldl putF o1 = _
  unfold oParts
  simp only [List.foldl_append]
  rw [show List.foldl putF o1 [Part.freq o.freq] = { interval := 1, freq := o.freq } from rfl, stI', stW _ _ rfl, stC _ _ rfl, stU _ _ rfl]
  rw [numQ_fold o _ 9 (by simp [oK]) rfl, numQ_fold o _ 10 (by simp [oK]) rfl, numQ_fold o _ 11 (by simp [oK]) rfl, numQ_fold o _ 12 (by simp [oK]) rfl, numQ_fold o _ 13 (by simp [oK]) rfl, stD _ _ rfl]
  rw [numQ_fold o _ 15 (by simp [oK]) (by simp [Opt.putL]), numQ_fold o _ 16 (by simp [oK]) (by simp [Opt.putL]), numQ_fold o _ 17 (by simp [oK]) (by simp [Opt.putL]), numQ_fold o _ 18 (by simp [oK]) (by simp [Opt.putL])]
  obtain ⟨fr, iv, wk, ct, un, dl, l⟩ := o
  simp only [Opt.putL]
  congr 1
  funext j
  match j with
  | 0 | 1 | 2 | 3 | 4 | 5 | 6 | 7 | 8 => exact (hz _ (by omega)).symm
  | 14 => exact (hz _ (by omega)).symm
  | 9 | 10 | 11 | 12 | 13 | 15 | 16 | 17 | 18 => rfl
  | j + 19 =>
    have := hz (j + 19) (by omega)
    simp only at this
    simp [this]
theorem huS_app (b : Bool) (ps qs : List Part) : huS b (ps ++ qs) = huS (huS b ps) qs := by simp [huS]
theorem huS_opt (b c : Bool) (p : Part) (hp : ∀ b, p.hu b = b) : huS b (optP c p) = b := by
  cases c with
  | false => rfl
  | true => exact hp b
theorem huS_num (b : Bool) (o : Opt) (k : Nat) (hk : oK k) : huS b (numQ o k) = b := by
  refine huS_opt b _ _ fun b => ?_
  rcases hk with h | h | h | h | h | h | h | h | h <;> subst h <;> rfl
theorem huS_oParts (o : Opt) : huS false (oParts o) = decide (o.till ≠ 0) := by
  unfold oParts
  simp only [huS_app]
  rw [huS_num _ o 18 (by simp [oK]), huS_num _ o 17 (by simp [oK]), huS_num _ o 16 (by simp [oK]), huS_num _ o 15 (by simp [oK]), huS_opt _ _ (.days o.days) (fun b => rfl), huS_num _ o 13 (by simp [oK]), huS_num _ o 12 (by simp [oK]), huS_num _ o 11 (by simp [oK]), huS_num _ o 10 (by simp [oK]), huS_num _ o 9 (by simp [oK]), huS_opt _ _ (.count o.count) (fun b => rfl), huS_opt _ _ (.wkst o.wk) (fun b => rfl), huS_opt _ _ (.interval o.interval) (fun b => rfl)]
  show huS false (optP (decide (o.till ≠ 0)) (.till o.till)) = _
  cases decide (o.till ≠ 0) <;> rfl
end Go.Proofs.YtnlpjncljbaapaaGreatDoor
