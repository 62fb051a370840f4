/- Words for FnSetOrder: a line taken out of a row, a line put behind one; lines in any order. -/
import Derived.Test.YtnlpjncljbaapaaGreatDoorAg
import Derived.Test.YtnlpjncljbaapaaGreatDoorPk
import Derived.Sort.OwnSorted
namespace Go.Proofs.YtnlpjncljbaapaaGreatDoor
open Go.RowKit Go.Sort

/-- A row of lines: the call's own, or the head of one, of which nothing more may be written. -/
def TurnedAt (W : World) (base g0 c0 n : Nat) (xs : List Value) : Prop := W.ownsRow base 9 1 (.slice (some ⟨g0, 0, none⟩) n c0) n xs ∨ (n = 1 ∧ c0 = 1 ∧ ∃ x, xs = [x] ∧ W.cell? ⟨g0, 0, none⟩ = some x ∧ g0 < W.heap.size ∧ base ≤ g0)
theorem TurnedAt.lt {W : World} {base g0 c0 n : Nat} {xs : List Value} (h : TurnedAt W base g0 c0 n xs) : base ≤ g0 ∧ g0 < W.heap.size := by
  rcases h with h | ⟨_, _, x, _, _, h1, h2⟩
  · exact h.lt g0 rfl
  · exact ⟨h2, h1⟩
theorem TurnedAt.below {W W' : World} {base g0 c0 n : Nat} {xs : List Value} (h : TurnedAt W base g0 c0 n xs) (hb : Below W.heap.size W W') : TurnedAt W' base g0 c0 n xs := by
  rcases h with h | ⟨h1, h2, x, h3, h4, h5, h6⟩
  · exact .inl (own_below h hb)
  · exact .inr ⟨h1, h2, x, h3, (hb.cell (p := ⟨g0, 0, none⟩) h5).trans h4, Nat.lt_of_lt_of_le h5 hb.size, h6⟩
theorem TurnedAt.ne {W W' : World} {base g0 c0 n r : Nat} {xs : List Value} (h : TurnedAt W base g0 c0 n xs) (hg : W.grownBy W' (some r)) (hr : g0 ≠ r) : TurnedAt W' base g0 c0 n xs := by
  rcases h with h | ⟨h1, h2, x, h3, h4, h5, h6⟩
  · exact .inl (own_ne h hg (fun e => by injection e with e; exact hr e))
  · exact .inr ⟨h1, h2, x, h3, (World.cell?_of_block (hg.block g0 h5 (fun e => by injection e with e; exact hr e))).trans h4, Nat.lt_of_lt_of_le h5 hg.size, h6⟩
theorem TurnedAt.strs {W : World} {base g0 c0 n : Nat} {ls : List (List UInt8)} (h : TurnedAt W base g0 c0 n (strVs ls)) : StrsAt W g0 ls := by
  rcases h with h | ⟨h1, h2, x, h3, h4, h5, h6⟩
  · exact StrsAt.of_own h
  · intro j y hj
    cases ls with
    | nil => cases h3
    | cons a r =>
      cases r with
      | cons b r => simp [strVs] at h3
      | nil =>
        cases j with
        | zero =>
          simp at hj
          subst hj
          rw [h4]
          simp [strVs, strV] at h3
          rw [h3]
        | succ j => simp at hj
theorem app_turned {ops : Array Oper} {rest : List Oper} {o : Oper} {a : Act} {Q : Exit → Act → World → Prop} {W : World} (base : Nat) (hgd : o.guard = none) (s x : Operand) (ho : o.op = .call { callee := .builtin .append, args := #[s, x], argTypes := #[41, 41] })
    (g0 c0 n : Nat) (xs : List Value) (y : Value) (hs : a.eval s = .slice (some ⟨g0, 0, none⟩) n c0) (hx : a.eval x = .slice (some ⟨W.heap.size, 0, none⟩) 1 1) (h1 : y.oneCell' = true) (HT : TurnedAt W base g0 c0 n xs) (hl : n ≤ 1000000)
    (h : ∀ g cap w1, w1.ownsRow base 9 1 (.slice (some ⟨g, 0, none⟩) (n + 1) cap) (n + 1) (xs ++ [y]) → g < w1.heap.size → W.grownBy w1 (some g0) → (g = g0 ∨ W.heap.size ≤ g) → wpList Tryz.prog ops Q rest (a.put o.dst (.slice (some ⟨g, 0, none⟩) (n + 1) cap)) w1) :
    wpList Tryz.prog ops Q (o :: rest) a (W.alloc (.cells #[y] 9)) := by
  have hbase : base ≤ W.heap.size := Nat.le_of_lt (Nat.lt_of_le_of_lt HT.lt.1 HT.lt.2)
  rcases HT with HT | ⟨rfl, rfl, x0, rfl, h4, h5, h6⟩
  · refine app_own base hgd s x 41 9 (.string ⟨#[]⟩) 1 16 ho Tryz.underlying41 info9 rfl (by decide) (by decide) _ n xs [y] hs hx rfl (by intro u hu; rw [List.mem_singleton] at hu; rw [hu]; exact h1) HT hbase (by omega) (fun g cap w1 k1 _ k3 _ k5 k6 => h g cap w1 k1 k3 k5 (k6.imp (fun e => by injection e) id))
  · obtain ⟨i0, hi, hzz⟩ := Option.map_eq_some_iff.1 info9
    simp only [Prod.mk.injEq] at hzz
    obtain ⟨hz0, hz1, hz2⟩ := hzz
    have hzs : (Value.string ⟨#[]⟩).cells.size = 1 := rfl
    have hr := run_append_grow (P := Tryz.prog) (w := W.alloc (.cells #[y] 9)) 41 o.type 9 i0 (.string ⟨#[]⟩) Tryz.underlying41 hi hz0 ⟨g0, 0, none⟩ 1 1 [x0] (by rw [hz1]; rfl) (news1 ((cell_old h5).trans h4)) ⟨W.heap.size, 0, none⟩ 1 1 [y] (by rw [hz1]; rfl) (news1 (cell_new rfl)) (by omega) (by omega) (growslice_fits (by omega) (by rw [hz2]; omega))
    refine wpList_plain hgd fun K hK' => ?_
    unfold Oper.wp
    simp [execOp, ho, resolve, invoke, builtin, hs, hx, hr, Result.andThen]
    have h2m : (2 : Nat) ≤ maxLen := by simp [maxLen]
    have hge := grownCap_ge (W.alloc (.cells #[y] 9)) 2 1 9
    have hcm := grownCap_le_maxLen (W.alloc (.cells #[y] 9)) 2 1 9 h2m
    generalize grownCap (W.alloc (.cells #[y] 9)) 2 1 9 = gc at *
    have hnew := heap_alloc_new (W.alloc (.cells #[y] 9)).drew (.cells (#[x0, y] ++ Builtin.zeroCells (Value.string ⟨#[]⟩).cells (gc - 2)) 9)
    have hsz : (W.alloc (.cells #[y] 9)).drew.heap.size = W.heap.size + 1 := by simp
    rw [hsz] at hnew
    refine hK' _ _ (h _ _ _ ⟨rfl, .inr ⟨W.heap.size + 1, gc, _, rfl, by omega, hnew, hge, hcm, ?_, ?_⟩⟩ ?_ ?_ (.inr (by omega)))
    · simp only [Array.size_append, size_zeroCells, hzs]
      simp
      omega
    · simp
    · simp
    · exact World.grownBy.trans (World.grownBy_alloc W _ _) ⟨rfl, rfl, rfl, by simp, fun k hk _ => ((Below.refl (W.alloc (.cells #[y] 9)).drew.heap.size (W.alloc (.cells #[y] 9)).drew).alloc (Nat.le_refl _) _).block k hk⟩
theorem del_own {w : World} {base : Nat} {v : Value} {n : Nat} {ls : List (List UInt8)} {i : Nat} (h : w.ownsRow base 9 1 v n (strVs ls)) (hi : i < n) (hn : n ≤ 1000000) :
    Calls Tryz.prog 17 #[v, .int .i64 i, .int .i64 ((i : Int) + 1)] w fun e w' => ∃ g c, v = .slice (some ⟨g, 0, none⟩) n c ∧ e = .returned (.slice (some ⟨g, 0, none⟩) (n - 1) c) ∧ w'.ownsRow base 9 1 (.slice (some ⟨g, 0, none⟩) (n - 1) c) (n - 1) (strVs (ls.eraseIdx i)) ∧ w.grownBy w' (some g) := by
  have hl : n = ls.length := by have := h.1; simp [strVs] at this; exact this.symm
  rcases h.2 with ⟨hv, h0⟩ | ⟨g, cap, cur, hv, hb, hh, hnc, hcm, hcs, ht⟩
  · omega
  · subst hv
    subst hl
    rw [Nat.mul_one] at ht hcs
    have henc : ls.map encStr = strVs ls := rfl
    have hm : cap ≤ 9223372036854775807 := by simp only [maxLen] at hcm; omega
    rw [show ((i : Int) + 1) = ((i + 1 : Nat) : Int) by omega]
    refine (Tryz.slices_Delete_string g 0 cap i (i + 1) ls w (holds_of_block hh (ht.trans henc.symm)) hnc hm (by omega) (by omega)).mono fun e w' ⟨h1, q, h2⟩ => ⟨g, cap, rfl, ?_, ?_, ?_⟩
    · rw [h1, show i + 1 - i = 1 by omega]
    · have hts : (ls.take i ++ ls.drop (i + 1) ++ List.replicate (i + 1 - i) ([] : List UInt8)).length = ls.length := by simp; omega
      have hcells := take_putCells cur _ (by rw [hts, hcs]; exact hnc)
      refine ⟨by simp [strVs, List.length_eraseIdx, hi], .inr ⟨g, cap, _, rfl, hb, by rw [h2, ← grow_empty (putRow encStr (Sort.ahead w q) g 0 _)]; exact heap_sorted _ hh, by omega, hcm, by simp [putCells, hcs], ?_⟩⟩
      rw [hts] at hcells
      have e1 : ∀ (c : List Value), c.take (ls.length - 1) = (c.take ls.length).take (ls.length - 1) := fun c => by rw [List.take_take]; congr 1; omega
      rw [Nat.mul_one, e1, hcells, ← List.map_take, List.take_append_of_le_length (by simp; omega), List.take_of_length_le (by simp; omega), ← List.eraseIdx_eq_take_drop_succ]
      rfl
    · rw [h2, ← grow_empty (putRow encStr (Sort.ahead w q) g 0 _)]
      exact grownBy_sorted _
def Item.isRule : Item → Bool
  | .rule _ => true
  | _ => false
theorem datesOf_perm (b : Bool) {l m : List Item} (h : l.Perm m) : (datesOf b l).Perm (datesOf b m) := h.flatMap_right _
theorem ruleIn_some {l : List Item} {o : Opt} (h1 : Item.rule o ∈ l) (h2 : ∀ o', Item.rule o' ∈ l → o' = o) : ruleIn l = some o := by
  unfold ruleIn
  cases hf : l.findSome? Item.opt? with
  | none => exact absurd ((List.findSome?_eq_none_iff.1 hf) _ h1) (by simp [Item.opt?])
  | some o' =>
    obtain ⟨x, hx, hxo⟩ := List.exists_of_findSome?_eq_some hf
    cases x with
    | rule o2 =>
      obtain rfl : o2 = o' := by simpa [Item.opt?] using hxo
      rw [h2 _ hx]
    | dates _ _ => cases hxo
    | bad => cases hxo
theorem one_of {α : Type} {p : α → Bool} : ∀ {l : List α}, l.countP p ≤ 1 → ∀ (j k : Nat) x y, l[j]? = some x → l[k]? = some y → p x = true → p y = true → j = k
  | [], _, j, k, x, y, hj, _, _, _ => by simp at hj
  | a :: r, h, j, k, x, y, hj, hk, px, py => by
    have pos : ∀ (i : Nat) z, r[i]? = some z → p z = true → 0 < r.countP p := fun i z hi hz => List.countP_pos_iff.2 ⟨z, List.mem_of_getElem? hi, hz⟩
    rw [List.countP_cons] at h
    cases j with
    | zero =>
      cases k with
      | zero => rfl
      | succ k =>
        simp at hj hk
        subst hj
        rw [if_pos px] at h
        have := pos k y hk py
        omega
    | succ j =>
      cases k with
      | zero =>
        simp at hj hk
        subst hk
        rw [if_pos py] at h
        have := pos j x hj px
        omega
      | succ k =>
        simp at hj hk
        rw [one_of (l := r) (by omega) j k x y hj hk px py]
theorem itsOf_count (hr : Bool) (o : Opt) (rds exs : List Int) : (itsOf hr o rds exs).countP Item.isRule ≤ 1 := by
  have hm : ∀ (b : Bool) (l : List Int), (l.map (fun x => Item.dates b [x])).countP Item.isRule = 0 := fun b l => by
    rw [List.countP_eq_zero]
    intro x hx
    obtain ⟨y, _, rfl⟩ := List.mem_map.1 hx
    simp [Item.isRule]
  unfold itsOf
  rw [List.countP_append, List.countP_append, hm, hm]
  cases hr <;> simp [ruleIt, List.countP_cons, Item.isRule]
theorem perm_one {l : List Item} {hr : Bool} {o : Opt} {rds exs : List Int} (h : l.Perm (itsOf hr o rds exs)) (j k : Nat) (o1 o2 : Opt) (h1 : l[j]? = some (.rule o1)) (h2 : l[k]? = some (.rule o2)) : j = k :=
  one_of (p := Item.isRule) (by rw [h.countP_eq]; exact itsOf_count hr o rds exs) j k _ _ h1 h2 rfl rfl
theorem perm_rule {l : List Item} {hr : Bool} {o : Opt} {rds exs : List Int} (h : l.Perm (itsOf hr o rds exs)) : ruleIn l = if hr then some o else none := by
  have key : ∀ o', Item.rule o' ∈ l → hr = true ∧ o' = o := fun o' ho => by
    have := h.mem_iff.1 ho
    cases hr <;> simp [itsOf, ruleIt] at this
    exact ⟨rfl, this⟩
  cases hr with
  | false => exact ruleIn_none fun o' ho => by have := (key o' ho).1; cases this
  | true => exact ruleIn_some (h.mem_iff.2 (by simp [itsOf, ruleIt])) fun o' ho => (key o' ho).2
theorem itsOf_dates (hr : Bool) (o : Opt) (rds exs : List Int) : datesOf true (itsOf hr o rds exs) = rds ∧ datesOf false (itsOf hr o rds exs) = exs := by
  have hm : ∀ (b c : Bool) (l : List Int), datesOf b (l.map (fun x => Item.dates c [x])) = bif c == b then l else [] := fun b c l => by
    induction l with
    | nil => cases b <;> cases c <;> rfl
    | cons a r ih =>
      have : datesOf b ((a :: r).map (fun x => Item.dates c [x])) = (bif c == b then [a] else []) ++ datesOf b (r.map (fun x => Item.dates c [x])) := rfl
      rw [this, ih]
      cases b <;> cases c <;> rfl
  have happ : ∀ (b : Bool) (l m : List Item), datesOf b (l ++ m) = datesOf b l ++ datesOf b m := fun b l m => by simp [datesOf]
  have hru : ∀ b, datesOf b (ruleIt hr o) = [] := fun b => by cases hr <;> rfl
  unfold itsOf
  refine ⟨?_, ?_⟩
  · rw [happ, happ, hm, hm, hru]; simp
  · rw [happ, happ, hm, hm, hru]; simp
theorem perm_step {α : Type} {its ys li : List α} {i : Nat} {x : α} (h : (ys ++ li).Perm its) (hx : li[i]? = some x) : ((ys ++ [x]) ++ li.eraseIdx i).Perm its := by
  refine List.Perm.trans ?_ h
  rw [List.append_assoc]
  refine List.Perm.append_left ys ?_
  have hi : i < li.length := (List.getElem?_eq_some_iff.1 hx).1
  have hxi : li[i] = x := (List.getElem?_eq_some_iff.1 hx).2
  have e : li = li.take i ++ x :: li.drop (i + 1) := by
    rw [← hxi, List.getElem_cons_drop, List.take_append_drop]
  rw [List.eraseIdx_eq_take_drop_succ]
  refine List.Perm.trans ?_ (List.Perm.of_eq e.symm)
  show (x :: (li.take i ++ li.drop (i + 1))).Perm _
  exact List.perm_middle.symm

theorem LinesAre.erase {ls : List (List UInt8)} {its : List Item} (h : LinesAre ls its) (i : Nat) : LinesAre (ls.eraseIdx i) (its.eraseIdx i) := by
  refine ⟨by rw [List.length_eraseIdx, List.length_eraseIdx, h.1], fun k l it h1 h2 => ?_⟩
  rw [List.getElem?_eraseIdx] at h1 h2
  by_cases hk : k < i
  · rw [if_pos hk] at h1 h2
    exact h.2 k l it h1 h2
  · rw [if_neg hk] at h1 h2
    exact h.2 (k + 1) l it h1 h2
/-- Bytes in a row that came in. -/
def RowB (w : World) (p : Option Addr) (n : Nat) (l : List Int) : Prop := n = l.length ∧ ∀ (i : Nat) x, l[i]? = some x → (0 ≤ x ∧ x ≤ 255) ∧ ∃ g o, p = some ⟨g, o, none⟩ ∧ g < w.heap.size ∧ w.cell? ⟨g, o + i, none⟩ = some (.int .u8 x)
/-- Lines in any order make the set. -/
theorem lines_order (t : Int) (ls : List (List UInt8)) (its : List Item) (ht : 0 < t ∧ t < 315537897600) (hla : LinesAre ls its) (hf : ∀ (j k : Nat) o o', its[j]? = some (.rule o) → its[k]? = some (.rule o') → j = k) (hbad : Item.bad ∉ its) (hn : ls.length ≤ 100) (W : World) (hG : Glob W) (g cap : Nat)
    (hst : StrsAt W g (dtL t :: ls)) (hgl : g < W.heap.size) (hcap : ls.length + 1 ≤ cap) (hr : ∀ o, ruleIn its = some o → (0 ≤ o.freq ∧ o.freq ≤ 6) ∧ o.days.length ≤ 1000) (h1 : (datesOf true its).length ≤ 1000) (h2 : (datesOf false its).length ≤ 1000) :
    Calls Tryz.prog 12 #[.slice (some ⟨g, 0, none⟩) (ls.length + 1) cap] W fun e w' => GivesSet2 t (ruleIn its) (datesOf true its) (datesOf false its) W e w' := by
  refine parseLines_ok _ t its W (fun W2 h2 => ?_) hr h1 h2
  have := lines_any ls its (dtL t) ⟨(dateL t).toArray⟩ t g cap W2 (hG.on h2) (hst.below h2 hgl) (Nat.lt_of_lt_of_le hgl h2.size) (by omega) (by omega)
    (dt_named t) ht (fun W => dtStart_ok t W (by omega) ht.2) hla.1.symm hla.2 hf
  exact this.mono fun e w' h => h.2 hbad
theorem clone_rest (x : List UInt8) (ls : List (List UInt8)) (g o n c : Nat) (W : World) (hst : StrsAt W g (x :: ls)) (hn : n = ls.length) (ho : n = 0 ∨ o = 1) (hb : n ≤ 1000) :
    Calls Tryz.prog 16 #[.slice (some ⟨g, o, none⟩) n c] W fun e w' => ∃ v', e = .returned v' ∧ w'.ownsRow W.heap.size 9 1 v' n (strVs ls) ∧ Below W.heap.size W w' := by
  by_cases h0 : n = 0
  · subst h0
    have hl : ls = [] := by rw [← List.length_eq_zero_iff]; omega
    subst hl
    exact (Tryz.slices_Clone_string_zero ⟨g, o, none⟩ c W).mono fun e w' ⟨v, h1, h2, _, h3⟩ => ⟨v, h1, h2, h3⟩
  · obtain rfl : o = 1 := by omega
    refine (Tryz.slices_Clone_string g 1 n c (ls.map fun l => ⟨l.toArray⟩) W (by simp; omega) (by omega) (fun j hj => ?_)).mono fun e w' ⟨v, h1, h2, _, h3⟩ => ⟨v, h1, ?_, h3⟩
    · have hj' : j < ls.length := by simpa using hj
      rw [hst (1 + j) ls[j] (by rw [Nat.add_comm, List.getElem?_cons_succ]; exact List.getElem?_eq_getElem hj')]
      simp [List.getD, hj']
    · rw [List.take_of_length_le (by simp; omega), List.map_map] at h2
      exact h2
def lenV : Value → Nat
  | .slice _ n _ => n
  | _ => 0
end Go.Proofs.YtnlpjncljbaapaaGreatDoor
