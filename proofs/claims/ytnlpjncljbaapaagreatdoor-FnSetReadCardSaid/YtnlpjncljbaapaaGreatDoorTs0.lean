/- Words for textSet: a clone of a row that came in, an append of one, two results of which one is a cell. -/
import Derived.Test.YtnlpjncljbaapaaGreatDoorFt
import Derived.Laws.AppendOwnNone
namespace Go.Proofs.YtnlpjncljbaapaaGreatDoor
open Go.RowKit

def intVs (l : List Int) : List Value := l.map (Value.int .i64)
theorem clone_any (p : Option Addr) (n c : Nat) (l : List Int) (w : World) (hr : RowO w p n l) (hn : n ≤ 2147483647) :
    Calls Tryz.prog 30 #[.slice p n c] w fun e w' => ∃ v', e = .returned v' ∧ w'.ownsRow w.heap.size 2 1 v' n (intVs l) ∧ Below w.heap.size w w' := by
  obtain ⟨hnl, hc⟩ := hr
  cases p with
  | none =>
    have hl : l = [] := by
      cases l with
      | nil => rfl
      | cons a r => obtain ⟨g, o, e, _⟩ := hc 0 a rfl; cases e
    subst hl
    have hn0 : n = 0 := by simpa using hnl
    subst hn0
    exact (Tryz.slices_Clone_int_nil_f30 0 c w).mono fun e w' ⟨h1, h2⟩ => ⟨_, h1, by rw [h2]; exact own_nil _ _ _ _, by rw [h2]; exact .refl _ _⟩
  | some a =>
    by_cases hn0 : n = 0
    · subst hn0
      have hl : l = [] := by rw [← List.length_eq_zero_iff]; omega
      subst hl
      exact (Tryz.slices_Clone_int_zero_f30 a c w).mono fun e w' ⟨v, h1, h2, _, h3⟩ => ⟨v, h1, h2, h3⟩
    · have h0 : 0 < l.length := by omega
      obtain ⟨g, o, e, hg, _⟩ := hc 0 _ (List.getElem?_eq_getElem h0)
      injection e with e
      subst e
      refine (Tryz.slices_Clone_int_f30 g o n c l w (by omega) (by omega) (fun j hj => ?_)).mono fun e w' ⟨v, h1, h2, _, h3⟩ => ⟨v, h1, ?_, h3⟩
      · obtain ⟨g', o', e, _, hc'⟩ := hc j _ (List.getElem?_eq_getElem hj)
        injection e with e
        injection e with e1 e2 e3
        subst e1; subst e2
        rw [hc']
        simp [List.getD, hj]
      · rw [hnl, List.take_length] at h2
        rw [hnl]
        exact h2
theorem step_append_row {P : Program} {w : World} {ops : Array Oper} {o : Oper} {a : Act} {K : Act → World → Prop} {Q : Exit → Act → World → Prop} {E : Prop} (hgd : o.guard = none) (s x : Operand) (t : TypeId)
    (ho : o.op = .call { callee := .builtin .append, args := #[s, x], argTypes := #[t, t] })
    (base : Nat) (e : TypeId) (i : TypeInfo) (z : Value) (size bytes : Nat) (ht : P.underlying t = some (.slice e)) (hi : P.info? e = some i) (hz : i.zero = some z)
    (hsize : i.size = size) (hby : i.bytes = bytes) (hzs : z.cells.size = size) (hsz : 0 < size)
    (v : Value) (n : Nat) (xs : List Value) (hs : a.eval s = v) (hown : w.ownsRow base e size v n xs)
    (px : Option Addr) (m c : Nat) (news : List Value) (hx : a.eval x = .slice px m c) (hnil : px = none → m = 0 ∧ c = 0) (hl : news.length = m * size) (hnews : ∀ ad, px = some ad → ∀ j u, news[j]? = some u → w.cell? (ad.add j) = some u) (h1 : ∀ u ∈ news, u.oneCell' = true)
    (h63 : n + m ≤ maxLen) (hbytes : (n + m) * bytes ≤ 140737488355328) (hbase : base ≤ w.heap.size)
    (h : ∀ v' w', w'.ownsRow base e size v' (n + m) (xs ++ news) → w.grownBy w' v.ownBlock → K (a.put o.dst v') w') :
    if Region.wanted o (yielded ops a.tmps) = true then Oper.wp P o a w K Q else E := by
  have hw : Region.wanted o (yielded ops a.tmps) = true := by simp [Region.wanted, hgd]
  rw [if_pos hw]
  cases px with
  | none =>
    obtain ⟨rfl, rfl⟩ := hnil rfl
    have hrun := run_append_owned_none (P := P) (w := w) base t o.type e i size ht hi v n xs hown
    have hn : news = [] := List.length_eq_zero_iff.1 (by rw [hl, Nat.zero_mul])
    subst hn
    unfold Oper.wp
    simp [execOp, ho, resolve, invoke, builtin, hs, hx, hrun, Result.andThen]
    exact h v w (by simpa using hown) (World.grownBy.refl _ _)
  | some ad =>
    obtain ⟨v', w', hr, h2, h3, _⟩ := run_append_own (P := P) (w := w) base t o.type e i z size bytes ht hi hz hsize hby hzs hsz v n xs hown ad m c news hl (hnews ad rfl) h1 h63 hbytes hbase
    unfold Oper.wp execOp
    simp only [ho, resolve, invoke, builtin, Sem.run_bind, Sem.run_pure, Result.andThen_ok, List.map_toArray, List.map_cons, List.map_nil, hs, hx, hr]
    exact h v' w' h2 h3
theorem results_row2 {P : Program} {w : World} {fn : Func} {t u : Tmp} {ty : TypeId} (h : fn.results = #[.cell t ty, .tmp u]) (tmps : Array Value) (b e N : Nat) (f : Nat → Value) (ht : tmps.getD t undef = .pointer (some ⟨b, 0, none⟩)) (hr : w.rowIs b e N f)
    (d : TypeDesc) (hu : P.underlying ty = some d) (hd : d.isRow = true) (hi : (P.info? ty).map (·.size) = some N) : (results fn tmps).run P w = .ok (.tuple #[.agg (rowA N f), tmps.getD u undef]) w := by
  have hl := run_loadVar_mid (P := P) w b 0 ty _ d (rowIs_range hr 0 N (by omega)) hu hd (by rw [hi]; simp)
  simp only [Nat.zero_add] at hl
  have ha : (asAddr (tmps.getD t undef)).run P w = .ok ⟨b, 0, none⟩ w := by rw [ht]; rfl
  have hr2 : (results fn tmps).run P w = ((asAddr (tmps.getD t undef)).run P w).andThen fun a w₁ => ((loadVar ty a).run P w₁).andThen fun v w₂ => .ok (.tuple #[v, tmps.getD u undef]) w₂ := by
    simp only [results, h]
    simp [Sem.run_bind, Result.andThen]
  rw [hr2, ha]
  simp only [Result.andThen_ok, hl]
  rfl
theorem row_grown {w w' : World} {b t N : Nat} {f : Nat → Value} {row : Option Nat} (h : w.rowIs b t N f) (hg : w.grownBy w' row) (hne : row ≠ some b) : w'.rowIs b t N f := h.of_block (hg.block b h.lt (fun e => hne e.symm))
theorem own_slice {w : World} {base : Nat} {e : TypeId} {size n : Nat} {v : Value} {xs : List Value} (h : w.ownsRow base e size v n xs) : ∃ q c, v = .slice q n c ∧ (n = 0 ∨ ∃ g, q = some ⟨g, 0, none⟩ ∧ base ≤ g ∧ g < w.heap.size) := by
  rcases h.2 with ⟨h1, h2⟩ | ⟨g, cap, cur, h1, hb, hh, _⟩
  · subst h2; exact ⟨_, _, h1, .inl rfl⟩
  · exact ⟨_, _, h1, .inr ⟨g, rfl, hb, (Array.getElem?_eq_some_iff.1 hh).1⟩⟩
end Go.Proofs.YtnlpjncljbaapaaGreatDoor
