/- spec.Text with an order, walked; the parts of a rule's text in any order. -/
import Derived.Test.YtnlpjncljbaapaaGreatDoorTx
import Derived.Test.YtnlpjncljbaapaaGreatDoorRu
import Derived.Sort.Row
namespace Go.Proofs.YtnlpjncljbaapaaGreatDoor
open Go.RowKit Go.Sort

/-- Bytes in a row that came in. -/
def RowB (w : World) (p : Option Addr) (n : Nat) (l : List Int) : Prop := n = l.length ∧ ∀ (i : Nat) x, l[i]? = some x → (0 ≤ x ∧ x ≤ 255) ∧ ∃ g o, p = some ⟨g, o, none⟩ ∧ g < w.heap.size ∧ w.cell? ⟨g, o + i, none⟩ = some (.int .u8 x)
def swapL {α : Type} [Inhabited α] (aa : List α) (i j : Nat) : List α := (aa.set i (aa.getD j default)).set j (aa.getD i default)
/-- One turn of a text's parts: the k-th part comes to the end. -/
def turn {α : Type} [Inhabited α] (k : Nat) (aa : List α) : List α := (swapL aa 1 k).take 1 ++ (swapL aa 1 k).drop 2 ++ [(swapL aa 1 k).getD 1 default]
def turnP {α : Type} [Inhabited α] (b : Int) (aa : List α) : List α := if 2 < aa.length then turn (1 + b.toNat % (aa.length - 1)) aa else aa
def ordL {α : Type} [Inhabited α] (ord : List Int) (aa : List α) : List α := ord.foldl (fun a b => turnP b a) aa
theorem swapL_len {α : Type} [Inhabited α] (aa : List α) (i j : Nat) : (swapL aa i j).length = aa.length := by simp [swapL]
theorem swapL_perm {α : Type} [Inhabited α] (aa : List α) (i j : Nat) (hi : i < aa.length) (hj : j < aa.length) : (swapL aa i j).Perm aa := by
  have := List.set_set_perm hi hj
  unfold swapL
  simpa [List.getD_eq_getElem?_getD, List.getElem?_eq_getElem hi, List.getElem?_eq_getElem hj] using this
theorem last_perm {α : Type} [Inhabited α] (b : List α) (h : 1 < b.length) : (b.take 1 ++ b.drop 2 ++ [b.getD 1 default]).Perm b := by
  match b, h with
  | x :: y :: r, _ =>
    show (x :: (r ++ [y])).Perm (x :: y :: r)
    exact List.Perm.cons x (List.perm_append_comm (l₁ := r) (l₂ := [y]))
theorem turn_perm {α : Type} [Inhabited α] (k : Nat) (aa : List α) (h : 1 < aa.length) (hk : k < aa.length) : (turn k aa).Perm aa :=
  (last_perm _ (by rw [swapL_len]; exact h)).trans (swapL_perm aa 1 k h hk)
theorem turnP_perm {α : Type} [Inhabited α] (b : Int) (aa : List α) : (turnP b aa).Perm aa := by
  unfold turnP
  split
  · exact turn_perm _ _ (by omega) (by have := Nat.mod_lt b.toNat (show 0 < aa.length - 1 by omega); omega)
  · exact List.Perm.refl _
theorem ordL_perm {α : Type} [Inhabited α] (ord : List Int) : ∀ aa : List α, (ordL ord aa).Perm aa := by
  induction ord with
  | nil => exact fun aa => List.Perm.refl _
  | cons b r ih => exact fun aa => (ih (turnP b aa)).trans (turnP_perm b aa)
theorem ordL_take {α : Type} [Inhabited α] (ord : List Int) (aa : List α) (j : Nat) (b : Int) (h : ord[j]? = some b) : ordL (ord.take (j + 1)) aa = turnP b (ordL (ord.take j) aa) := by
  unfold ordL
  rw [List.take_add_one, h]
  simp [List.foldl_append]
/-- Two lists side by side: turned alike they stay so. -/
theorem perm_zip {α β : Type} {R : α → β → Prop} {us us' : List α} (h : us'.Perm us) : ∀ (bs : List β), us.length = bs.length → (∀ (i : Nat) a b, us[i]? = some a → bs[i]? = some b → R a b) → ∃ bs' : List β, bs'.Perm bs ∧ us'.length = bs'.length ∧ ∀ (i : Nat) a b, us'[i]? = some a → bs'[i]? = some b → R a b := by
  induction h with
  | nil => exact fun bs hl hR => ⟨bs, .refl _, hl, hR⟩
  | cons x h ih =>
    intro bs hl hR
    cases bs with
    | nil => simp at hl
    | cons y r =>
      obtain ⟨bs', h1, h2, h3⟩ := ih r (by simpa using hl) (fun i a b ha hb => hR (i + 1) a b (by simpa using ha) (by simpa using hb))
      refine ⟨y :: bs', h1.cons y, by simp [h2], fun i a b ha hb => ?_⟩
      cases i with
      | zero => simp at ha hb; subst ha; subst hb; exact hR 0 _ _ (by simp) (by simp)
      | succ i => exact h3 i a b (by simpa using ha) (by simpa using hb)
  | swap x y l =>
    intro bs hl hR
    match bs, hl with
    | u :: v :: r, hl =>
      refine ⟨v :: u :: r, .swap _ _ _, by simpa using hl, fun i a b ha hb => ?_⟩
      match i with
      | 0 => simp at ha hb; subst ha; subst hb; exact hR 1 _ _ (by simp) (by simp)
      | 1 => simp at ha hb; subst ha; subst hb; exact hR 0 _ _ (by simp) (by simp)
      | i + 2 => exact hR (i + 2) a b (by simpa using ha) (by simpa using hb)
  | trans h1 h2 ih1 ih2 =>
    intro bs hl hR
    obtain ⟨b1, p1, l1, r1⟩ := ih2 bs hl hR
    obtain ⟨b2, p2, l2, r2⟩ := ih1 b1 l1 r1
    exact ⟨b2, p2.trans p1, l2, r2⟩
theorem swapL_map {α β : Type} [Inhabited α] [Inhabited β] (f : α → β) (aa : List α) (i j : Nat) (hi : i < aa.length) (hj : j < aa.length) : swapL (aa.map f) i j = (swapL aa i j).map f := by
  unfold swapL
  rw [List.map_set, List.map_set]
  simp [List.getD_eq_getElem?_getD, List.getElem?_eq_getElem hi, List.getElem?_eq_getElem hj]
theorem turn_map {α β : Type} [Inhabited α] [Inhabited β] (f : α → β) (k : Nat) (aa : List α) (h : 1 < aa.length) (hk : k < aa.length) : turn k (aa.map f) = (turn k aa).map f := by
  unfold turn
  rw [swapL_map f aa 1 k h hk]
  have h1 : 1 < (swapL aa 1 k).length := by rw [swapL_len]; exact h
  simp [List.map_take, List.map_drop, List.getD_eq_getElem?_getD, List.getElem?_eq_getElem h1]
theorem turnP_map {α β : Type} [Inhabited α] [Inhabited β] (f : α → β) (b : Int) (aa : List α) : turnP b (aa.map f) = (turnP b aa).map f := by
  unfold turnP
  rw [List.length_map]
  split
  · exact turn_map f _ aa (by omega) (by have := Nat.mod_lt b.toNat (show 0 < aa.length - 1 by omega); omega)
  · rfl
theorem ordL_map {α β : Type} [Inhabited α] [Inhabited β] (f : α → β) (ord : List Int) : ∀ aa : List α, ordL ord (aa.map f) = (ordL ord aa).map f := by
  induction ord with
  | nil => exact fun aa => rfl
  | cons b r ih =>
    intro aa
    show ordL r (turnP b (aa.map f)) = (ordL r (turnP b aa)).map f
    rw [turnP_map, ih]
theorem turn_head {α : Type} [Inhabited α] (k : Nat) (aa : List α) (hk : 0 < k) (h : 0 < aa.length) : (turn k aa)[0]? = aa[0]? := by
  unfold turn swapL
  cases aa with
  | nil => simp at h
  | cons a r =>
    obtain ⟨m, rfl⟩ : ∃ m, k = m + 1 := ⟨k - 1, by omega⟩
    cases r <;> simp
theorem turnP_head {α : Type} [Inhabited α] (b : Int) (aa : List α) : (turnP b aa)[0]? = aa[0]? := by
  unfold turnP
  split
  · exact turn_head _ _ (by omega) (by omega)
  · rfl
theorem ordL_head {α : Type} [Inhabited α] (ord : List Int) : ∀ aa : List α, (ordL ord aa)[0]? = aa[0]? := by
  induction ord with
  | nil => exact fun aa => rfl
  | cons b r ih => exact fun aa => (ih (turnP b aa)).trans (turnP_head b aa)
/-- Lists side by side, turned alike. -/
theorem ordL_zip {α β : Type} [Inhabited α] [Inhabited β] {R : α → β → Prop} (ord : List Int) {us : List α} {bs : List β} (hl : us.length = bs.length) (hR : ∀ (i : Nat) a b, us[i]? = some a → bs[i]? = some b → R a b) :
    (ordL ord us).length = (ordL ord bs).length ∧ ∀ (i : Nat) a b, (ordL ord us)[i]? = some a → (ordL ord bs)[i]? = some b → R a b := by
  have e1 : us = (us.zip bs).map Prod.fst := (List.map_fst_zip (by omega)).symm
  have e2 : bs = (us.zip bs).map Prod.snd := (List.map_snd_zip (by omega)).symm
  have hz : ∀ z ∈ ordL ord (us.zip bs), R z.1 z.2 := fun z hz => by
    obtain ⟨i, hi⟩ := List.getElem?_of_mem ((ordL_perm ord _).mem_iff.1 hz)
    rw [List.getElem?_zip_eq_some] at hi
    exact hR i _ _ hi.1 hi.2
  have f1 : ordL ord us = (ordL ord (us.zip bs)).map Prod.fst := by rw [← ordL_map, ← e1]
  have f2 : ordL ord bs = (ordL ord (us.zip bs)).map Prod.snd := by rw [← ordL_map, ← e2]
  rw [f1, f2]
  refine ⟨by simp, fun i a b ha hb => ?_⟩
  rw [List.getElem?_map, Option.map_eq_some_iff] at ha hb
  obtain ⟨z, hz1, rfl⟩ := ha
  obtain ⟨z', hz2, rfl⟩ := hb
  obtain rfl := Option.some.inj (hz1.symm.trans hz2)
  exact hz z (List.mem_of_getElem? hz1)
theorem own_put {w : World} {base g n c i : Nat} {e : TypeId} {xs : List Value} {y : Value} (h : w.ownsRow base e 1 (.slice (some ⟨g, 0, none⟩) n c) n xs) (_hi : i < n) : (w.setCell ⟨g, i, none⟩ y).ownsRow base e 1 (.slice (some ⟨g, 0, none⟩) n c) n (xs.set i y) := by
  refine ⟨by rw [List.length_set]; exact h.1, ?_⟩
  rcases h.2 with ⟨hv, _⟩ | ⟨g', cap, cur, hv, hb, hh, hnc, hcm, hcs, ht⟩
  · cases hv
  · cases hv
    refine .inr ⟨g, c, cur.setIfInBounds i y, rfl, hb, ?_, hnc, hcm, by simpa using hcs, ?_⟩
    · rw [setCell_eq]
      simp [mapBlock, Array.getElem?_modify, hh, onCells]
    · rw [Array.toList_setIfInBounds, List.take_set, ht]
theorem own_new {W : World} {base : Nat} {e : TypeId} (x : Value) (hb : base ≤ W.heap.size) : (W.alloc (.cells #[x] e)).ownsRow base e 1 (.slice (some ⟨W.heap.size, 0, none⟩) 1 1) 1 [x] :=
  ⟨rfl, .inr ⟨W.heap.size, 1, #[x], rfl, hb, heap_alloc_new W _, Nat.le_refl _, by decide, rfl, rfl⟩⟩
theorem news_one {W : World} {N : Nat} {v : Value} (h : W.cell? ⟨N, 0, none⟩ = some v) : ∀ (j : Nat) u, [v][j]? = some u → W.cell? ((⟨N, 0, none⟩ : Addr).add j) = some u := fun j u hu => by
  cases j with
  | zero => simp at hu; subst hu; rw [add_plain]; exact h
  | succ j => simp at hu
theorem lt_alloc {W : World} {N : Nat} (o : Obj) (h : N < W.heap.size) : N < (W.alloc o).heap.size := by simp; omega
theorem own_some {g i n c : Nat} (h : (Value.slice (some ⟨g, 0, none⟩) n c).ownBlock = some i) : g = i := by injection h
theorem new_of {A B0 B : Nat} {w1 X : World} {x : Value} (_ : Below B0 w1 (X.alloc (.cells #[x] 9))) (h : B ≤ X.heap.size) (hl : A ≤ X.heap.size) : (X.alloc (.cells #[x] 9)).ownsRow B 9 1 (.slice (some ⟨X.heap.size, 0, none⟩) 1 1) 1 [x] ∧ (X.alloc (.cells #[x] 9)).cell? ⟨X.heap.size, 0, none⟩ = some x ∧ X.heap.size < (X.alloc (.cells #[x] 9)).heap.size ∧ A ≤ X.heap.size :=
  ⟨own_new x h, cell_new rfl, by simp, hl⟩
theorem new_ofd {A B0 B : Nat} {w1 X : World} {x : Value} (_ : Below B0 w1 (X.alloc (.cells #[x] 9)).drew) (h : B ≤ X.heap.size) (hl : A ≤ X.heap.size) : (X.alloc (.cells #[x] 9)).drew.ownsRow B 9 1 (.slice (some ⟨X.heap.size, 0, none⟩) 1 1) 1 [x] ∧ (X.alloc (.cells #[x] 9)).drew.cell? ⟨X.heap.size, 0, none⟩ = some x ∧ X.heap.size < (X.alloc (.cells #[x] 9)).drew.heap.size ∧ A ≤ X.heap.size :=
  ⟨(own_new x h).drew, cell_new rfl, by simp, hl⟩
theorem own_frozen {w : World} {base g n c : Nat} {e : TypeId} {size : Nat} {xs : List Value} (h : w.ownsRow base e size (.slice (some ⟨g, 0, none⟩) n c) n xs) (i : Nat) : w.frozen? ⟨g, i, none⟩ = false := by
  rcases h.2 with ⟨hv, _⟩ | ⟨g', cap, cur, hv, hb, hh, _⟩
  · cases hv
  · cases hv
    simp [World.frozen?, hh]
theorem own_there {w : World} {base g n c : Nat} {e : TypeId} {xs : List Value} (h : w.ownsRow base e 1 (.slice (some ⟨g, 0, none⟩) n c) n xs) {i : Nat} (hi : i < n) : ∃ v, w.cell? ⟨g, i, none⟩ = some v := by
  rcases h.2 with ⟨hv, _⟩ | ⟨g', cap, cur, hv, hb, hh, hnc, hcm, hcs, _⟩
  · cases hv
  · cases hv
    have : i < cur.size := by omega
    exact ⟨cur[i], by simp [World.cell?, hh, this]⟩
theorem strVs_swap (ls : List (List UInt8)) (k : Nat) : ((strVs ls).set 1 (.string ⟨(ls.getD k default).toArray⟩)).set k (.string ⟨(ls.getD 1 default).toArray⟩) = strVs (swapL ls 1 k) := by
  unfold strVs swapL strV
  rw [List.map_set, List.map_set]
theorem turn_cons (ls : List (List UInt8)) (k : Nat) (h : 1 < ls.length) : ∃ a b r, swapL ls 1 k = a :: b :: r ∧ turn k ls = a :: (r ++ [b]) := by
  have hl : (swapL ls 1 k).length = ls.length := swapL_len ls 1 k
  cases hs : swapL ls 1 k with
  | nil => rw [hs] at hl; simp at hl; omega
  | cons a r =>
    cases r with
    | nil => rw [hs] at hl; simp at hl; omega
    | cons b r => exact ⟨a, b, r, rfl, by unfold turn; rw [hs]; rfl⟩
set_option maxRecDepth 100000 in
set_option maxHeartbeats 16000000 in
theorem text_ord (fr : Nat) (hs : Bool) (st iv wk ct : Int) (hu : Bool) (un : Int) (p : Nat → Option Addr) (n c : Nat → Nat) (po : Option Addr) (no co : Nat) (ord : List Int) (xs : List (List UInt8)) (w : World)
    (hp : ∀ W, Below w.heap.size w W → Calls Tryz.prog 63 #[.agg (sRuleC fr hs st iv wk ct hu un p n c)] W fun e w' => GivesRow xs W e w') (hx : ∀ x ∈ xs, x.length ≤ 1000) (hn : xs.length ≤ 15) (h0 : 0 < xs.length) (hor : RowB w po no ord) (hno : no ≤ 2147483647) :
    Calls Tryz.prog 35 #[.agg (sRuleC fr hs st iv wk ct hu un p n c), .slice po no co] w fun e w' => e = .returned (.string ⟨(joinC 59 (ordL ord xs)).toArray⟩) ∧ Below w.heap.size w w' := by
  have HB := Lib.hid (below_a1 (w := w) (o := .cells (sRuleC fr hs st iv wk ct hu un p n c) 25))
  have HR := Lib.hid (sRule_at fr hs st iv wk ct hu un p n c w)
  have HRC := Lib.hid (sRuleF_row fr hs st iv wk ct hu un p n c)
  have HP := Lib.hid hp
  have HX := Lib.hid hx
  have HOR := Lib.hid hor
  obtain ⟨d2, hud⟩ := Go.Proofs.YtnlpjncljbaapaaGreatDoor.u25
  have HU := Lib.hid hud
  clear hud hp hx hor
  go_enter Tryz.func35, Tryz.ntmps35
  unfold sRuleC at *
  go_upto_region 1 with fail
  generalize hw1 : w.alloc (.cells #[_, _, _, _, _, _, _, _, _, _, _, _, _, _, _, _, _, _] 25) = w1 at *
  clear hw1
  go_wp2_with (with_reducible refine gd_load 25 ?_; refine wpl_load_row0 rfl 25 _ rfl w.heap.size 25 18 18 _ rfl HR.out (by decide) d2 HU.out.1 HU.out.2 info25s ?_; rw [HRC.out])
  refine (HP.out _ HB.out).mono ?_; rintro e w2 ⟨g, cap, rfl, hown, hb2⟩
  have HB2 := Lib.hid (HB.out.trans (hb2.mono HB.out.size))
  obtain ⟨m, hm⟩ : ∃ m, m = xs.length := ⟨_, rfl⟩
  rw [← hm] at hn h0 hown ⊢
  have HM := Lib.hid hm
  obtain ⟨B, hB⟩ : ∃ B, B = w1.heap.size := ⟨_, rfl⟩
  have hB2 : B ≤ w2.heap.size := by rw [hB]; exact hb2.size
  have HO2 := Lib.hid (show w2.ownsRow B 9 1 (.slice (some ⟨g, 0, none⟩) m cap) m (strVs xs) by rw [hB]; exact hown)
  have hwB : w.heap.size ≤ B := by rw [hB]; exact HB.out.size
  obtain ⟨i0, hi, hzz⟩ := Option.map_eq_some_iff.1 info9
  simp only [Prod.mk.injEq] at hzz
  obtain ⟨hz0, hz1, hz2⟩ := hzz
  have HI := Lib.hid (And.intro hi (And.intro hz0 (And.intro hz1 hz2)))
  clear hb2 hm HR HRC HB hB hown hi hz0 hz1 hz2
  go_wp2_with fail
  go_loopw [5, 6, 7, 8, 16] (fun u _ _ _ v wr => ∃ (j g cap : Nat) (ls : List (List UInt8)), j ≤ no ∧ v = .int .i64 j ∧ u = .slice (some ⟨g, 0, none⟩) m cap ∧ Hid (ls = ordL (ord.take j) xs) ∧ Hid (ls.length = m) ∧ Hid (wr.ownsRow B 9 1 (.slice (some ⟨g, 0, none⟩) m cap) m (strVs ls)) ∧ Hid (Below w.heap.size w wr) ∧ B ≤ wr.heap.size) (fun _ _ _ _ v _ => no - (intOf v).toNat)
  case atStart => exact ⟨0, g, cap, xs, Nat.zero_le _, rfl, rfl, Lib.hid rfl, Lib.hid HM.out.symm, HO2, HB2, hB2⟩
  case round =>
    clear HO2 HB2 hB2
    obtain ⟨j, g, cap, ls, hj, rfl, rfl, HL, HLN, HO, HBr, hBr⟩ := hrel
    by_cases hjn : j < no
    · have hjl : j < ord.length := by have := HOR.out.1; omega
      obtain ⟨hx, go, oo, rfl, hgo, hco⟩ := HOR.out.2 j _ (List.getElem?_eq_getElem hjl)
      have hco := (HBr.out.cell (p := ⟨go, oo + j, none⟩) hgo).trans hco
      have HJ := Lib.hid (ordL_take ord xs j _ (List.getElem?_eq_getElem hjl))
      generalize ord[j] = x at *
      have hji : (j : Int) < (no : Int) := by omega
      have hj0 : (0 : Int) ≤ (j : Int) := by omega
      by_cases hm2 : 2 < m
      · have hm2i : (2 : Int) < (m : Int) := by omega
        have hww : IntKind.i64.wrap x = x := by simp [IntKind.wrap, IntKind.bits, IntKind.signed]; omega
        obtain ⟨k, hk⟩ : ∃ k : Nat, k = 1 + x.toNat % (m - 1) := ⟨_, rfl⟩
        have hkm : k < m := by have := Nat.mod_lt x.toNat (show 0 < m - 1 by omega); omega
        have hk1 : 1 ≤ k := by omega
        have hz : x.tmod ((m : Int) - 1) = (k : Int) - 1 := by
          rw [Int.tmod_eq_emod_of_nonneg hx.1]
          have e1 : x = ((x.toNat : Nat) : Int) := by omega
          have e2 : ((m : Int) - 1) = ((m - 1 : Nat) : Int) := by omega
          rw [e1, e2, ← Int.natCast_emod, hk]
          omega
        have HK := Lib.hid hk
        clear hk
        go_upto_region 7 with fail
        rw [show (1 + ((k : Int) - 1)) = (k : Int) by omega]
        have hl1 : 1 < ls.length := by have := HLN.out; omega
        have hlk : k < ls.length := by have := HLN.out; omega
        obtain ⟨s1, hs1⟩ : ∃ s1 : ByteArray, s1 = ⟨(ls.getD 1 default).toArray⟩ := ⟨_, rfl⟩
        obtain ⟨sk, hsk⟩ : ∃ sk : ByteArray, sk = ⟨(ls.getD k default).toArray⟩ := ⟨_, rfl⟩
        have c1 : wr.cell? ⟨g, 1, none⟩ = some (.string s1) := by
          rw [hs1]; refine StrsAt.of_own HO.out 1 _ ?_
          rw [List.getD_eq_getElem?_getD, List.getElem?_eq_getElem hl1]; rfl
        have ck : wr.cell? ⟨g, k, none⟩ = some (.string sk) := by
          rw [hsk]; refine StrsAt.of_own HO.out k _ ?_
          rw [List.getD_eq_getElem?_getD, List.getElem?_eq_getElem hlk]; rfl
        have f1 := own_frozen HO.out 1
        have fk := own_frozen HO.out k
        have ck2 : (wr.setCell ⟨g, 1, none⟩ (.string sk)).frozen? ⟨g, k, none⟩ = false := by rw [World.frozen?_setCell]; exact fk
        have cs2 : ∃ v, (wr.setCell ⟨g, 1, none⟩ (.string sk)).cell? ⟨g, k, none⟩ = some v := own_there (own_put HO.out (by omega)) hkm
        have h1i : (1 : Int) < (m : Int) := by omega
        have hki : (k : Int) < (m : Int) := by omega
        have hk0i : (0 : Int) ≤ (k : Int) := by omega
        obtain ⟨v2, cs2⟩ := cs2
        obtain ⟨a, b, r, hsw, htn⟩ := turn_cons ls k hl1
        have HO7 := Lib.hid (show ((wr.setCell ⟨g, 1, none⟩ (.string sk)).setCell ⟨g, k, none⟩ (.string s1)).ownsRow B 9 1 (.slice (some ⟨g, 0, none⟩) m cap) m (strVs (a :: b :: r)) by
          have := own_put (own_put HO.out (show 1 < m by omega) (y := .string sk)) hkm (y := .string s1)
          rw [hs1, hsk, strVs_swap ls k, hsw, ← hs1, ← hsk] at this
          exact this)
        have hr2 : r.length = m - 2 := by have := swapL_len ls 1 k; rw [hsw] at this; simp at this; have := HLN.out; omega
        have hcap : m ≤ cap := by
          rcases HO.out.2 with ⟨h, _⟩ | ⟨_, _, _, e, _, _, hc, _⟩
          · cases h
          · injection e with e1 e2 e3; omega
        have HTN := Lib.hid (show ordL (ord.take (j + 1)) xs = a :: (r ++ [b]) by
          rw [HJ.out, ← HL.out]
          unfold turnP
          rw [if_pos (by have := HLN.out; omega), ← htn, HK.out, HLN.out])
        have hgB : B ≤ g := (HO.out.lt g rfl).1
        clear hsw htn hs1 hsk hco
        go_region
        all_goals
          have HB7 := Lib.hid (show Below w.heap.size w ((wr.setCell ⟨g, 1, none⟩ (.string sk)).setCell ⟨g, k, none⟩ (.string s1)).drew from ((HBr.out.setCell (Nat.le_trans hwB hgB) _).setCell (Nat.le_trans hwB hgB) _).drew)
          have HO8 := Lib.hid (HO7.out.drew)
          have hB7 : B ≤ ((wr.setCell ⟨g, 1, none⟩ (.string sk)).setCell ⟨g, k, none⟩ (.string s1)).drew.heap.size := by simpa [World.setCell] using hBr
          generalize World.drew _ = w7 at *
          obtain ⟨sa, hsa⟩ : ∃ sa : ByteArray, sa = ⟨a.toArray⟩ := ⟨_, rfl⟩
          obtain ⟨sb, hsb⟩ : ∃ sb : ByteArray, sb = ⟨b.toArray⟩ := ⟨_, rfl⟩
          have d0 : w7.cell? ⟨g, 0, none⟩ = some (.string sa) := by rw [hsa]; exact StrsAt.of_own HO8.out 0 _ rfl
          have d1 : w7.cell? ⟨g, 1, none⟩ = some (.string sb) := by rw [hsb]; exact StrsAt.of_own HO8.out 1 _ rfl
          have hg7 : g < w7.heap.size := (HO8.out.lt g rfl).2
          have HSR := Lib.hid (show ∀ W : World, Below w7.heap.size w7 W → ∀ (j : Nat) u, (strVs r)[j]? = some u → W.cell? ((⟨g, 2, none⟩ : Addr).add j) = some u from fun W hW j u hu => by
            unfold strVs at hu
            rw [List.getElem?_map, Option.map_eq_some_iff] at hu
            obtain ⟨z, hz, rfl⟩ := hu
            rw [show ((⟨g, 2, none⟩ : Addr).add j) = ⟨g, 2 + j, none⟩ by simp [Addr.add]]
            refine (hW.cell (p := ⟨g, 2 + j, none⟩) hg7).trans ?_
            exact StrsAt.of_own HO8.out (2 + j) z (by rw [show 2 + j = j + 1 + 1 by omega]; simpa using hz))
          have HOne := Lib.hid (show ∀ u ∈ strVs r, u.oneCell' = true from fun u hu => by obtain ⟨z, _, rfl⟩ := List.mem_map.1 hu; rfl)
          have HFin := Lib.hid (show [Value.string sa] ++ strVs r ++ [.string sb] = strVs (a :: (r ++ [b])) by rw [hsa, hsb]; simp [strVs, strV])
          have HK7 := Lib.hid (show ∀ W : World, Below w7.heap.size w7 W → (fun w' : World => Below w7.heap.size w7 w' ∧ w'.cell? ⟨g, 0, none⟩ = some (.string sa)) W from fun W hW => ⟨hW, (hW.cell (p := ⟨g, 0, none⟩) hg7).trans d0⟩)
          have hcap2 : 2 ≤ cap := by omega
          have hcap3 : ¬ cap = 2 := by omega
          have hci : (2 : Int) ≤ (m : Int) := by omega
          have hrl : (strVs r).length = (m - 2) * 1 := by simp [strVs, hr2]
          clear hsa hsb c1 ck f1 fk ck2 cs2
          go_upto_region 9 with fail
          refine wp_region_noPanic ?_
          refine wp_region_held_drew (S := (fun w' : World => Below w7.heap.size w7 w' ∧ w'.cell? ⟨g, 0, none⟩ = some (.string sa))) (by kernel_rfl) (HK7.out _ ((Below.refl _ _).drew)) (fun hHeld => ?_)
          refine wpAnyH_take (i := 0) (v := ?_) (arr_at rfl) (by as_aux_lemma => kernel_rfl) (by as_aux_lemma => kernel_rfl) (by as_aux_lemma => kernel_rfl) (fun _ _ _ h => h) (Or.inl ⟨by rfl, ?_⟩) hHeld ?_
          rotate_left
          · intro w hSw
            (try dsimp only at hSw)
            go_simp
            all_goals with_reducible rfl
          try simp only [Act.put, List.setIfInBounds_toArray, List.set_cons_zero, List.set_cons_succ]
          refine wpAnyH_take (i := 1) (v := ?_) (arr_at rfl) (by as_aux_lemma => kernel_rfl) (by as_aux_lemma => kernel_rfl) (by as_aux_lemma => kernel_rfl) (fun _ _ _ h => h) (Or.inl ⟨by rfl, ?_⟩) hHeld ?_
          rotate_left
          · intro w hSw
            (try dsimp only at hSw)
            go_simp
            all_goals with_reducible rfl
          try simp only [Act.put, List.setIfInBounds_toArray, List.set_cons_zero, List.set_cons_succ]
          refine wpAnyH_take (i := 2) (v := ?_) (arr_at rfl) (by as_aux_lemma => kernel_rfl) (by as_aux_lemma => kernel_rfl) (by as_aux_lemma => kernel_rfl) (fun _ _ _ h => h) (Or.inl ⟨by rfl, ?_⟩) hHeld ?_
          rotate_left
          · intro w hSw
            (try dsimp only at hSw)
            go_simp
            all_goals with_reducible rfl
          try simp only [Act.put, List.setIfInBounds_toArray, List.set_cons_zero, List.set_cons_succ]
          refine wpAnyH_take (i := 4) (v := ?_) (arr_at rfl) (by as_aux_lemma => kernel_rfl) (by as_aux_lemma => kernel_rfl) (by as_aux_lemma => kernel_rfl) (fun _ _ _ h => h) (Or.inl ⟨by rfl, ?_⟩) hHeld ?_
          rotate_left
          · intro w hSw
            (try dsimp only at hSw)
            go_simp
            all_goals with_reducible rfl
          try simp only [Act.put, List.setIfInBounds_toArray, List.set_cons_zero, List.set_cons_succ]
          refine wpAnyH_take (i := 5) (v := ?_) (arr_at rfl) (by as_aux_lemma => kernel_rfl) (by as_aux_lemma => kernel_rfl) (by as_aux_lemma => kernel_rfl) (fun _ _ _ h => h) (Or.inl ⟨by rfl, ?_⟩) hHeld ?_
          rotate_left
          · intro w hSw
            (try dsimp only at hSw)
            go_simp
            all_goals with_reducible rfl
          try simp only [Act.put, List.setIfInBounds_toArray, List.set_cons_zero, List.set_cons_succ]
          refine wpAnyH_take (i := 7) (v := ?_) (arr_at rfl) (by as_aux_lemma => kernel_rfl) (by as_aux_lemma => kernel_rfl) (by as_aux_lemma => kernel_rfl) (fun _ _ _ h => h) (Or.inl ⟨by rfl, ?_⟩) hHeld ?_
          rotate_left
          · intro w hSw
            (try dsimp only at hSw)
            go_simp
            all_goals with_reducible rfl
          try simp only [Act.put, List.setIfInBounds_toArray, List.set_cons_zero, List.set_cons_succ]
          refine wpAnyH_ready (rs := [3, 8]) (by as_aux_lemma => kernel_rfl) (by simp) ?_
          refine AllReadyH.cons (arr_at rfl) (fun K hK => ?_) ?_
          ·
            go_simp
            have hz := Nat.le_trans hB7 hHeld.1.size
            have hl := hHeld.1.size
            refine hK.out _ _ ?_ (fun hNew => ?_)
            · exact HK7.out _ (hHeld.1.alloc hHeld.1.size _)
            clear hK K hHeld
            have hHeld := hNew
            clear hNew
            first | have fN := new_ofd hHeld.1 hz hl | have fN := new_of hHeld.1 hz hl
            first | generalize hWW : World.drew (World.alloc _ _) = WW at * | generalize hWW : World.alloc _ _ = WW at *
            have o50 := fN.1
            have l50 := fN.2.2.2
            have lt50 := fN.2.2.1
            clear fN hWW hz hl
            try simp only [Act.put, List.setIfInBounds_toArray, List.set_cons_zero, List.set_cons_succ]
            refine wpAnyH_ready (rs := [6, 8]) (by as_aux_lemma => kernel_rfl) (by simp) ?_
            refine AllReadyH.cons (arr_at rfl) (fun K hK => ?_) ?_
            ·
              have hz := Nat.le_trans hB7 hHeld.1.size
              have hl := hHeld.1.size
              refine step_append_lies _ rfl (.tmp 50) (.tmp 52) 41 rfl B 9 i0 (.string ⟨#[]⟩) 1 16 Tryz.underlying41 HI.out.1 HI.out.2.1 HI.out.2.2.1 HI.out.2.2.2 rfl (by decide) _ 1 [.string sa] rfl o50 ⟨g, 2, none⟩ (m - 2) (cap - 2) (strVs r) rfl hrl (HSR.out _ hHeld.1) HOne.out (by omega) (by simp only [maxLen]; omega) (by omega) hz _ rfl ?_; intro g6 c6 w6 o53 hg6 hor6 hlt6
              refine hK.out _ _ ?_ (fun hNew => ?_)
              · exact HK7.out _ (hHeld.1.grown hg6 hHeld.1.size (fun i hi => by have := own_some hi; omega))
              clear hK K hHeld
              have hHeld := hNew
              clear hNew
              have l53 : w7.heap.size ≤ g6 := by rcases hor6 with h | h; (have h := own_some h; omega); omega
              clear hg6 hor6 hz hl
              try simp only [Act.put, List.setIfInBounds_toArray, List.set_cons_zero, List.set_cons_succ]
              refine wpAnyH_ready (rs := [8]) (by as_aux_lemma => kernel_rfl) (by simp) ?_
              refine AllReadyH.cons (arr_at rfl) (fun K hK => ?_) ?_
              ·
                go_simp
                have hz := Nat.le_trans hB7 hHeld.1.size
                have hl := hHeld.1.size
                have o53 := o53.alloc (.cells #[.string sb] 9)
                refine hK.out _ _ ?_ (fun hNew => ?_)
                · exact HK7.out _ (hHeld.1.alloc hHeld.1.size _)
                clear hK K hHeld
                have hHeld := hNew
                clear hNew
                first | have fN := new_ofd hHeld.1 hz hl | have fN := new_of hHeld.1 hz hl
                first | generalize hWW : World.drew (World.alloc _ _) = WW at * | generalize hWW : World.alloc _ _ = WW at *
                have c55 := fN.2.1
                have lt55 := fN.2.2.1
                have l55 := fN.2.2.2
                clear fN hWW hz hl
                try simp only [Act.put, List.setIfInBounds_toArray, List.set_cons_zero, List.set_cons_succ]
                refine wpAnyH_ready (rs := [9]) (by as_aux_lemma => kernel_rfl) (by simp) ?_
                refine AllReadyH.cons (arr_at rfl) (fun K hK => ?_) ?_
                ·
                  have hz := Nat.le_trans hB7 hHeld.1.size
                  have hl := hHeld.1.size
                  refine step_append_lies _ rfl (.tmp 53) (.tmp 55) 41 rfl B 9 i0 (.string ⟨#[]⟩) 1 16 Tryz.underlying41 HI.out.1 HI.out.2.1 HI.out.2.2.1 HI.out.2.2.2 rfl (by decide) _ (1 + (m - 2)) _ rfl o53 _ 1 1 [.string sb] rfl rfl (news_one c55) (by simp [Value.oneCell']) (by decide) (by simp only [maxLen]; omega) (by omega) hz _ rfl ?_; intro g9 c9 w9 o56 hg9 hor9 hlt9
                  refine hK.out _ _ ?_ (fun hNew => ?_)
                  · exact HK7.out _ (hHeld.1.grown hg9 hHeld.1.size (fun i hi => by have := own_some hi; omega))
                  clear hK K hHeld
                  have hHeld := hNew
                  clear hNew
                  clear hor9 hz hl
                  try simp only [Act.put, List.setIfInBounds_toArray, List.set_cons_zero, List.set_cons_succ]
                  refine wpAnyH_take (i := 10) (v := ?_) (arr_at rfl) (by as_aux_lemma => kernel_rfl) (by as_aux_lemma => kernel_rfl) (by as_aux_lemma => kernel_rfl) (fun _ _ _ h => h) (Or.inl ⟨by rfl, ?_⟩) hHeld ?_
                  rotate_left
                  · intro w hSw
                    (try dsimp only at hSw)
                    go_simp
                    all_goals with_reducible rfl
                  try simp only [Act.put, List.setIfInBounds_toArray, List.set_cons_zero, List.set_cons_succ]
                  refine wpAnyH_done (by as_aux_lemma => kernel_rfl) ?_ _
                  refine NoPanic.normal ?_
                  as_aux_lemma =>
                    have HB9 := Lib.hid (HB7.out.trans (hHeld.1.mono HB7.out.size))
                    have hB9 := Nat.le_trans hB7 hHeld.1.size
                    have hme : 1 + (m - 2) + 1 = m := by omega
                    rw [HFin.out, hme] at o56
                    have HO9 := Lib.hid o56
                    clear o56 hHeld
                    go_wp2_with fail
                    go_roundw
                    case rel => exact ⟨j + 1, g9, c9, a :: (r ++ [b]), by omega, by go_num, by rw [hme], Lib.hid HTN.out.symm, Lib.hid (by simp; omega), HO9, HB9, hB9⟩
                    case measure => simp [intOf]; omega
                exact AllReadyH.nil
              exact AllReadyH.nil
            refine AllReadyH.cons (arr_at rfl) (fun K hK => ?_) ?_
            ·
              go_simp
              have hz := Nat.le_trans hB7 hHeld.1.size
              have hl := hHeld.1.size
              have o50 := o50.alloc (.cells #[.string sb] 9)
              have hd := lt50
              refine hK.out _ _ ?_ (fun hNew => ?_)
              · exact HK7.out _ (hHeld.1.alloc hHeld.1.size _)
              clear hK K hHeld
              have hHeld := hNew
              clear hNew
              first | have fN := new_ofd hHeld.1 hz hl | have fN := new_of hHeld.1 hz hl
              first | generalize hWW : World.drew (World.alloc _ _) = WW at * | generalize hWW : World.alloc _ _ = WW at *
              have c55 := fN.2.1
              have lt55 := fN.2.2.1
              have l55 := fN.2.2.2
              clear fN hWW hz hl
              try simp only [Act.put, List.setIfInBounds_toArray, List.set_cons_zero, List.set_cons_succ]
              refine wpAnyH_ready (rs := [6]) (by as_aux_lemma => kernel_rfl) (by simp) ?_
              refine AllReadyH.cons (arr_at rfl) (fun K hK => ?_) ?_
              ·
                have hz := Nat.le_trans hB7 hHeld.1.size
                have hl := hHeld.1.size
                refine step_append_lies _ rfl (.tmp 50) (.tmp 52) 41 rfl B 9 i0 (.string ⟨#[]⟩) 1 16 Tryz.underlying41 HI.out.1 HI.out.2.1 HI.out.2.2.1 HI.out.2.2.2 rfl (by decide) _ 1 [.string sa] rfl o50 ⟨g, 2, none⟩ (m - 2) (cap - 2) (strVs r) rfl hrl (HSR.out _ hHeld.1) HOne.out (by omega) (by simp only [maxLen]; omega) (by omega) hz _ rfl ?_; intro g6 c6 w6 o53 hg6 hor6 hlt6
                refine hK.out _ _ ?_ (fun hNew => ?_)
                · exact HK7.out _ (hHeld.1.grown hg6 hHeld.1.size (fun i hi => by have := own_some hi; omega))
                clear hK K hHeld
                have hHeld := hNew
                clear hNew
                have c55 := (World.cell?_of_block (hg6.block _ lt55 (fun e => by first | exact absurd (own_some e.symm) (Nat.ne_of_lt hd) | exact absurd (own_some e.symm) (Nat.ne_of_gt hd)))).trans c55
                have lt55 := Nat.lt_of_lt_of_le lt55 hg6.size
                have l53 : w7.heap.size ≤ g6 := by rcases hor6 with h | h; (have h := own_some h; omega); omega
                clear hg6 hor6 hz hl
                try simp only [Act.put, List.setIfInBounds_toArray, List.set_cons_zero, List.set_cons_succ]
                refine wpAnyH_ready (rs := [9]) (by as_aux_lemma => kernel_rfl) (by simp) ?_
                refine AllReadyH.cons (arr_at rfl) (fun K hK => ?_) ?_
                ·
                  have hz := Nat.le_trans hB7 hHeld.1.size
                  have hl := hHeld.1.size
                  refine step_append_lies _ rfl (.tmp 53) (.tmp 55) 41 rfl B 9 i0 (.string ⟨#[]⟩) 1 16 Tryz.underlying41 HI.out.1 HI.out.2.1 HI.out.2.2.1 HI.out.2.2.2 rfl (by decide) _ (1 + (m - 2)) _ rfl o53 _ 1 1 [.string sb] rfl rfl (news_one c55) (by simp [Value.oneCell']) (by decide) (by simp only [maxLen]; omega) (by omega) hz _ rfl ?_; intro g9 c9 w9 o56 hg9 hor9 hlt9
                  refine hK.out _ _ ?_ (fun hNew => ?_)
                  · exact HK7.out _ (hHeld.1.grown hg9 hHeld.1.size (fun i hi => by have := own_some hi; omega))
                  clear hK K hHeld
                  have hHeld := hNew
                  clear hNew
                  clear hor9 hz hl
                  try simp only [Act.put, List.setIfInBounds_toArray, List.set_cons_zero, List.set_cons_succ]
                  refine wpAnyH_take (i := 10) (v := ?_) (arr_at rfl) (by as_aux_lemma => kernel_rfl) (by as_aux_lemma => kernel_rfl) (by as_aux_lemma => kernel_rfl) (fun _ _ _ h => h) (Or.inl ⟨by rfl, ?_⟩) hHeld ?_
                  rotate_left
                  · intro w hSw
                    (try dsimp only at hSw)
                    go_simp
                    all_goals with_reducible rfl
                  try simp only [Act.put, List.setIfInBounds_toArray, List.set_cons_zero, List.set_cons_succ]
                  refine wpAnyH_done (by as_aux_lemma => kernel_rfl) ?_ _
                  refine NoPanic.normal ?_
                  as_aux_lemma =>
                    have HB9 := Lib.hid (HB7.out.trans (hHeld.1.mono HB7.out.size))
                    have hB9 := Nat.le_trans hB7 hHeld.1.size
                    have hme : 1 + (m - 2) + 1 = m := by omega
                    rw [HFin.out, hme] at o56
                    have HO9 := Lib.hid o56
                    clear o56 hHeld
                    go_wp2_with fail
                    go_roundw
                    case rel => exact ⟨j + 1, g9, c9, a :: (r ++ [b]), by omega, by go_num, by rw [hme], Lib.hid HTN.out.symm, Lib.hid (by simp; omega), HO9, HB9, hB9⟩
                    case measure => simp [intOf]; omega
                exact AllReadyH.nil
              exact AllReadyH.nil
            exact AllReadyH.nil
          refine AllReadyH.cons (arr_at rfl) (fun K hK => ?_) ?_
          ·
            go_simp
            have hz := Nat.le_trans hB7 hHeld.1.size
            have hl := hHeld.1.size
            refine hK.out _ _ ?_ (fun hNew => ?_)
            · exact HK7.out _ (hHeld.1.alloc hHeld.1.size _)
            clear hK K hHeld
            have hHeld := hNew
            clear hNew
            first | have fN := new_ofd hHeld.1 hz hl | have fN := new_of hHeld.1 hz hl
            first | generalize hWW : World.drew (World.alloc _ _) = WW at * | generalize hWW : World.alloc _ _ = WW at *
            have c55 := fN.2.1
            have lt55 := fN.2.2.1
            have l55 := fN.2.2.2
            clear fN hWW hz hl
            try simp only [Act.put, List.setIfInBounds_toArray, List.set_cons_zero, List.set_cons_succ]
            refine wpAnyH_ready (rs := [3]) (by as_aux_lemma => kernel_rfl) (by simp) ?_
            refine AllReadyH.cons (arr_at rfl) (fun K hK => ?_) ?_
            ·
              go_simp
              have hz := Nat.le_trans hB7 hHeld.1.size
              have hl := hHeld.1.size
              have c55 := (cell_old (o := .cells #[.string sa] 9) (i := 0) lt55).trans c55
              have hd := lt55
              have lt55 := lt_alloc (.cells #[.string sa] 9) lt55
              refine hK.out _ _ ?_ (fun hNew => ?_)
              · exact HK7.out _ (hHeld.1.alloc hHeld.1.size _)
              clear hK K hHeld
              have hHeld := hNew
              clear hNew
              first | have fN := new_ofd hHeld.1 hz hl | have fN := new_of hHeld.1 hz hl
              first | generalize hWW : World.drew (World.alloc _ _) = WW at * | generalize hWW : World.alloc _ _ = WW at *
              have o50 := fN.1
              have l50 := fN.2.2.2
              have lt50 := fN.2.2.1
              clear fN hWW hz hl
              try simp only [Act.put, List.setIfInBounds_toArray, List.set_cons_zero, List.set_cons_succ]
              refine wpAnyH_ready (rs := [6]) (by as_aux_lemma => kernel_rfl) (by simp) ?_
              refine AllReadyH.cons (arr_at rfl) (fun K hK => ?_) ?_
              ·
                have hz := Nat.le_trans hB7 hHeld.1.size
                have hl := hHeld.1.size
                refine step_append_lies _ rfl (.tmp 50) (.tmp 52) 41 rfl B 9 i0 (.string ⟨#[]⟩) 1 16 Tryz.underlying41 HI.out.1 HI.out.2.1 HI.out.2.2.1 HI.out.2.2.2 rfl (by decide) _ 1 [.string sa] rfl o50 ⟨g, 2, none⟩ (m - 2) (cap - 2) (strVs r) rfl hrl (HSR.out _ hHeld.1) HOne.out (by omega) (by simp only [maxLen]; omega) (by omega) hz _ rfl ?_; intro g6 c6 w6 o53 hg6 hor6 hlt6
                refine hK.out _ _ ?_ (fun hNew => ?_)
                · exact HK7.out _ (hHeld.1.grown hg6 hHeld.1.size (fun i hi => by have := own_some hi; omega))
                clear hK K hHeld
                have hHeld := hNew
                clear hNew
                have c55 := (World.cell?_of_block (hg6.block _ lt55 (fun e => by first | exact absurd (own_some e.symm) (Nat.ne_of_lt hd) | exact absurd (own_some e.symm) (Nat.ne_of_gt hd)))).trans c55
                have lt55 := Nat.lt_of_lt_of_le lt55 hg6.size
                have l53 : w7.heap.size ≤ g6 := by rcases hor6 with h | h; (have h := own_some h; omega); omega
                clear hg6 hor6 hz hl
                try simp only [Act.put, List.setIfInBounds_toArray, List.set_cons_zero, List.set_cons_succ]
                refine wpAnyH_ready (rs := [9]) (by as_aux_lemma => kernel_rfl) (by simp) ?_
                refine AllReadyH.cons (arr_at rfl) (fun K hK => ?_) ?_
                ·
                  have hz := Nat.le_trans hB7 hHeld.1.size
                  have hl := hHeld.1.size
                  refine step_append_lies _ rfl (.tmp 53) (.tmp 55) 41 rfl B 9 i0 (.string ⟨#[]⟩) 1 16 Tryz.underlying41 HI.out.1 HI.out.2.1 HI.out.2.2.1 HI.out.2.2.2 rfl (by decide) _ (1 + (m - 2)) _ rfl o53 _ 1 1 [.string sb] rfl rfl (news_one c55) (by simp [Value.oneCell']) (by decide) (by simp only [maxLen]; omega) (by omega) hz _ rfl ?_; intro g9 c9 w9 o56 hg9 hor9 hlt9
                  refine hK.out _ _ ?_ (fun hNew => ?_)
                  · exact HK7.out _ (hHeld.1.grown hg9 hHeld.1.size (fun i hi => by have := own_some hi; omega))
                  clear hK K hHeld
                  have hHeld := hNew
                  clear hNew
                  clear hor9 hz hl
                  try simp only [Act.put, List.setIfInBounds_toArray, List.set_cons_zero, List.set_cons_succ]
                  refine wpAnyH_take (i := 10) (v := ?_) (arr_at rfl) (by as_aux_lemma => kernel_rfl) (by as_aux_lemma => kernel_rfl) (by as_aux_lemma => kernel_rfl) (fun _ _ _ h => h) (Or.inl ⟨by rfl, ?_⟩) hHeld ?_
                  rotate_left
                  · intro w hSw
                    (try dsimp only at hSw)
                    go_simp
                    all_goals with_reducible rfl
                  try simp only [Act.put, List.setIfInBounds_toArray, List.set_cons_zero, List.set_cons_succ]
                  refine wpAnyH_done (by as_aux_lemma => kernel_rfl) ?_ _
                  refine NoPanic.normal ?_
                  as_aux_lemma =>
                    have HB9 := Lib.hid (HB7.out.trans (hHeld.1.mono HB7.out.size))
                    have hB9 := Nat.le_trans hB7 hHeld.1.size
                    have hme : 1 + (m - 2) + 1 = m := by omega
                    rw [HFin.out, hme] at o56
                    have HO9 := Lib.hid o56
                    clear o56 hHeld
                    go_wp2_with fail
                    go_roundw
                    case rel => exact ⟨j + 1, g9, c9, a :: (r ++ [b]), by omega, by go_num, by rw [hme], Lib.hid HTN.out.symm, Lib.hid (by simp; omega), HO9, HB9, hB9⟩
                    case measure => simp [intOf]; omega
                exact AllReadyH.nil
              exact AllReadyH.nil
            exact AllReadyH.nil
          exact AllReadyH.nil
      · have hm2i : ¬ (2 : Int) < (m : Int) := by omega
        have ht : ordL (ord.take (j + 1)) xs = ls := by
          rw [HJ.out, ← HL.out]
          unfold turnP
          rw [if_neg (by have := HLN.out; omega)]
        go_wp2_with fail
        go_roundw
        case rel => exact ⟨j + 1, g, cap, ls, by omega, by go_num, rfl, Lib.hid ht.symm, HLN, HO, HBr, hBr⟩
        case measure => simp [intOf]; omega
    · have hjE : j = no := by omega
      have hls : ls = ordL ord xs := by rw [HL.out, List.take_of_length_le (by have := HOR.out.1; omega)]
      have hnj : ¬ (j : Int) < (no : Int) := by omega
      have HLs := Lib.hid hls
      have HST := Lib.hid (StrsAt.of_own HO.out)
      have HXL := Lib.hid (show ∀ x ∈ ls, x.length ≤ 1000 from fun x hx => HX.out x (by rw [hls] at hx; exact (ordL_perm ord xs).mem_iff.1 hx))
      have hmz : m ≤ 15 := hn
      clear hls
      go_wp2_with fail
      go_loop [9, 60] (fun u v => ∃ (k : Nat) (s : ByteArray), k ≤ m ∧ v = .int .i64 k ∧ u = .string s ∧ s.size ≤ 1001 * k ∧ Hid (s = ⟨(joinC 59 (ls.take k)).toArray⟩)) (fun _ v => m - (intOf v).toNat)
      case atStart => exact ⟨0, ⟨#[]⟩, Nat.zero_le _, rfl, rfl, by decide, Lib.hid rfl⟩
      case round =>
        obtain ⟨k, s, hk, rfl, rfl, hs, HSt⟩ := hrel
        by_cases hkm : k < m
        · have hkl : k < ls.length := by have := HLN.out; omega
          have hc := HST.out k _ (List.getElem?_eq_getElem hkl)
          have HK := Lib.hid (List.getElem?_eq_getElem hkl)
          have hzl : (⟨ls[k].toArray⟩ : ByteArray).size ≤ 1000 := by rw [Lib.size_eq]; exact HXL.out _ (List.getElem_mem hkl)
          obtain ⟨z, hz⟩ : ∃ z : ByteArray, z = ⟨ls[k].toArray⟩ := ⟨_, rfl⟩
          rw [← hz] at hc hzl
          have HZ := Lib.hid hz
          generalize ls[k] = x at *
          clear hz
          by_cases hk0 : 0 < k
          · have hk0i : (0 : Int) < (k : Int) := by omega
            go_wp2_with fail
            go_round
            case rel =>
              refine ⟨k + 1, _, by omega, by go_num, rfl, ?_, Lib.hid ?_⟩
              · simp only [ByteArray.size_append]
                have : (⟨#[59]⟩ : ByteArray).size = 1 := rfl
                omega
              · rw [HSt.out, HZ.out, bs_app59, joinC_take _ HK.out hk0]
            case measure => simp [intOf]; omega
          · have hk0' : k = 0 := by omega
            subst hk0'
            have hs0 : s = ⟨#[]⟩ := by rw [HSt.out]; rfl
            subst hs0
            go_wp2_with fail
            go_round
            case rel =>
              refine ⟨1, _, by omega, by go_num, rfl, ?_, Lib.hid ?_⟩
              · simp only [ByteArray.size_append]
                have : (⟨#[]⟩ : ByteArray).size = 0 := rfl
                omega
              · rw [HZ.out, joinC_take0 _ HK.out]
                apply ByteArray.ext
                simp
            case measure => simp [intOf]; omega
        · have hkn' : k = m := by omega
          subst hkn'
          go_wp2_with fail
          go_ret
          refine ⟨?_, HBr.out⟩
          rw [HSt.out, List.take_of_length_le (by have := HLN.out; omega), HLs.out]
          rfl
end Go.Proofs.YtnlpjncljbaapaaGreatDoor
