/- StrToDatesInLoc, walked. -/
import Derived.Test.YtnlpjncljbaapaaGreatDoorIx
import Derived.Test.YtnlpjncljbaapaaGreatDoorIn2
import Derived.Lib.Space
import Derived.Lib.Case
namespace Go.Proofs.YtnlpjncljbaapaaGreatDoor
open Go.RowKit

/-- A text of ASCII with no space at its ends. -/
def ascii (l : List UInt8) : Prop := ∀ b ∈ l, b.toNat < 128
structure Clean (l : List UInt8) : Prop where
  asc : ascii l
  head : ∀ b, l.head? = some b → Lib.isSp b = false
  last : ∀ b, l.getLast? = some b → Lib.isSp b = false
theorem dropWhile_id {α : Type} (p : α → Bool) (l : List α) (h : ∀ b, l.head? = some b → p b = false) : l.dropWhile p = l := by
  cases l with
  | nil => rfl
  | cons a l => simp [h a rfl]
theorem Clean.trim {l : List UInt8} (h : Clean l) : Lib.trimSpace l = l := by
  unfold Lib.trimSpace
  rw [dropWhile_id _ _ h.head, dropWhile_id _ _ (fun b hb => h.last b (by simpa [List.head?_reverse] using hb)), List.reverse_reverse]
theorem ascii_at {l : List UInt8} (h : ascii l) : ∀ (j : Nat) b, (⟨l.toArray⟩ : ByteArray).data.toList[j]? = some b → b.toNat < 128 := fun j b hb => h b (List.mem_of_getElem? (by simpa using hb))

theorem trim_any (l : List UInt8) (w : World) (hG : Glob w) (hl : Clean l) (hs : l.length ≤ 1000000) :
    Calls Tryz.prog 66 #[.string ⟨l.toArray⟩] w fun e w' => e = .returned (.string ⟨l.toArray⟩) ∧ Below w.heap.size w w' := by
  refine (Tryz.strings_TrimSpace ⟨l.toArray⟩ w (by rw [Lib.size_eq]; simp; omega) (ascii_at hl.asc) hG.spc).mono fun e w' ⟨he, hw⟩ => ⟨?_, by rw [hw]; exact Lib.bytesWorld_below _ _ _⟩
  rw [he]
  simp [hl.trim]
theorem upper_any (l : List UInt8) (w : World) (hl : ascii l) (hs : l.length ≤ 1000000) :
    Calls Tryz.prog 149 #[.string ⟨l.toArray⟩] w fun e w' => e = .returned (.string ⟨(Lib.toUpperA l).toArray⟩) ∧ Below w.heap.size w w' := by
  have h := Tryz.strings_ToUpper_ascii ⟨l.toArray⟩ w (by rw [Lib.size_eq]; simp; omega) (ascii_at hl)
  simpa using h

theorem getElem_of (l : List UInt8) (k : Nat) (_h : k < (⟨l.toArray⟩ : ByteArray).size) (h2 : k < l.length) : (⟨l.toArray⟩ : ByteArray)[k] = l[k] := rfl
theorem byte_mem (s : ByteArray) (k : Nat) (h : k < s.size) : s[k] ∈ s.data.toList := Array.mem_toList_iff.2 (Array.getElem_mem h)

theorem nonempty_of {u : ByteArray} (h : 0 < u.size) : u.toList.isEmpty = false := by
  rw [Lib.toList_data]
  rw [Lib.size_eq] at h
  cases hu : u.data.toList with
  | nil => rw [hu] at h; simp at h
  | cons a l => rfl
theorem nonempty_of' {u : ByteArray} (h : 0 < u.size) : (u.toList == []) = false := by
  rw [Lib.toList_data]
  rw [Lib.size_eq] at h
  cases hu : u.data.toList with
  | nil => rw [hu] at h; simp at h
  | cons a l => rfl
/-- A name that a line may begin with. -/
structure Name (l : List UInt8) : Prop where
  up : Lib.toUpperA l = l
  no : ∀ b ∈ l, b.toNat < 128 ∧ b ≠ 59 ∧ b ≠ 58 ∧ b ≠ 61
  ne : l ≠ []

/-- A text and no error. -/
def GivesStr (l : List UInt8) (w : World) (e : Ending) (w' : World) : Prop := e = .returned (.tuple #[.string ⟨l.toArray⟩, .nilIface]) ∧ Below w.heap.size w w'

set_option maxRecDepth 100000 in
set_option maxHeartbeats 2000000 in
theorem name_ok (name rest : List UInt8) (w : World) (hG : Glob w) (hn : Name name) (hc : Clean (name ++ 58 :: rest)) (hs : (name ++ 58 :: rest).length ≤ 1000000) :
    Calls Tryz.prog 96 #[.string ⟨(name ++ 58 :: rest).toArray⟩] w fun e w' => GivesStr name w e w' := by
  have T1 := Lib.hid (trim_any _ w hG hc hs)
  have T2 := Lib.hid fun W : World => upper_any _ W hc.asc hs
  have hU : Lib.toUpperA (name ++ 58 :: rest) = name ++ 58 :: Lib.toUpperA rest := by
    have := hn.up
    unfold Lib.toUpperA at this ⊢
    rw [List.map_append, this]
    rfl
  obtain ⟨u, hu⟩ : ∃ u : ByteArray, u = ⟨(Lib.toUpperA (name ++ 58 :: rest)).toArray⟩ := ⟨_, rfl⟩
  have hsz : u.size = name.length + 1 + rest.length := by
    rw [hu, hU, Lib.size_eq]
    simp [Lib.toUpperA]
    omega
  have h0 : u.extract 0 name.length = ⟨name.toArray⟩ := by
    rw [Lib.extract_upto, hu, hU]
    simp
  have hl1 : 1 ≤ name.length := by
    have := hn.ne
    cases hname : name with
    | nil => exact absurd hname this
    | cons a l => simp
  have Z1 := Lib.hid fun W : World => zzIndexAny_sc u name.length (by omega) (by subst hu; simp only [hU]; rw [getElem_of _ _ (by rw [Lib.size_eq]; simp) (by simp)]; simp) W (fun k hk hkn => by
    have hm : u[k] ∈ name := by
      subst hu
      simp only [hU]
      rw [getElem_of _ _ (by rw [Lib.size_eq]; simp; omega) (by simp; omega), List.getElem_append_left (by omega)]
      exact List.getElem_mem _
    have := hn.no _ hm
    exact ⟨this.1, this.2.1, this.2.2.1⟩)
  have Z2 := Lib.hid fun W : World => zzIndexAny_eq_none ⟨name.toArray⟩ W (fun k hk _ => by
    have := hn.no _ (by simpa using byte_mem ⟨name.toArray⟩ k hk)
    exact ⟨this.1, this.2.2.2⟩)
  have hlt : name.length < u.size := by omega
  have he : u.toList.isEmpty = false := nonempty_of (by omega)
  have he2 : (u.toList == []) = false := nonempty_of' (by omega)
  have HU := Lib.hid hu
  rw [← hu] at T2
  clear hu hU hn hc hG hs hsz
  generalize name.length = n at *
  generalize hnm : (⟨name.toArray⟩ : ByteArray) = nm at *
  have HN := Lib.hid hnm
  clear hnm
  generalize (⟨(name ++ 58 :: rest).toArray⟩ : ByteArray) = L at *
  clear HU
  go_enter Tryz.func96, Tryz.ntmps96
  go_wp2_with fail
  refine T1.out.mono ?_; rintro e w1 ⟨rfl, hb1⟩
  go_wp2_with fail
  refine (T2.out _).mono ?_; rintro e w2 ⟨rfl, hb2⟩
  go_wp2_with fail
  refine (Z1.out _).mono ?_; rintro e w3 ⟨rfl, hb3⟩
  go_wp2_with fail
  refine (Z2.out _).mono ?_; rintro e w4 ⟨rfl, hb4⟩
  go_wp2_with fail
  go_ret2
  exact ⟨by rw [HN.out]; rfl, hb1.trans ((hb2.mono hb1.size).trans ((hb3.mono (Nat.le_trans hb1.size hb2.size)).trans (hb4.mono (Nat.le_trans hb1.size (Nat.le_trans hb2.size hb3.size)))))⟩

/-- An empty text and an error. -/
def GivesNoStr (w : World) (e : Ending) (w' : World) : Prop := (∃ p, e = .returned (.tuple #[.string ⟨#[]⟩, .iface 175 (.pointer (some p))])) ∧ Below w.heap.size w w'
end Go.Proofs.YtnlpjncljbaapaaGreatDoor

namespace Go.Proofs.YtnlpjncljbaapaaGreatDoor
open Go.RowKit

end Go.Proofs.YtnlpjncljbaapaaGreatDoor

/- StrToDtStart and StrToDatesInLoc, walked. -/
namespace Go.Proofs.YtnlpjncljbaapaaGreatDoor
open Go.RowKit

theorem idx_none {c : UInt8} {l : List UInt8} (h : c ∉ l) : idx c l = l.length := by
  induction l with
  | nil => rfl
  | cons a l ih =>
    simp only [List.mem_cons, not_or] at h
    unfold idx
    rw [if_neg (fun e => h.1 e.symm), ih h.2]
    rfl
theorem splitL_one {c : UInt8} {l : List UInt8} (h : c ∉ l) : splitL c l = [l] := by
  rw [splitL, dif_neg (by rw [idx_none h]; omega)]
theorem dg_ne {n : Int} {c : UInt8} (h : c.toNat < 48 ∨ 57 < c.toNat) : c ≠ dg n := by
  rintro rfl
  have := dg_toNat n
  omega
theorem dateL_no {c : UInt8} (h : c.toNat < 48 ∨ 57 < c.toNat) (h1 : c ≠ 84) (h2 : c ≠ 90) (t : Int) : c ∉ dateL t := by
  simp [dateL, dateBytes, dg_ne h, h1, h2]

theorem keep2b {w w' : World} {o : Obj} {u v : Value} {t : TypeId} (hb : Below ((w.alloc o).alloc (.cells #[u, v] t)).heap.size ((w.alloc o).alloc (.cells #[u, v] t)) w') :
    w'.cell? ⟨w.heap.size + 1, 0, none⟩ = some u ∧ w'.cell? ⟨w.heap.size + 1, 1, none⟩ = some v ∧ w'.frozen? ⟨w.heap.size + 1, 0, none⟩ = false ∧ w'.frozen? ⟨w.heap.size + 1, 1, none⟩ = false ∧ w.heap.size + 1 < w'.heap.size := by
  have e : w.heap.size + 1 = (w.alloc o).heap.size := by rw [World.size_alloc]
  have h := keep2 (w := w.alloc o) (w' := w') (u := u) (v := v) (t := t) (hb.mono (by simp))
  rw [← e] at h
  exact h
theorem keep2c {W w2 : World} {g : Nat} {u v : Value} (hb : Below W.heap.size W w2) (hz : g < W.heap.size) (k0 : W.cell? ⟨g, 0, none⟩ = some u) (k1 : W.cell? ⟨g, 1, none⟩ = some v) (l0 : W.frozen? ⟨g, 0, none⟩ = false) (l1 : W.frozen? ⟨g, 1, none⟩ = false) :
    w2.cell? ⟨g, 0, none⟩ = some u ∧ w2.cell? ⟨g, 1, none⟩ = some v ∧ w2.frozen? ⟨g, 0, none⟩ = false ∧ w2.frozen? ⟨g, 1, none⟩ = false ∧ g < w2.heap.size :=
  ⟨(hb.cell hz).trans k0, (hb.cell hz).trans k1, (hb.frozen hz).trans l0, (hb.frozen hz).trans l1, Nat.lt_of_lt_of_le hz hb.size⟩
set_option maxRecDepth 100000 in
set_option maxHeartbeats 2000000 in
theorem dtStart_ok (t : Int) (w : World) (h1 : 0 ≤ t) (h2 : t < 315537897600) :
    Calls Tryz.prog 97 #[.string ⟨(dateL t).toArray⟩, .agg #[]] w fun e w' => GivesTime t w e w' := by
  have S := fun W : World => zzSplit_any ⟨(dateL t).toArray⟩ 58 W (by rw [Lib.size_eq]; simp [dateL_len])
  rw [show splitL 58 (⟨(dateL t).toArray⟩ : ByteArray).data.toList = [dateL t] from splitL_one (dateL_no (by decide) (by decide) (by decide) t)] at S
  have HS := Lib.hid S
  clear S
  have HT := Lib.hid fun W : World => strToTime_date t W h1 h2
  go_enter Tryz.func97, Tryz.ntmps97
  go_wp2_with fail
  refine (HS.out _).mono ?_; rintro e w1 ⟨g, cap, rfl, hcap, hst, hg1, hg2, hb⟩
  have hc : w1.cell? ⟨g, 0, none⟩ = some (.string ⟨(dateL t).toArray⟩) := hst 0 _ rfl
  have hi1 : (0 : Int) < ((1 : Nat) : Int) := by decide
  obtain ⟨k0, k1, l0, l1, hz⟩ := keep2b hb
  have HB := Lib.hid (below_a2.trans (hb.mono (B' := w.heap.size) (by simp; omega)))
  simp only [World.size_alloc] at hg1
  have hne : g ≠ w.heap.size + 1 := by omega
  have hne' : w.heap.size + 1 ≠ g := by omega
  clear hst hb
  go_wp2_with fail
  go_region_held3 (fun w' => w'.cell? ⟨g, 0, none⟩ = some (.string ⟨(dateL t).toArray⟩))
    (first | go_keep | (rw [hb2.cell (p := ⟨g, 0, none⟩) (by simpa using hg2)]; assumption))
    ((go_at_call 144; refine (HT.out _).mono ?_; rintro e w2 ⟨rfl, hb2⟩; obtain ⟨c0, c1, f0, f1, hz2⟩ := keep2c hb2 hz k0 k1 l0 l1))
  go_wp2
  have q0 := two_0 (.int .i64 t) (.int .i64 0) c0
  have q1 := two_1 (.int .i64 t) (.int .i64 0) c1
  have hwz := HB.out.size
  refine bodyPost_ret (v := .tuple #[.agg #[.int .i64 t, .int .i64 0], .nilIface]) (by simp [results, Tryz.results97, go_sem, q0, q1]) rfl ⟨rfl, ?_⟩
  exact ((HB.out.drew.trans (hb2.mono (B' := w.heap.size) (by simpa using hwz))).setCell (by simp) _).setCell (by simp) _
end Go.Proofs.YtnlpjncljbaapaaGreatDoor

namespace Go.Proofs.YtnlpjncljbaapaaGreatDoor
open Go.RowKit

/-- Moments in a row of memory. -/
def timeVs (ts : List Int) : List Value := ts.flatMap fun t => [.int .i64 t, .int .i64 0]
theorem timeVs_snoc (ts : List Int) (t : Int) : timeVs (ts ++ [t]) = timeVs ts ++ [.int .i64 t, .int .i64 0] := by simp [timeVs]
theorem timeVs_at (ts : List Int) (j : Nat) (t : Int) (h : ts[j]? = some t) : (timeVs ts)[j * 2]? = some (.int .i64 t) ∧ (timeVs ts)[j * 2 + 1]? = some (.int .i64 0) := by
  induction ts generalizing j with
  | nil => simp at h
  | cons a l ih =>
    have e : timeVs (a :: l) = .int .i64 a :: .int .i64 0 :: timeVs l := rfl
    cases j with
    | zero => simp at h; subst h; exact ⟨rfl, rfl⟩
    | succ j =>
      have := ih j (by simpa using h)
      rw [e, show (j + 1) * 2 = j * 2 + 1 + 1 by omega]
      simpa using this
def TimesAt (w : World) (g : Nat) (ts : List Int) : Prop := ∀ (j : Nat) (t : Int), ts[j]? = some t → w.cell? ⟨g, j * 2, none⟩ = some (.int .i64 t) ∧ w.cell? ⟨g, j * 2 + 1, none⟩ = some (.int .i64 0)
theorem TimesAt.of_own {w : World} {base g cap n : Nat} {e : TypeId} {ts : List Int} (h : w.ownsRow base e 2 (.slice (some ⟨g, 0, none⟩) n cap) n (timeVs ts)) : TimesAt w g ts := fun j t ht => by
  obtain ⟨h1, h2⟩ := timeVs_at ts j t ht
  have a := h.cells (g := g) rfl _ _ h1
  have b := h.cells (g := g) rfl _ _ h2
  rw [add_plain] at a b
  exact ⟨a, b⟩
theorem TimesAt.below {w w' : World} {g B : Nat} {ts : List Int} (h : TimesAt w g ts) (hb : Below B w w') (hg : g < B) : TimesAt w' g ts := fun j t ht => ⟨(hb.cell hg).trans (h j t ht).1, (hb.cell hg).trans (h j t ht).2⟩
/-- New moments in a row, and no error. -/
def GivesTimes (ts : List Int) (w : World) (e : Ending) (w' : World) : Prop :=
  ∃ g cap, e = .returned (.tuple #[.slice (some ⟨g, 0, none⟩) ts.length cap, .nilIface]) ∧ ts.length ≤ cap ∧ TimesAt w' g ts ∧ w.heap.size ≤ g ∧ g < w'.heap.size ∧ Below w.heap.size w w'
/-- No moments, and an error. -/
def GivesNoTimes (w : World) (e : Ending) (w' : World) : Prop := (∃ p, e = .returned (.tuple #[.slice none 0 0, .iface 175 (.pointer (some p))])) ∧ Below w.heap.size w w'
theorem info109 : (Tryz.prog.info? 109).map (fun i => (i.zero, i.size, i.bytes)) = some (some (.agg #[.int .i64 0, .int .i64 0]), 2, 16) := by kernel_rfl
theorem own_below {w w1 : World} {base : Nat} {e : TypeId} {size n : Nat} {v : Value} {xs : List Value} (h : w.ownsRow base e size v n xs) (hb : Below w.heap.size w w1) : w1.ownsRow base e size v n xs :=
  h.kept (row := none) ⟨hb.os, hb.tape, hb.output, hb.size, fun i hi _ => hb.block i hi⟩ (by cases v.ownBlock <;> simp)
/-- 'app_own' where the box's number is written otherwise. -/
theorem app_own' {P : Program} {ops : Array Oper} {rest : List Oper} {o : Oper} {a : Act} {Q : Exit → Act → World → Prop} {W : World} (nb : Nat) (hnb : nb = W.heap.size) (base : Nat) (hgd : o.guard = none) (s x : Operand) (t e : TypeId) (z : Value) (size bytes : Nat)
    (ho : o.op = .call { callee := .builtin .append, args := #[s, x], argTypes := #[t, t] })
    (ht : P.underlying t = some (.slice e)) (hinfo : (P.info? e).map (fun i => (i.zero, i.size, i.bytes)) = some (some z, size, bytes)) (hz : z.cells.size = size) (hsz : 0 < size) (hb0 : 0 < bytes)
    (v : Value) (n : Nat) (xs : List Value) (ys : List Value) (hs : a.eval s = v) (hx : a.eval x = .slice (some ⟨nb, 0, none⟩) 1 1) (hys : ys.length = size) (h1 : ∀ u ∈ ys, u.oneCell' = true)
    (HO : W.ownsRow base e size v n xs) (hbase : base ≤ W.heap.size) (hl : (n + 1) * bytes ≤ 140737488355328)
    (h : ∀ g cap w1, w1.ownsRow base e size (.slice (some ⟨g, 0, none⟩) (n + 1) cap) (n + 1) (xs ++ ys) → base ≤ g → g < w1.heap.size → n + 1 ≤ cap → W.grownBy w1 v.ownBlock → (some g = v.ownBlock ∨ W.heap.size ≤ g) → wpList P ops Q rest (a.put o.dst (.slice (some ⟨g, 0, none⟩) (n + 1) cap)) w1) :
    wpList P ops Q (o :: rest) a (W.alloc (.cells ys.toArray e)) := by
  subst hnb
  exact app_own base hgd s x t e z size bytes ho ht hinfo hz hsz hb0 v n xs ys hs hx hys h1 HO hbase hl h
def inTime (ts : List Int) : Prop := ∀ t ∈ ts, 0 ≤ t ∧ t < 315537897600

set_option maxRecDepth 100000 in
set_option maxHeartbeats 4000000 in
theorem dates_ok (l : List UInt8) (ts : List Int) (w : World) (hl : l.length ≤ 1000000) (h58 : (58 : UInt8) ∉ l) (hr : inTime ts) (hsp : splitL 44 l = ts.map dateL) :
    Calls Tryz.prog 99 #[.string ⟨l.toArray⟩, .agg #[]] w fun e w' => GivesTimes ts w e w' := by
  have S := fun W : World => zzSplit_any ⟨l.toArray⟩ 58 W (by rw [Lib.size_eq]; simp; omega)
  rw [show splitL 58 (⟨l.toArray⟩ : ByteArray).data.toList = [l] from splitL_one h58] at S
  have HS := Lib.hid S
  have HS2 := Lib.hid fun W : World => zzSplit_any ⟨l.toArray⟩ 44 W (by rw [Lib.size_eq]; simp; omega)
  obtain ⟨sl1, sl2⟩ := splitL_len 44 l
  have hlen : ts.length = (splitL 44 l).length := by rw [hsp]; simp
  have HD := Lib.hid fun (k : Nat) (t : Int) (hk : ts[k]? = some t) (W : World) => strToTime_date t W (hr t (List.mem_of_getElem? hk)).1 (hr t (List.mem_of_getElem? hk)).2
  have HP := Lib.hid fun (k : Nat) (t : Int) (hk : ts[k]? = some t) => (by rw [hsp]; rw [List.getElem?_map, hk]; rfl : (splitL 44 l)[k]? = some (dateL t))
  have el : (⟨l.toArray⟩ : ByteArray).data.toList = l := rfl
  rw [el] at HS2
  clear S h58 hr hsp el
  generalize splitL 44 l = ps at *
  obtain ⟨n, hn⟩ : ∃ n, n = ps.length := ⟨_, rfl⟩
  have Hn := Lib.hid hn
  have hn2 : n ≤ 1000001 := by omega
  have hn1 := Lib.hid (by omega : 1 ≤ n)
  have hN : ts.length = n := by omega
  have HNN := Lib.hid hN
  clear hn sl1 sl2 hlen hN
  go_enter Tryz.func99, Tryz.ntmps99
  go_wp2_with fail
  refine (HS.out _).mono ?_; rintro e w1 ⟨g, cap, rfl, hcap, hst, hg1, hg2, hb⟩
  have hc : w1.cell? ⟨g, 0, none⟩ = some (.string ⟨l.toArray⟩) := hst 0 _ rfl
  have hb1 : Below w.heap.size w w1 := below_a1.trans (hb.mono (B' := w.heap.size) (by simp))
  have HB := Lib.hid hb1
  have hz1 := hb1.size
  clear hst hb hb1
  go_wp2_with fail
  refine (HS2.out _).mono ?_; rintro e w2 ⟨g2, cap2, rfl, hcap2, hst2, hg3, hg4, hb2⟩
  have hb3 : Below w.heap.size w w2 := (HB.out.alloc hz1 _).trans (hb2.mono (B' := w.heap.size) (by simp; omega))
  rw [← Hn.out] at hcap2 ⊢
  have HB3 := Lib.hid hb3
  have HT := Lib.hid hst2
  have hgz : w.heap.size ≤ g2 := by rw [World.size_alloc] at hg3; omega
  clear hst2 hb2 hb3 hc HB hg3 hg1 hg2
  go_wp2_with fail
  go_loopw [4, 5, 60] (fun u er v wr => ∃ k : Nat, k ≤ n ∧ v = .int .i64 k ∧ er = .nilIface ∧ Hid (k ≤ ts.length) ∧ StrsAt wr g2 ps ∧ wr.ownsRow w.heap.size 109 2 u k (timeVs (ts.take k)) ∧ Below w.heap.size w wr ∧ g2 < wr.heap.size ∧ Hid (u.ownBlock ≠ some g2)) (fun _ _ v _ => n - (intOf v).toNat)
  case atStart => exact ⟨0, Nat.zero_le _, rfl, rfl, Nat.zero_le _, HT.out, own_nil _ _ _ _, HB3.out, hg4, by show _ ≠ _; simp [Value.ownBlock]⟩
  case round =>
    clear HT HB3 hg4
    obtain ⟨k, hk, rfl, rfl, hkt, hst, hown, hb, hg4, hne⟩ := hrel
    have HT := Lib.hid hst
    clear hst
    by_cases hkn : k < n
    · by_cases hkt2 : k < ts.length
      · have hget : ts[k]? = some ts[k] := List.getElem?_eq_getElem hkt2
        have hc := HT.out k _ (HP.out k _ hget)
        have HDk := Lib.hid (HD.out k _ hget)
        have HK := Lib.hid hkt2
        generalize htk : ts[k] = t at *
        have HG := Lib.hid hget
        clear hget htk hkt2
        go_wp2_with fail
        refine (HDk.out _).mono ?_; rintro e w3 ⟨rfl, hb3⟩
        have hb4 := hb.trans (hb3.mono hb.size)
        have hown3 : w3.ownsRow w.heap.size 109 2 _ k (timeVs (ts.take k)) := own_below hown hb3
        have hz3 := hb4.size
        have hz4 := hb3.size
        have HT3 := Lib.hid (HT.out.below hb3 hg4)
        clear hc hown hb hb3
        go_wp2_with (at_builtin; refine app_own' (w3.heap.size + 1) (by simp) w.heap.size rfl _ _ 113 109 (.agg #[.int .i64 0, .int .i64 0]) 2 16 rfl Tryz.underlying113 info109 rfl (by decide) (by decide) _ _ _ [.int .i64 t, .int .i64 0] (by rfl) (by rfl) rfl (by simp [Value.oneCell']) (hown3.alloc _) (by simp; omega) (by omega) ?_)
        intro g5 cap5 w5 hown5 hg5 hg6 hcap5 hgrow hat
        have hb5 : Below w.heap.size w w5 := (hb4.alloc hz3 _).grown hgrow (by simp; omega) (own_base hown3)
        have hz5 : g2 < w5.heap.size := by have := hgrow.size; rw [World.size_alloc] at this; omega
        have HT5 : StrsAt w5 g2 ps := HT3.out.keep fun j => by
          rw [hgrow.cell_far ⟨g2, j, none⟩ (by simp; omega) (fun h => hne.out h.symm), World.cell?_alloc_lt _ _ _ (by simp; omega)]
        have hne5 : (Value.slice (some ⟨g5, 0, none⟩) (k + 1) cap5).ownBlock ≠ some g2 := by
          rcases hat with hat | hat
          · show some g5 ≠ _
            rw [hat]; exact hne.out
          · show some g5 ≠ _
            intro h; simp at h hat; omega
        clear hgrow hat hown3 hb4 HT HT3 hne
        have HN5 := Lib.hid hne5
        have HT6 := Lib.hid HT5
        clear HT5 hne5
        go_wp2_with fail
        go_roundw
        case rel =>
          have hk1 : k < ts.length := HK.out
          refine ⟨k + 1, by omega, by go_num, rfl, hk1, HT6.out, ?_, hb5, hz5, HN5⟩
          rw [← timeVs_snoc] at hown5
          have e : ts.take (k + 1) = ts.take k ++ [t] := by rw [List.take_add_one, HG.out]; rfl
          rw [e]
          simpa using hown5
        case measure => simp [intOf]; omega
      · exact absurd HNN.out (by have := hkt.out; omega)
    · have hkn' : k = n := by omega
      subst hkn'
      have HOWN := Lib.hid hown
      clear hown hkn
      go_wp2_with fail
      go_ret2
      have hkn2 := HNN.out
      have hk1 := hn1.out
      rw [← hkn2, List.take_length, hkn2] at HOWN
      rcases HOWN.out.2 with ⟨_, h0⟩ | ⟨g7, cap7, cur, rfl, hb7, hh, hcap7, _⟩
      · omega
      · have hlt : g7 < wr.heap.size := (Array.getElem?_eq_some_iff.1 hh).1
        exact ⟨g7, cap7, by rw [hkn2]; rfl, by omega, TimesAt.of_own HOWN.out, hb7, hlt, hb⟩

end Go.Proofs.YtnlpjncljbaapaaGreatDoor
