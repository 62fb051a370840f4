/- The options of a rule, and their text read: StrToROptionInLocation, walked. -/
import Derived.Test.YtnlpjncljbaapaaGreatDoorFw
import Derived.Lib.OthersKept
import Derived.Test.YtnlpjncljbaapaaGreatDoorIn2
import Derived.Lib.Space
import Derived.Lib.Case
namespace Go.Proofs.YtnlpjncljbaapaaGreatDoor
open Go.RowKit

end Go.Proofs.YtnlpjncljbaapaaGreatDoor

namespace Go.Proofs.YtnlpjncljbaapaaGreatDoor
open Go.RowKit

/-- A text of ASCII with no space at its ends. -/
def ascii (l : List UInt8) : Prop := ∀ b ∈ l, b.toNat < 128
structure Clean (l : List UInt8) : Prop where
  asc : ascii l
  head : ∀ b, l.head? = some b → Lib.isSp b = false
  last : ∀ b, l.getLast? = some b → Lib.isSp b = false
theorem dropWhile_id {α : Type} (p : α → Bool) (l : List α) (h : ∀ b, l.head? = some b → p b = false) : l.dropWhile p = l := by
  cases l with
  | nil => rfl
  | cons a l => simp [h a rfl]
theorem Clean.trim {l : List UInt8} (h : Clean l) : Lib.trimSpace l = l := by
  unfold Lib.trimSpace
  rw [dropWhile_id _ _ h.head, dropWhile_id _ _ (fun b hb => h.last b (by simpa [List.head?_reverse] using hb)), List.reverse_reverse]
theorem ascii_at {l : List UInt8} (h : ascii l) : ∀ (j : Nat) b, (⟨l.toArray⟩ : ByteArray).data.toList[j]? = some b → b.toNat < 128 := fun j b hb => h b (List.mem_of_getElem? (by simpa using hb))

theorem trim_any (l : List UInt8) (w : World) (hG : Glob w) (hl : Clean l) (hs : l.length ≤ 1000000) :
    Calls Tryz.prog 66 #[.string ⟨l.toArray⟩] w fun e w' => e = .returned (.string ⟨l.toArray⟩) ∧ Below w.heap.size w w' := by
  refine (Tryz.strings_TrimSpace ⟨l.toArray⟩ w (by rw [Lib.size_eq]; simp; omega) (ascii_at hl.asc) hG.spc).mono fun e w' ⟨he, hw⟩ => ⟨?_, by rw [hw]; exact Lib.bytesWorld_below _ _ _⟩
  rw [he]
  simp [hl.trim]
/-- An empty text and an error. -/
def GivesNoStr (w : World) (e : Ending) (w' : World) : Prop := (∃ p, e = .returned (.tuple #[.string ⟨#[]⟩, .iface 175 (.pointer (some p))])) ∧ Below w.heap.size w w'
end Go.Proofs.YtnlpjncljbaapaaGreatDoor

namespace Go.Proofs.YtnlpjncljbaapaaGreatDoor
open Go.RowKit

end Go.Proofs.YtnlpjncljbaapaaGreatDoor

/- StrToDtStart and StrToDatesInLoc, walked. -/
namespace Go.Proofs.YtnlpjncljbaapaaGreatDoor
open Go.RowKit

theorem idx_none {c : UInt8} {l : List UInt8} (h : c ∉ l) : idx c l = l.length := by
  induction l with
  | nil => rfl
  | cons a l ih =>
    simp only [List.mem_cons, not_or] at h
    unfold idx
    rw [if_neg (fun e => h.1 e.symm), ih h.2]
    rfl
theorem splitL_one {c : UInt8} {l : List UInt8} (h : c ∉ l) : splitL c l = [l] := by
  rw [splitL, dif_neg (by rw [idx_none h]; omega)]
theorem dg_ne {n : Int} {c : UInt8} (h : c.toNat < 48 ∨ 57 < c.toNat) : c ≠ dg n := by
  rintro rfl
  have := dg_toNat n
  omega
theorem dateL_no {c : UInt8} (h : c.toNat < 48 ∨ 57 < c.toNat) (h1 : c ≠ 84) (h2 : c ≠ 90) (t : Int) : c ∉ dateL t := by
  simp [dateL, dateBytes, dg_ne h, h1, h2]

end Go.Proofs.YtnlpjncljbaapaaGreatDoor

namespace Go.Proofs.YtnlpjncljbaapaaGreatDoor
open Go.RowKit

/-- Moments in a row of memory. -/
def timeVs (ts : List Int) : List Value := ts.flatMap fun t => [.int .i64 t, .int .i64 0]
theorem timeVs_snoc (ts : List Int) (t : Int) : timeVs (ts ++ [t]) = timeVs ts ++ [.int .i64 t, .int .i64 0] := by simp [timeVs]
theorem timeVs_at (ts : List Int) (j : Nat) (t : Int) (h : ts[j]? = some t) : (timeVs ts)[j * 2]? = some (.int .i64 t) ∧ (timeVs ts)[j * 2 + 1]? = some (.int .i64 0) := by
  induction ts generalizing j with
  | nil => simp at h
  | cons a l ih =>
    have e : timeVs (a :: l) = .int .i64 a :: .int .i64 0 :: timeVs l := rfl
    cases j with
    | zero => simp at h; subst h; exact ⟨rfl, rfl⟩
    | succ j =>
      have := ih j (by simpa using h)
      rw [e, show (j + 1) * 2 = j * 2 + 1 + 1 by omega]
      simpa using this
def TimesAt (w : World) (g : Nat) (ts : List Int) : Prop := ∀ (j : Nat) (t : Int), ts[j]? = some t → w.cell? ⟨g, j * 2, none⟩ = some (.int .i64 t) ∧ w.cell? ⟨g, j * 2 + 1, none⟩ = some (.int .i64 0)
theorem TimesAt.of_own {w : World} {base g cap n : Nat} {e : TypeId} {ts : List Int} (h : w.ownsRow base e 2 (.slice (some ⟨g, 0, none⟩) n cap) n (timeVs ts)) : TimesAt w g ts := fun j t ht => by
  obtain ⟨h1, h2⟩ := timeVs_at ts j t ht
  have a := h.cells (g := g) rfl _ _ h1
  have b := h.cells (g := g) rfl _ _ h2
  rw [add_plain] at a b
  exact ⟨a, b⟩
theorem TimesAt.below {w w' : World} {g B : Nat} {ts : List Int} (h : TimesAt w g ts) (hb : Below B w w') (hg : g < B) : TimesAt w' g ts := fun j t ht => ⟨(hb.cell hg).trans (h j t ht).1, (hb.cell hg).trans (h j t ht).2⟩
/-- New moments in a row, and no error. -/
def GivesTimes (ts : List Int) (w : World) (e : Ending) (w' : World) : Prop :=
  ∃ g cap, e = .returned (.tuple #[.slice (some ⟨g, 0, none⟩) ts.length cap, .nilIface]) ∧ ts.length ≤ cap ∧ TimesAt w' g ts ∧ w.heap.size ≤ g ∧ g < w'.heap.size ∧ Below w.heap.size w w'
/-- No moments, and an error. -/
def GivesNoTimes (w : World) (e : Ending) (w' : World) : Prop := (∃ p, e = .returned (.tuple #[.slice none 0 0, .iface 175 (.pointer (some p))])) ∧ Below w.heap.size w w'
theorem info109 : (Tryz.prog.info? 109).map (fun i => (i.zero, i.size, i.bytes)) = some (some (.agg #[.int .i64 0, .int .i64 0]), 2, 16) := by kernel_rfl
theorem own_below {w w1 : World} {base : Nat} {e : TypeId} {size n : Nat} {v : Value} {xs : List Value} (h : w.ownsRow base e size v n xs) (hb : Below w.heap.size w w1) : w1.ownsRow base e size v n xs :=
  h.kept (row := none) ⟨hb.os, hb.tape, hb.output, hb.size, fun i hi _ => hb.block i hi⟩ (by cases v.ownBlock <;> simp)
/-- 'app_own' where the box's number is written otherwise. -/
theorem app_own' {P : Program} {ops : Array Oper} {rest : List Oper} {o : Oper} {a : Act} {Q : Exit → Act → World → Prop} {W : World} (nb : Nat) (hnb : nb = W.heap.size) (base : Nat) (hgd : o.guard = none) (s x : Operand) (t e : TypeId) (z : Value) (size bytes : Nat)
    (ho : o.op = .call { callee := .builtin .append, args := #[s, x], argTypes := #[t, t] })
    (ht : P.underlying t = some (.slice e)) (hinfo : (P.info? e).map (fun i => (i.zero, i.size, i.bytes)) = some (some z, size, bytes)) (hz : z.cells.size = size) (hsz : 0 < size) (hb0 : 0 < bytes)
    (v : Value) (n : Nat) (xs : List Value) (ys : List Value) (hs : a.eval s = v) (hx : a.eval x = .slice (some ⟨nb, 0, none⟩) 1 1) (hys : ys.length = size) (h1 : ∀ u ∈ ys, u.oneCell' = true)
    (HO : W.ownsRow base e size v n xs) (hbase : base ≤ W.heap.size) (hl : (n + 1) * bytes ≤ 140737488355328)
    (h : ∀ g cap w1, w1.ownsRow base e size (.slice (some ⟨g, 0, none⟩) (n + 1) cap) (n + 1) (xs ++ ys) → base ≤ g → g < w1.heap.size → n + 1 ≤ cap → W.grownBy w1 v.ownBlock → (some g = v.ownBlock ∨ W.heap.size ≤ g) → wpList P ops Q rest (a.put o.dst (.slice (some ⟨g, 0, none⟩) (n + 1) cap)) w1) :
    wpList P ops Q (o :: rest) a (W.alloc (.cells ys.toArray e)) := by
  subst hnb
  exact app_own base hgd s x t e z size bytes ho ht hinfo hz hsz hb0 v n xs ys hs hx hys h1 HO hbase hl h
end Go.Proofs.YtnlpjncljbaapaaGreatDoor

namespace Go.Proofs.YtnlpjncljbaapaaGreatDoor
open Go.RowKit

theorem idx_app {c : UInt8} {a b : List UInt8} (h : c ∉ a) : idx c (a ++ c :: b) = a.length := by
  induction a with
  | nil => simp [idx]
  | cons x l ih =>
    simp only [List.mem_cons, not_or] at h
    show (if x = c then 0 else idx c (l ++ c :: b) + 1) = _
    rw [if_neg (fun e => h.1 e.symm), ih h.2]
    rfl
theorem splitL_app {c : UInt8} {a b : List UInt8} (h : c ∉ a) : splitL c (a ++ c :: b) = a :: splitL c b := by
  rw [splitL, dif_pos (by rw [idx_app h]; simp), idx_app h]
  simp
/-- The options of a rule; its lists of numbers by the cell in which each lies. -/
structure Opt where
  freq : Int := 0
  interval : Int := 0
  wk : Int := 0
  count : Int := 0
  till : Int := 0
  days : List (Int × Int) := []
  l : Nat → List Int := fun _ => []
/-- A part of a rule's text. -/
inductive Part where
  | freq (i : Int)
  | till (t : Int)
  | count (n : Int)
  | interval (n : Int)
  | wkst (d : Int)
  | days (l : List (Int × Int))
  | i17 (l : List Int)
  | i16 (l : List Int)
  | i15 (l : List Int)
  | i11 (l : List Int)
  | i12 (l : List Int)
  | i13 (l : List Int)
  | i10 (l : List Int)
  | i9 (l : List Int)
  | i18 (l : List Int)
def Part.name : Part → List UInt8
  | .freq _ => [70, 82, 69, 81]
  | .till _ => [85, 78, 84, 73, 76]
  | .count _ => [67, 79, 85, 78, 84]
  | .interval _ => [73, 78, 84, 69, 82, 86, 65, 76]
  | .wkst _ => [87, 75, 83, 84]
  | .days _ => [66, 89, 68, 65, 89]
  | .i17 _ => [66, 89, 83, 69, 67, 79, 78, 68]
  | .i16 _ => [66, 89, 77, 73, 78, 85, 84, 69]
  | .i15 _ => [66, 89, 72, 79, 85, 82]
  | .i11 _ => [66, 89, 77, 79, 78, 84, 72, 68, 65, 89]
  | .i12 _ => [66, 89, 89, 69, 65, 82, 68, 65, 89]
  | .i13 _ => [66, 89, 87, 69, 69, 75, 78, 79]
  | .i10 _ => [66, 89, 77, 79, 78, 84, 72]
  | .i9 _ => [66, 89, 83, 69, 84, 80, 79, 83]
  | .i18 _ => [66, 89, 69, 65, 83, 84, 69, 82]
def Opt.putL (o : Opt) (k : Nat) (l : List Int) : Opt := { o with l := fun j => if j = k then l else o.l j }
def Part.put (o : Opt) : Part → Opt
  | .freq i => { o with freq := i }
  | .till t => { o with till := t }
  | .count n => { o with count := n }
  | .interval n => { o with interval := n }
  | .wkst d => { o with wk := d }
  | .days l => { o with days := l }
  | .i17 l => o.putL 17 l
  | .i16 l => o.putL 16 l
  | .i15 l => o.putL 15 l
  | .i11 l => o.putL 11 l
  | .i12 l => o.putL 12 l
  | .i13 l => o.putL 13 l
  | .i10 l => o.putL 10 l
  | .i9 l => o.putL 9 l
  | .i18 l => o.putL 18 l
theorem Part.name_eq (p : Part) : (61 : UInt8) ∉ p.name := by cases p <;> simp [Part.name]
theorem Part.name_len (p : Part) : p.name.length ≤ 10 := by cases p <;> simp [Part.name]
/-- A value says a part. -/
def Part.val (v : List UInt8) : Part → Prop
  | .freq i => lookL ⟨v.toArray⟩ freqKV = some (.int .i64 i)
  | .till t => v = dateL t ∧ 0 ≤ t ∧ t < 315537897600
  | .count n => v.length ≤ 18 ∧ Lib.atoi v = some n
  | .interval n => v.length ≤ 18 ∧ Lib.atoi v = some n
  | .wkst d => isDay v d 0
  | .days l => v.length ≤ 100000 ∧ areDays (splitL 44 v) l
  | .i17 l => v.length ≤ 100000 ∧ areInts (splitL 44 v) l
  | .i16 l => v.length ≤ 100000 ∧ areInts (splitL 44 v) l
  | .i15 l => v.length ≤ 100000 ∧ areInts (splitL 44 v) l
  | .i11 l => v.length ≤ 100000 ∧ areInts (splitL 44 v) l
  | .i12 l => v.length ≤ 100000 ∧ areInts (splitL 44 v) l
  | .i13 l => v.length ≤ 100000 ∧ areInts (splitL 44 v) l
  | .i10 l => v.length ≤ 100000 ∧ areInts (splitL 44 v) l
  | .i9 l => v.length ≤ 100000 ∧ areInts (splitL 44 v) l
  | .i18 l => v.length ≤ 100000 ∧ areInts (splitL 44 v) l
/-- A piece of the text says a part. -/
def Part.says (a : List UInt8) (p : Part) : Prop := ∃ v : List UInt8, a = p.name ++ 61 :: v ∧ v ≠ [] ∧ (61 : UInt8) ∉ v ∧ v.length ≤ 1000000 ∧ p.val v
def optCell (o : Opt) (sl : Nat → Value) : Nat → Value
  | 0 => .int .i64 o.freq
  | 1 => .int .i64 0
  | 2 => .int .i64 0
  | 3 => .int .i64 o.interval
  | 4 => .int .i64 o.wk
  | 5 => .int .i64 0
  | 6 => .int .i64 o.count
  | 7 => .int .i64 o.till
  | 8 => .int .i64 0
  | k => sl k
/-- A row above a block holds numbers; it holds days. -/
def HoldsI (w : World) (G : Nat) (v : Value) (l : List Int) : Prop := (v = .slice none 0 0 ∧ l = []) ∨ ∃ g, v = .slice (some ⟨g, 0, none⟩) l.length l.length ∧ IntsAt w g l ∧ G < g ∧ g < w.heap.size
def HoldsD (w : World) (G : Nat) (v : Value) (l : List (Int × Int)) : Prop := (v = .slice none 0 0 ∧ l = []) ∨ ∃ g, v = .slice (some ⟨g, 0, none⟩) l.length l.length ∧ DaysAt w g l ∧ G < g ∧ g < w.heap.size
structure OptAt (w : World) (G : Nat) (o : Opt) (sl : Nat → Value) : Prop where
  row : w.rowIs G 122 19 (optCell o sl)
  ints : ∀ k, k ≠ 14 → HoldsI w G (sl k) (o.l k)
  day : HoldsD w G (sl 14) o.days
theorem DaysAt.below {w w' : World} {g B : Nat} {xs : List (Int × Int)} (h : DaysAt w g xs) (hb : Below B w w') (hg : g < B) : DaysAt w' g xs := fun j k n hx => ⟨(hb.cell hg).trans (h j k n hx).1, (hb.cell hg).trans (h j k n hx).2⟩
theorem HoldsI.below {w w' : World} {G : Nat} {v : Value} {l : List Int} (h : HoldsI w G v l) (hb : Below w.heap.size w w') : HoldsI w' G v l := by
  rcases h with h | ⟨g, h1, h2, h3, h4⟩
  · exact .inl h
  · exact .inr ⟨g, h1, h2.below hb h4, h3, Nat.lt_of_lt_of_le h4 hb.size⟩
theorem HoldsD.below {w w' : World} {G : Nat} {v : Value} {l : List (Int × Int)} (h : HoldsD w G v l) (hb : Below w.heap.size w w') : HoldsD w' G v l := by
  rcases h with h | ⟨g, h1, h2, h3, h4⟩
  · exact .inl h
  · exact .inr ⟨g, h1, h2.below hb h4, h3, Nat.lt_of_lt_of_le h4 hb.size⟩
theorem HoldsI.set {w : World} {G i : Nat} {u v : Value} {l : List Int} (h : HoldsI w G v l) : HoldsI (w.setCell ⟨G, i, none⟩ u) G v l := by
  rcases h with h | ⟨g, h1, h2, h3, h4⟩
  · exact .inl h
  · exact .inr ⟨g, h1, h2.keep fun j => World.cell?_setCell_other _ _ _ _ (by simp <;> omega), h3, by simpa using h4⟩
theorem HoldsD.set {w : World} {G i : Nat} {u v : Value} {l : List (Int × Int)} (h : HoldsD w G v l) : HoldsD (w.setCell ⟨G, i, none⟩ u) G v l := by
  rcases h with h | ⟨g, h1, h2, h3, h4⟩
  · exact .inl h
  · exact .inr ⟨g, h1, fun j k n hx => ⟨(World.cell?_setCell_other _ _ _ _ (by simp <;> omega)).trans (h2 j k n hx).1, (World.cell?_setCell_other _ _ _ _ (by simp <;> omega)).trans (h2 j k n hx).2⟩, h3, by simpa using h4⟩
theorem OptAt.below {w w' : World} {G : Nat} {o : Opt} {sl : Nat → Value} (h : OptAt w G o sl) (hb : Below w.heap.size w w') : OptAt w' G o sl :=
  ⟨below_row h.row hb h.row.lt, fun k hk => (h.ints k hk).below hb, h.day.below hb⟩
/-- A cell of the options is stored. -/
theorem OptAt.set1 {w : World} {G : Nat} {o o' : Opt} {sl : Nat → Value} (h : OptAt w G o sl) (i : Nat) (v : Value)
    (hc : ∀ j, optCell o' sl j = if j = i then v else optCell o sl j) (hl : o'.l = o.l) (hd : o'.days = o.days) : OptAt (w.setCell ⟨G, i, none⟩ v) G o' sl :=
  ⟨(h.row.set i v).congr fun j _ => (hc j).symm, fun k hk => by rw [hl]; exact (h.ints k hk).set, by rw [hd]; exact h.day.set⟩
theorem OptAt.set2 {w : World} {G : Nat} {o o' : Opt} {sl : Nat → Value} (h : OptAt w G o sl) (i : Nat) (u v : Value)
    (hc : ∀ j, optCell o' sl j = if j = i + 1 then v else if j = i then u else optCell o sl j) (hl : o'.l = o.l) (hd : o'.days = o.days) : OptAt ((w.setCell ⟨G, i, none⟩ u).setCell ⟨G, i + 1, none⟩ v) G o' sl :=
  ⟨((h.row.set i u).set (i + 1) v).congr fun j _ => (hc j).symm, fun k hk => by rw [hl]; exact (h.ints k hk).set.set, by rw [hd]; exact h.day.set.set⟩
theorem OptAt.setL {w : World} {G : Nat} {o : Opt} {sl : Nat → Value} (h : OptAt w G o sl) (i g : Nat) (l : List Int) (hi : 9 ≤ i) (hi2 : i ≠ 14) (hA : IntsAt w g l) (hg : G < g) (hg2 : g < w.heap.size) :
    OptAt (w.setCell ⟨G, i, none⟩ (.slice (some ⟨g, 0, none⟩) l.length l.length)) G (o.putL i l) (fun j => if j = i then .slice (some ⟨g, 0, none⟩) l.length l.length else sl j) := by
  refine ⟨(h.row.set i _).congr fun j _ => ?_, fun k hk => ?_, ?_⟩
  · by_cases hj : j = i
    · subst hj
      rw [if_pos rfl]
      match j, hi with
      | j + 9, _ => simp [optCell]
    · rw [if_neg hj]
      match j with
      | 0 | 1 | 2 | 3 | 4 | 5 | 6 | 7 | 8 => rfl
      | j + 9 => have hj2 : j + 9 ≠ i := hj; simp [optCell, hj2]
  · by_cases hk2 : k = i
    · subst hk2
      simp only [Opt.putL, if_pos]
      exact .inr ⟨g, rfl, hA.keep fun j => World.cell?_setCell_other _ _ _ _ (by simp <;> omega), hg, by simpa using hg2⟩
    · simp only [Opt.putL, if_neg hk2]
      exact (h.ints k hk).set
  · simp only [if_neg (Ne.symm hi2)]
    exact h.day.set
theorem OptAt.setD {w : World} {G : Nat} {o : Opt} {sl : Nat → Value} (h : OptAt w G o sl) (g : Nat) (l : List (Int × Int)) (hA : DaysAt w g l) (hg : G < g) (hg2 : g < w.heap.size) :
    OptAt (w.setCell ⟨G, 14, none⟩ (.slice (some ⟨g, 0, none⟩) l.length l.length)) G { o with days := l } (fun j => if j = 14 then .slice (some ⟨g, 0, none⟩) l.length l.length else sl j) := by
  refine ⟨(h.row.set 14 _).congr fun j _ => ?_, fun k hk => ?_, ?_⟩
  · by_cases hj : j = 14
    · subst hj
      simp [optCell]
    · rw [if_neg hj]
      match j with
      | 0 | 1 | 2 | 3 | 4 | 5 | 6 | 7 | 8 => rfl
      | j + 9 =>
        have hj2 : j ≠ 5 := by omega
        simp [optCell, hj2]
  · simp only [if_neg hk]
    exact (h.ints k hk).set
  · simp only [if_pos]
    exact .inr ⟨g, rfl, fun j k n hx => ⟨(World.cell?_setCell_other _ _ _ _ (by simp <;> omega)).trans (hA j k n hx).1, (World.cell?_setCell_other _ _ _ _ (by simp <;> omega)).trans (hA j k n hx).2⟩, hg, by simpa using hg2⟩
/-- New options behind a pointer, and no error; no options, and an error. -/
def GivesOpt (o : Opt) (w : World) (e : Ending) (w' : World) : Prop :=
  ∃ G sl, e = .returned (.tuple #[.pointer (some ⟨G, 0, none⟩), .nilIface]) ∧ OptAt w' G o sl ∧ w.heap.size ≤ G ∧ Below w.heap.size w w'
def putAll (ps : List Part) : Opt := ps.foldl (fun o p => p.put o) {}
end Go.Proofs.YtnlpjncljbaapaaGreatDoor
