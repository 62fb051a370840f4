/- The name ahead of a line, walked. -/
import Derived.Test.YtnlpjncljbaapaaGreatDoorIx
import Derived.Test.YtnlpjncljbaapaaGreatDoorIn2
import Derived.Lib.Space
import Derived.Lib.Case
namespace Go.Proofs.YtnlpjncljbaapaaGreatDoor
open Go.RowKit

/-- A text of ASCII with no space at its ends. -/
def ascii (l : List UInt8) : Prop := ∀ b ∈ l, b.toNat < 128
structure Clean (l : List UInt8) : Prop where
  asc : ascii l
  head : ∀ b, l.head? = some b → Lib.isSp b = false
  last : ∀ b, l.getLast? = some b → Lib.isSp b = false
theorem dropWhile_id {α : Type} (p : α → Bool) (l : List α) (h : ∀ b, l.head? = some b → p b = false) : l.dropWhile p = l := by
  cases l with
  | nil => rfl
  | cons a l => simp [h a rfl]
theorem Clean.trim {l : List UInt8} (h : Clean l) : Lib.trimSpace l = l := by
  unfold Lib.trimSpace
  rw [dropWhile_id _ _ h.head, dropWhile_id _ _ (fun b hb => h.last b (by simpa [List.head?_reverse] using hb)), List.reverse_reverse]
theorem ascii_at {l : List UInt8} (h : ascii l) : ∀ (j : Nat) b, (⟨l.toArray⟩ : ByteArray).data.toList[j]? = some b → b.toNat < 128 := fun j b hb => h b (List.mem_of_getElem? (by simpa using hb))

theorem trim_any (l : List UInt8) (w : World) (hG : Glob w) (hl : Clean l) (hs : l.length ≤ 1000000) :
    Calls Tryz.prog 66 #[.string ⟨l.toArray⟩] w fun e w' => e = .returned (.string ⟨l.toArray⟩) ∧ Below w.heap.size w w' := by
  refine (Tryz.strings_TrimSpace ⟨l.toArray⟩ w (by rw [Lib.size_eq]; simp; omega) (ascii_at hl.asc) hG.spc).mono fun e w' ⟨he, hw⟩ => ⟨?_, by rw [hw]; exact Lib.bytesWorld_below _ _ _⟩
  rw [he]
  simp [hl.trim]
theorem upper_any (l : List UInt8) (w : World) (hl : ascii l) (hs : l.length ≤ 1000000) :
    Calls Tryz.prog 149 #[.string ⟨l.toArray⟩] w fun e w' => e = .returned (.string ⟨(Lib.toUpperA l).toArray⟩) ∧ Below w.heap.size w w' := by
  have h := Tryz.strings_ToUpper_ascii ⟨l.toArray⟩ w (by rw [Lib.size_eq]; simp; omega) (ascii_at hl)
  simpa using h

theorem getElem_of (l : List UInt8) (k : Nat) (_h : k < (⟨l.toArray⟩ : ByteArray).size) (h2 : k < l.length) : (⟨l.toArray⟩ : ByteArray)[k] = l[k] := rfl
theorem byte_mem (s : ByteArray) (k : Nat) (h : k < s.size) : s[k] ∈ s.data.toList := Array.mem_toList_iff.2 (Array.getElem_mem h)

theorem nonempty_of {u : ByteArray} (h : 0 < u.size) : u.toList.isEmpty = false := by
  rw [Lib.toList_data]
  rw [Lib.size_eq] at h
  cases hu : u.data.toList with
  | nil => rw [hu] at h; simp at h
  | cons a l => rfl
theorem nonempty_of' {u : ByteArray} (h : 0 < u.size) : (u.toList == []) = false := by
  rw [Lib.toList_data]
  rw [Lib.size_eq] at h
  cases hu : u.data.toList with
  | nil => rw [hu] at h; simp at h
  | cons a l => rfl
/-- A name that a line may begin with. -/
structure Name (l : List UInt8) : Prop where
  up : Lib.toUpperA l = l
  no : ∀ b ∈ l, b.toNat < 128 ∧ b ≠ 59 ∧ b ≠ 58 ∧ b ≠ 61
  ne : l ≠ []

/-- A text and no error. -/
def GivesStr (l : List UInt8) (w : World) (e : Ending) (w' : World) : Prop := e = .returned (.tuple #[.string ⟨l.toArray⟩, .nilIface]) ∧ Below w.heap.size w w'

set_option maxRecDepth 100000 in
set_option maxHeartbeats 2000000 in
theorem name_ok (name rest : List UInt8) (w : World) (hG : Glob w) (hn : Name name) (hc : Clean (name ++ 58 :: rest)) (hs : (name ++ 58 :: rest).length ≤ 1000000) :
    Calls Tryz.prog 96 #[.string ⟨(name ++ 58 :: rest).toArray⟩] w fun e w' => GivesStr name w e w' := by
  have T1 := Lib.hid (trim_any _ w hG hc hs)
  have T2 := Lib.hid fun W : World => upper_any _ W hc.asc hs
  have hU : Lib.toUpperA (name ++ 58 :: rest) = name ++ 58 :: Lib.toUpperA rest := by
    have := hn.up
    unfold Lib.toUpperA at this ⊢
    rw [List.map_append, this]
    rfl
  obtain ⟨u, hu⟩ : ∃ u : ByteArray, u = ⟨(Lib.toUpperA (name ++ 58 :: rest)).toArray⟩ := ⟨_, rfl⟩
  have hsz : u.size = name.length + 1 + rest.length := by
    rw [hu, hU, Lib.size_eq]
    simp [Lib.toUpperA]
    omega
  have h0 : u.extract 0 name.length = ⟨name.toArray⟩ := by
    rw [Lib.extract_upto, hu, hU]
    simp
  have hl1 : 1 ≤ name.length := by
    have := hn.ne
    cases hname : name with
    | nil => exact absurd hname this
    | cons a l => simp
  have Z1 := Lib.hid fun W : World => zzIndexAny_sc u name.length (by omega) (by subst hu; simp only [hU]; rw [getElem_of _ _ (by rw [Lib.size_eq]; simp) (by simp)]; simp) W (fun k hk hkn => by
    have hm : u[k] ∈ name := by
      subst hu
      simp only [hU]
      rw [getElem_of _ _ (by rw [Lib.size_eq]; simp; omega) (by simp; omega), List.getElem_append_left (by omega)]
      exact List.getElem_mem _
    have := hn.no _ hm
    exact ⟨this.1, this.2.1, this.2.2.1⟩)
  have Z2 := Lib.hid fun W : World => zzIndexAny_eq_none ⟨name.toArray⟩ W (fun k hk _ => by
    have := hn.no _ (by simpa using byte_mem ⟨name.toArray⟩ k hk)
    exact ⟨this.1, this.2.2.2⟩)
  have hlt : name.length < u.size := by omega
  have he : u.toList.isEmpty = false := nonempty_of (by omega)
  have he2 : (u.toList == []) = false := nonempty_of' (by omega)
  have HU := Lib.hid hu
  rw [← hu] at T2
  clear hu hU hn hc hG hs hsz
  generalize name.length = n at *
  generalize hnm : (⟨name.toArray⟩ : ByteArray) = nm at *
  have HN := Lib.hid hnm
  clear hnm
  generalize (⟨(name ++ 58 :: rest).toArray⟩ : ByteArray) = L at *
  clear HU
  go_enter Tryz.func96, Tryz.ntmps96
  go_wp2_with fail
  refine T1.out.mono ?_; rintro e w1 ⟨rfl, hb1⟩
  go_wp2_with fail
  refine (T2.out _).mono ?_; rintro e w2 ⟨rfl, hb2⟩
  go_wp2_with fail
  refine (Z1.out _).mono ?_; rintro e w3 ⟨rfl, hb3⟩
  go_wp2_with fail
  refine (Z2.out _).mono ?_; rintro e w4 ⟨rfl, hb4⟩
  go_wp2_with fail
  go_ret2
  exact ⟨by rw [HN.out]; rfl, hb1.trans ((hb2.mono hb1.size).trans ((hb3.mono (Nat.le_trans hb1.size hb2.size)).trans (hb4.mono (Nat.le_trans hb1.size (Nat.le_trans hb2.size hb3.size)))))⟩

/-- An empty text and an error. -/
def GivesNoStr (w : World) (e : Ending) (w' : World) : Prop := (∃ p, e = .returned (.tuple #[.string ⟨#[]⟩, .iface 175 (.pointer (some p))])) ∧ Below w.heap.size w w'
set_option maxRecDepth 100000 in
set_option maxHeartbeats 2000000 in
theorem name_none (l : List UInt8) (w : World) (hG : Glob w) (hn : Name l) (hc : Clean l) (hs : l.length ≤ 1000000) :
    Calls Tryz.prog 96 #[.string ⟨l.toArray⟩] w fun e w' => GivesNoStr w e w' := by
  have T1 := Lib.hid (trim_any _ w hG hc hs)
  have T2 := Lib.hid fun W : World => upper_any _ W hc.asc hs
  rw [hn.up] at T2
  have Z1 := Lib.hid fun W : World => zzIndexAny_sc_none ⟨l.toArray⟩ W (fun k hk _ => by
    have := hn.no _ (by simpa using byte_mem ⟨l.toArray⟩ k hk)
    exact ⟨this.1, this.2.1, this.2.2.1⟩)
  have hl1 : 0 < (⟨l.toArray⟩ : ByteArray).size := by
    rw [Lib.size_eq]
    have := hn.ne
    cases hname : l with
    | nil => exact absurd hname this
    | cons a l => simp
  have he := nonempty_of hl1
  have he2 := nonempty_of' hl1
  clear hn hc hG hs
  generalize (⟨l.toArray⟩ : ByteArray) = L at *
  go_enter Tryz.func96, Tryz.ntmps96
  go_wp2_with fail
  refine T1.out.mono ?_; rintro e w1 ⟨rfl, hb1⟩
  go_wp2_with fail
  refine (T2.out _).mono ?_; rintro e w2 ⟨rfl, hb2⟩
  go_wp2_with fail
  refine (Z1.out _).mono ?_; rintro e w3 ⟨rfl, hb3⟩
  go_wp2_with fail
  refine (errNew_any _ _).mono ?_; rintro e w4 ⟨rfl, rfl⟩
  go_wp2_with fail
  go_ret2
  have hb : Below w.heap.size w w3 := hb1.trans ((hb2.mono hb1.size).trans (hb3.mono (Nat.le_trans hb1.size hb2.size)))
  exact ⟨⟨_, rfl⟩, hb.alloc hb.size _⟩
end Go.Proofs.YtnlpjncljbaapaaGreatDoor
