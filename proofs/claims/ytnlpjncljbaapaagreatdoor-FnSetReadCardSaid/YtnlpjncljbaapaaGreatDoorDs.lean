/- StrToDatesInLoc, walked. -/
import Derived.Test.YtnlpjncljbaapaaGreatDoorDt
namespace Go.Proofs.YtnlpjncljbaapaaGreatDoor
open Go.RowKit

/-- Moments in a row of memory. -/
def timeVs (ts : List Int) : List Value := ts.flatMap fun t => [.int .i64 t, .int .i64 0]
theorem timeVs_snoc (ts : List Int) (t : Int) : timeVs (ts ++ [t]) = timeVs ts ++ [.int .i64 t, .int .i64 0] := by simp [timeVs]
theorem timeVs_len (ts : List Int) : (timeVs ts).length = ts.length * 2 := by
  induction ts with
  | nil => rfl
  | cons a l ih =>
    have e : timeVs (a :: l) = .int .i64 a :: .int .i64 0 :: timeVs l := rfl
    rw [e, List.length_cons, List.length_cons, ih, List.length_cons]
    omega
theorem timeVs_at (ts : List Int) (j : Nat) (t : Int) (h : ts[j]? = some t) : (timeVs ts)[j * 2]? = some (.int .i64 t) ∧ (timeVs ts)[j * 2 + 1]? = some (.int .i64 0) := by
  induction ts generalizing j with
  | nil => simp at h
  | cons a l ih =>
    have e : timeVs (a :: l) = .int .i64 a :: .int .i64 0 :: timeVs l := rfl
    cases j with
    | zero => simp at h; subst h; exact ⟨rfl, rfl⟩
    | succ j =>
      have := ih j (by simpa using h)
      rw [e, show (j + 1) * 2 = j * 2 + 1 + 1 by omega]
      simpa using this
def TimesAt (w : World) (g : Nat) (ts : List Int) : Prop := ∀ (j : Nat) (t : Int), ts[j]? = some t → w.cell? ⟨g, j * 2, none⟩ = some (.int .i64 t) ∧ w.cell? ⟨g, j * 2 + 1, none⟩ = some (.int .i64 0)
theorem TimesAt.of_own {w : World} {base g cap n : Nat} {e : TypeId} {ts : List Int} (h : w.ownsRow base e 2 (.slice (some ⟨g, 0, none⟩) n cap) n (timeVs ts)) : TimesAt w g ts := fun j t ht => by
  obtain ⟨h1, h2⟩ := timeVs_at ts j t ht
  have a := h.cells (g := g) rfl _ _ h1
  have b := h.cells (g := g) rfl _ _ h2
  rw [add_plain] at a b
  exact ⟨a, b⟩
theorem TimesAt.below {w w' : World} {g B : Nat} {ts : List Int} (h : TimesAt w g ts) (hb : Below B w w') (hg : g < B) : TimesAt w' g ts := fun j t ht => ⟨(hb.cell hg).trans (h j t ht).1, (hb.cell hg).trans (h j t ht).2⟩
/-- New moments in a row, and no error. -/
def GivesTimes (ts : List Int) (w : World) (e : Ending) (w' : World) : Prop :=
  ∃ g cap, e = .returned (.tuple #[.slice (some ⟨g, 0, none⟩) ts.length cap, .nilIface]) ∧ ts.length ≤ cap ∧ TimesAt w' g ts ∧ w.heap.size ≤ g ∧ g < w'.heap.size ∧ Below w.heap.size w w'
/-- No moments, and an error. -/
def GivesNoTimes (w : World) (e : Ending) (w' : World) : Prop := (∃ p, e = .returned (.tuple #[.slice none 0 0, .iface 175 (.pointer (some p))])) ∧ Below w.heap.size w w'
theorem info109 : (Tryz.prog.info? 109).map (fun i => (i.zero, i.size, i.bytes)) = some (some (.agg #[.int .i64 0, .int .i64 0]), 2, 16) := by kernel_rfl
theorem own_below {w w1 : World} {base : Nat} {e : TypeId} {size n : Nat} {v : Value} {xs : List Value} (h : w.ownsRow base e size v n xs) (hb : Below w.heap.size w w1) : w1.ownsRow base e size v n xs :=
  h.kept (row := none) ⟨hb.os, hb.tape, hb.output, hb.size, fun i hi _ => hb.block i hi⟩ (by cases v.ownBlock <;> simp)
/-- 'app_own' where the box's number is written otherwise. -/
theorem app_own' {P : Program} {ops : Array Oper} {rest : List Oper} {o : Oper} {a : Act} {Q : Exit → Act → World → Prop} {W : World} (nb : Nat) (hnb : nb = W.heap.size) (base : Nat) (hgd : o.guard = none) (s x : Operand) (t e : TypeId) (z : Value) (size bytes : Nat)
    (ho : o.op = .call { callee := .builtin .append, args := #[s, x], argTypes := #[t, t] })
    (ht : P.underlying t = some (.slice e)) (hinfo : (P.info? e).map (fun i => (i.zero, i.size, i.bytes)) = some (some z, size, bytes)) (hz : z.cells.size = size) (hsz : 0 < size) (hb0 : 0 < bytes)
    (v : Value) (n : Nat) (xs : List Value) (ys : List Value) (hs : a.eval s = v) (hx : a.eval x = .slice (some ⟨nb, 0, none⟩) 1 1) (hys : ys.length = size) (h1 : ∀ u ∈ ys, u.oneCell' = true)
    (HO : W.ownsRow base e size v n xs) (hbase : base ≤ W.heap.size) (hl : (n + 1) * bytes ≤ 140737488355328)
    (h : ∀ g cap w1, w1.ownsRow base e size (.slice (some ⟨g, 0, none⟩) (n + 1) cap) (n + 1) (xs ++ ys) → base ≤ g → g < w1.heap.size → n + 1 ≤ cap → W.grownBy w1 v.ownBlock → (some g = v.ownBlock ∨ W.heap.size ≤ g) → wpList P ops Q rest (a.put o.dst (.slice (some ⟨g, 0, none⟩) (n + 1) cap)) w1) :
    wpList P ops Q (o :: rest) a (W.alloc (.cells ys.toArray e)) := by
  subst hnb
  exact app_own base hgd s x t e z size bytes ho ht hinfo hz hsz hb0 v n xs ys hs hx hys h1 HO hbase hl h
def inTime (ts : List Int) : Prop := ∀ t ∈ ts, 0 ≤ t ∧ t < 315537897600

set_option maxRecDepth 100000 in
set_option maxHeartbeats 4000000 in
theorem dates_ok (l : List UInt8) (ts : List Int) (w : World) (hl : l.length ≤ 1000000) (h58 : (58 : UInt8) ∉ l) (hr : inTime ts) (hsp : splitL 44 l = ts.map dateL) :
    Calls Tryz.prog 99 #[.string ⟨l.toArray⟩, .agg #[]] w fun e w' => GivesTimes ts w e w' := by
  have S := fun W : World => zzSplit_any ⟨l.toArray⟩ 58 W (by rw [Lib.size_eq]; simp; omega)
  rw [show splitL 58 (⟨l.toArray⟩ : ByteArray).data.toList = [l] from splitL_one h58] at S
  have HS := Lib.hid S
  have HS2 := Lib.hid fun W : World => zzSplit_any ⟨l.toArray⟩ 44 W (by rw [Lib.size_eq]; simp; omega)
  obtain ⟨sl1, sl2⟩ := splitL_len 44 l
  have hlen : ts.length = (splitL 44 l).length := by rw [hsp]; simp
  have HD := Lib.hid fun (k : Nat) (t : Int) (hk : ts[k]? = some t) (W : World) => strToTime_date t W (hr t (List.mem_of_getElem? hk)).1 (hr t (List.mem_of_getElem? hk)).2
  have HP := Lib.hid fun (k : Nat) (t : Int) (hk : ts[k]? = some t) => (by rw [hsp]; rw [List.getElem?_map, hk]; rfl : (splitL 44 l)[k]? = some (dateL t))
  have el : (⟨l.toArray⟩ : ByteArray).data.toList = l := rfl
  rw [el] at HS2
  clear S h58 hr hsp el
  generalize splitL 44 l = ps at *
  obtain ⟨n, hn⟩ : ∃ n, n = ps.length := ⟨_, rfl⟩
  have Hn := Lib.hid hn
  have hn2 : n ≤ 1000001 := by omega
  have hn1 := Lib.hid (by omega : 1 ≤ n)
  have hN : ts.length = n := by omega
  have HNN := Lib.hid hN
  clear hn sl1 sl2 hlen hN
  go_enter Tryz.func99, Tryz.ntmps99
  go_wp2_with fail
  refine (HS.out _).mono ?_; rintro e w1 ⟨g, cap, rfl, hcap, hst, hg1, hg2, hb⟩
  have hc : w1.cell? ⟨g, 0, none⟩ = some (.string ⟨l.toArray⟩) := hst 0 _ rfl
  have hb1 : Below w.heap.size w w1 := below_a1.trans (hb.mono (B' := w.heap.size) (by simp))
  have HB := Lib.hid hb1
  have hz1 := hb1.size
  clear hst hb hb1
  go_wp2_with fail
  refine (HS2.out _).mono ?_; rintro e w2 ⟨g2, cap2, rfl, hcap2, hst2, hg3, hg4, hb2⟩
  have hb3 : Below w.heap.size w w2 := (HB.out.alloc hz1 _).trans (hb2.mono (B' := w.heap.size) (by simp; omega))
  rw [← Hn.out] at hcap2 ⊢
  have HB3 := Lib.hid hb3
  have HT := Lib.hid hst2
  have hgz : w.heap.size ≤ g2 := by rw [World.size_alloc] at hg3; omega
  clear hst2 hb2 hb3 hc HB hg3 hg1 hg2
  go_wp2_with fail
  go_loopw [4, 5, 60] (fun u er v wr => ∃ k : Nat, k ≤ n ∧ v = .int .i64 k ∧ er = .nilIface ∧ Hid (k ≤ ts.length) ∧ StrsAt wr g2 ps ∧ wr.ownsRow w.heap.size 109 2 u k (timeVs (ts.take k)) ∧ Below w.heap.size w wr ∧ g2 < wr.heap.size ∧ Hid (u.ownBlock ≠ some g2)) (fun _ _ v _ => n - (intOf v).toNat)
  case atStart => exact ⟨0, Nat.zero_le _, rfl, rfl, Nat.zero_le _, HT.out, own_nil _ _ _ _, HB3.out, hg4, by show _ ≠ _; simp [Value.ownBlock]⟩
  case round =>
    clear HT HB3 hg4
    obtain ⟨k, hk, rfl, rfl, hkt, hst, hown, hb, hg4, hne⟩ := hrel
    have HT := Lib.hid hst
    clear hst
    by_cases hkn : k < n
    · by_cases hkt2 : k < ts.length
      · have hget : ts[k]? = some ts[k] := List.getElem?_eq_getElem hkt2
        have hc := HT.out k _ (HP.out k _ hget)
        have HDk := Lib.hid (HD.out k _ hget)
        have HK := Lib.hid hkt2
        generalize htk : ts[k] = t at *
        have HG := Lib.hid hget
        clear hget htk hkt2
        go_wp2_with fail
        refine (HDk.out _).mono ?_; rintro e w3 ⟨rfl, hb3⟩
        have hb4 := hb.trans (hb3.mono hb.size)
        have hown3 : w3.ownsRow w.heap.size 109 2 _ k (timeVs (ts.take k)) := own_below hown hb3
        have hz3 := hb4.size
        have hz4 := hb3.size
        have HT3 := Lib.hid (HT.out.below hb3 hg4)
        clear hc hown hb hb3
        go_wp2_with (at_builtin; refine app_own' (w3.heap.size + 1) (by simp) w.heap.size rfl _ _ 113 109 (.agg #[.int .i64 0, .int .i64 0]) 2 16 rfl Tryz.underlying113 info109 rfl (by decide) (by decide) _ _ _ [.int .i64 t, .int .i64 0] (by rfl) (by rfl) rfl (by simp [Value.oneCell']) (hown3.alloc _) (by simp; omega) (by omega) ?_)
        intro g5 cap5 w5 hown5 hg5 hg6 hcap5 hgrow hat
        have hb5 : Below w.heap.size w w5 := (hb4.alloc hz3 _).grown hgrow (by simp; omega) (own_base hown3)
        have hz5 : g2 < w5.heap.size := by have := hgrow.size; rw [World.size_alloc] at this; omega
        have HT5 : StrsAt w5 g2 ps := HT3.out.keep fun j => by
          rw [hgrow.cell_far ⟨g2, j, none⟩ (by simp; omega) (fun h => hne.out h.symm), World.cell?_alloc_lt _ _ _ (by simp; omega)]
        have hne5 : (Value.slice (some ⟨g5, 0, none⟩) (k + 1) cap5).ownBlock ≠ some g2 := by
          rcases hat with hat | hat
          · show some g5 ≠ _
            rw [hat]; exact hne.out
          · show some g5 ≠ _
            intro h; simp at h hat; omega
        clear hgrow hat hown3 hb4 HT HT3 hne
        have HN5 := Lib.hid hne5
        have HT6 := Lib.hid HT5
        clear HT5 hne5
        go_wp2_with fail
        go_roundw
        case rel =>
          have hk1 : k < ts.length := HK.out
          refine ⟨k + 1, by omega, by go_num, rfl, hk1, HT6.out, ?_, hb5, hz5, HN5⟩
          rw [← timeVs_snoc] at hown5
          have e : ts.take (k + 1) = ts.take k ++ [t] := by rw [List.take_add_one, HG.out]; rfl
          rw [e]
          simpa using hown5
        case measure => simp [intOf]; omega
      · exact absurd HNN.out (by have := hkt.out; omega)
    · have hkn' : k = n := by omega
      subst hkn'
      have HOWN := Lib.hid hown
      clear hown hkn
      go_wp2_with fail
      go_ret2
      have hkn2 := HNN.out
      have hk1 := hn1.out
      rw [← hkn2, List.take_length, hkn2] at HOWN
      rcases HOWN.out.2 with ⟨_, h0⟩ | ⟨g7, cap7, cur, rfl, hb7, hh, hcap7, _⟩
      · omega
      · have hlt : g7 < wr.heap.size := (Array.getElem?_eq_some_iff.1 hh).1
        exact ⟨g7, cap7, by rw [hkn2]; rfl, by omega, TimesAt.of_own HOWN.out, hb7, hlt, hb⟩

set_option maxRecDepth 100000 in
set_option maxHeartbeats 4000000 in
theorem dates_no (l : List UInt8) (ts : List Int) (p : List UInt8) (rest : List (List UInt8)) (w : World) (hl : l.length ≤ 1000000) (h58 : (58 : UInt8) ∉ l) (hr : inTime ts) (hp : noDate p) (hsp : splitL 44 l = ts.map dateL ++ p :: rest) :
    Calls Tryz.prog 99 #[.string ⟨l.toArray⟩, .agg #[]] w fun e w' => GivesNoTimes w e w' := by
  have S := fun W : World => zzSplit_any ⟨l.toArray⟩ 58 W (by rw [Lib.size_eq]; simp; omega)
  rw [show splitL 58 (⟨l.toArray⟩ : ByteArray).data.toList = [l] from splitL_one h58] at S
  have HS := Lib.hid S
  have HS2 := Lib.hid fun W : World => zzSplit_any ⟨l.toArray⟩ 44 W (by rw [Lib.size_eq]; simp; omega)
  obtain ⟨sl1, sl2⟩ := splitL_len 44 l
  have hlen : ts.length < (splitL 44 l).length := by rw [hsp]; simp
  have HD := Lib.hid fun (k : Nat) (t : Int) (hk : ts[k]? = some t) (W : World) => strToTime_date t W (hr t (List.mem_of_getElem? hk)).1 (hr t (List.mem_of_getElem? hk)).2
  have HP := Lib.hid fun (k : Nat) (t : Int) (hk : ts[k]? = some t) => (by rw [hsp]; rw [List.getElem?_append_left (by simpa using (List.getElem?_eq_some_iff.1 hk).1), List.getElem?_map, hk]; rfl : (splitL 44 l)[k]? = some (dateL t))
  have HBad := Lib.hid (by rw [hsp]; simp : (splitL 44 l)[ts.length]? = some p)
  have HN := Lib.hid fun W : World => strToTime_no p W hp
  have el : (⟨l.toArray⟩ : ByteArray).data.toList = l := rfl
  rw [el] at HS2
  clear S h58 hr hsp el
  generalize splitL 44 l = ps at *
  obtain ⟨n, hn⟩ : ∃ n, n = ps.length := ⟨_, rfl⟩
  have Hn := Lib.hid hn
  have hn2 : n ≤ 1000001 := by omega
  have hn1 := Lib.hid (by omega : 1 ≤ n)
  have hN : ts.length < n := by omega
  have HNN := Lib.hid hN
  clear hn sl1 sl2 hlen hN
  go_enter Tryz.func99, Tryz.ntmps99
  go_wp2_with fail
  refine (HS.out _).mono ?_; rintro e w1 ⟨g, cap, rfl, hcap, hst, hg1, hg2, hb⟩
  have hc : w1.cell? ⟨g, 0, none⟩ = some (.string ⟨l.toArray⟩) := hst 0 _ rfl
  have hb1 : Below w.heap.size w w1 := below_a1.trans (hb.mono (B' := w.heap.size) (by simp))
  have HB := Lib.hid hb1
  have hz1 := hb1.size
  clear hst hb hb1
  go_wp2_with fail
  refine (HS2.out _).mono ?_; rintro e w2 ⟨g2, cap2, rfl, hcap2, hst2, hg3, hg4, hb2⟩
  have hb3 : Below w.heap.size w w2 := (HB.out.alloc hz1 _).trans (hb2.mono (B' := w.heap.size) (by simp; omega))
  rw [← Hn.out] at hcap2 ⊢
  have HB3 := Lib.hid hb3
  have HT := Lib.hid hst2
  have hgz : w.heap.size ≤ g2 := by rw [World.size_alloc] at hg3; omega
  clear hst2 hb2 hb3 hc HB hg3 hg1 hg2
  go_wp2_with fail
  go_loopw [4, 5, 60] (fun u er v wr => ∃ k : Nat, k ≤ n ∧ v = .int .i64 k ∧ er = .nilIface ∧ Hid (k ≤ ts.length) ∧ StrsAt wr g2 ps ∧ wr.ownsRow w.heap.size 109 2 u k (timeVs (ts.take k)) ∧ Below w.heap.size w wr ∧ g2 < wr.heap.size ∧ Hid (u.ownBlock ≠ some g2)) (fun _ _ v _ => n - (intOf v).toNat)
  case atStart => exact ⟨0, Nat.zero_le _, rfl, rfl, Nat.zero_le _, HT.out, own_nil _ _ _ _, HB3.out, hg4, by show _ ≠ _; simp [Value.ownBlock]⟩
  case round =>
    clear HT HB3 hg4
    obtain ⟨k, hk, rfl, rfl, hkt, hst, hown, hb, hg4, hne⟩ := hrel
    have HT := Lib.hid hst
    clear hst
    by_cases hkn : k < n
    · by_cases hkt2 : k < ts.length
      · have hget : ts[k]? = some ts[k] := List.getElem?_eq_getElem hkt2
        have hc := HT.out k _ (HP.out k _ hget)
        have HDk := Lib.hid (HD.out k _ hget)
        have HK := Lib.hid hkt2
        generalize htk : ts[k] = t at *
        have HG := Lib.hid hget
        clear hget htk hkt2
        go_wp2_with fail
        refine (HDk.out _).mono ?_; rintro e w3 ⟨rfl, hb3⟩
        have hb4 := hb.trans (hb3.mono hb.size)
        have hown3 : w3.ownsRow w.heap.size 109 2 _ k (timeVs (ts.take k)) := own_below hown hb3
        have hz3 := hb4.size
        have hz4 := hb3.size
        have HT3 := Lib.hid (HT.out.below hb3 hg4)
        clear hc hown hb hb3
        go_wp2_with (at_builtin; refine app_own' (w3.heap.size + 1) (by simp) w.heap.size rfl _ _ 113 109 (.agg #[.int .i64 0, .int .i64 0]) 2 16 rfl Tryz.underlying113 info109 rfl (by decide) (by decide) _ _ _ [.int .i64 t, .int .i64 0] (by rfl) (by rfl) rfl (by simp [Value.oneCell']) (hown3.alloc _) (by simp; omega) (by omega) ?_)
        intro g5 cap5 w5 hown5 hg5 hg6 hcap5 hgrow hat
        have hb5 : Below w.heap.size w w5 := (hb4.alloc hz3 _).grown hgrow (by simp; omega) (own_base hown3)
        have hz5 : g2 < w5.heap.size := by have := hgrow.size; rw [World.size_alloc] at this; omega
        have HT5 : StrsAt w5 g2 ps := HT3.out.keep fun j => by
          rw [hgrow.cell_far ⟨g2, j, none⟩ (by simp; omega) (fun h => hne.out h.symm), World.cell?_alloc_lt _ _ _ (by simp; omega)]
        have hne5 : (Value.slice (some ⟨g5, 0, none⟩) (k + 1) cap5).ownBlock ≠ some g2 := by
          rcases hat with hat | hat
          · show some g5 ≠ _
            rw [hat]; exact hne.out
          · show some g5 ≠ _
            intro h; simp at h hat; omega
        clear hgrow hat hown3 hb4 HT HT3 hne
        have HN5 := Lib.hid hne5
        have HT6 := Lib.hid HT5
        clear HT5 hne5
        go_wp2_with fail
        go_roundw
        case rel =>
          have hk1 : k < ts.length := HK.out
          refine ⟨k + 1, by omega, by go_num, rfl, hk1, HT6.out, ?_, hb5, hz5, HN5⟩
          rw [← timeVs_snoc] at hown5
          have e : ts.take (k + 1) = ts.take k ++ [t] := by rw [List.take_add_one, HG.out]; rfl
          rw [e]
          simpa using hown5
        case measure => simp [intOf]; omega
      · have hkt3 : k = ts.length := by have := hkt.out; omega
        subst hkt3
        have hc := HT.out _ _ HBad.out
        clear hkt2
        go_wp2_with fail
        refine (HN.out _).mono ?_; rintro e w3 ⟨⟨p3, rfl⟩, hb3⟩
        have hb4 := hb.trans (hb3.mono hb.size)
        have HBF := Lib.hid hb4
        clear hc hown hb hb3 hb4 hne
        go_wp2_with (go_at_call 67; refine (errNew_any _ _).mono ?_; rintro e w4 ⟨rfl, rfl⟩)
        go_ret2
        have hz3 := HBF.out.size
        exact ⟨⟨_, rfl⟩, (HBF.out.alloc hz3 _).alloc (by simp; omega) _⟩
    · exact absurd HNN.out (by have := hkt.out; omega)
end Go.Proofs.YtnlpjncljbaapaaGreatDoor
