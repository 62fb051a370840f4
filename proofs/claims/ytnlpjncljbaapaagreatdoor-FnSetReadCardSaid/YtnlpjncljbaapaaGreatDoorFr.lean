/-
  FnSetRead answers true for every set and every list of bytes that can be read as data, in whatever memory in which the package's listed variables hold what the program's text lays into them; no condition is laid on the arguments. What was in memory ahead of the call stays as it was.
-/
import Derived.Test.YtnlpjncljbaapaaGreatDoorRw
import Derived.Test.YtnlpjncljbaapaaGreatDoorRl
import Derived.Test.YtnlpjncljbaapaaGreatDoorFq
namespace Go.Proofs.YtnlpjncljbaapaaGreatDoor
open Go Go.ChangeShapes Go.WideShapes Go.ChangeAt Go.RowKit Go.Joins

set_option maxRecDepth 100000 in
/-- What a slice of bytes that came in holds. -/
theorem open_bytes {H : Type} {enc : TypeId × Value → H} {w : World} {base b0 : Nat} {held : Bool} {v : Value} {d : DataW H} {ps : List MemPlace} (hv : Value.okWide Tryz.prog w .any b0 48 v) (h : DataW.Trod enc Tryz.prog w base (fun _ => true) held 48 v d ps) :
    ∃ po no co ord, v = .slice po no co ∧ RowB w po no ord := by
  obtain ⟨a1, len, cap, rfl⟩ := okWide_slice Tryz.underlying48 hv
  obtain ⟨fuel, hf⟩ := h
  rcases open_ints Tryz.underlying48 Tryz.underlying5 cells5 hf with ⟨hcs, _⟩ | ⟨a, len', cap', zs, hcs, _, hl, hm, hz, hx, hcell, hwz⟩
  · simp [Value.cells] at hcs
    obtain ⟨rfl, rfl, rfl⟩ := hcs
    exact ⟨none, 0, 0, [], rfl, rfl, fun i x h => by simp at h⟩
  · simp [Value.cells] at hcs
    obtain ⟨rfl, rfl, rfl⟩ := hcs
    have hz : zs.length = cap := by simpa using hz
    refine ⟨some a, len, cap, zs.take len, rfl, by simp; omega, fun i x h => ?_⟩
    have hi : i < (zs.take len).length := (List.getElem?_eq_some_iff.1 h).1
    simp at hi
    obtain ⟨b, off, rfl, hc⟩ := ints_at hcell (by omega)
    have hx : zs[i]? = some x := by rwa [List.getElem?_take_of_lt (by omega)] at h
    have h1 := hc i (by omega)
    rw [List.getD_eq_getElem?_getD, hx] at h1
    have hb := bounds_u8 (hwz x (List.mem_of_getElem? hx))
    exact ⟨by omega, b, off, rfl, cell_in h1, h1⟩
set_option maxRecDepth 100000 in
set_option maxHeartbeats 2000000 in
theorem read_lifted (os : Os) (started : os.Started) (H : Type) (enc : TypeId × Value → H) :
    ReturnsInHanded {} Tryz.checked os 6 .any (fun w args => (Rows.fnSetReadSpec.pre enc Tryz.prog Tryz.f6 [] false w args ∧ laidMetH Tryz.prog laidV w) ∧ sizedMet enc Tryz.prog Tryz.f6 (OpenSpec.ofChange Rows.fnSetReadSpec) false w args)
      (Rows.fnSetReadSpec.post enc Tryz.prog Tryz.f6 false true false false) := by
  refine returnsInHanded_of_change_and (C := Tryz.checked) (X := fun w _ => laidMetH Tryz.prog laidV w) (fun _ _ _ hh h => h.of_heap hh) own started (by kernel_rfl) Tryz.func6
    (ChangeSpec.witness_shaped (enc := enc) (C := Tryz.checked) (os := os) (X := fun w _ => laidMetH Tryz.prog laidV w) false (World.laidAll Tryz.prog os laidV) #[specSet0, .slice none 0 0] 8 (World.laidAll_os _ _ _)
      (World.shaped_of_ZipB (by kernel_rfl) (by kernel_rfl)) (by kernel_rfl) (by kernel_rfl) (by kernel_rfl) (laid_met os _)) ?_
  intro W base args ds gs before hval0 hW _ _ hL _
  have hval : ∀ (j : Nat) t v, Tryz.f6.params[j]? = some t → args[j]? = some v → Value.okWide Tryz.prog W .any base t v := hval0
  have hW' := hW
  obtain ⟨p, q, hA0, hV, rfl, hfz, hnd⟩ := hW
  have hA : DataW.TrodAll enc Tryz.prog W 0 (fun _ => true) true Tryz.f6.params.toList args.toList ds p := hA0
  rw [Tryz.params6] at hA hval
  obtain ⟨v0, v1, d0, d1, p0, p1, rfl, rfl, rfl, h0, h1⟩ := trodAll_two hA
  obtain ⟨rfl, rfl⟩ := trodVars_none hV
  have k0 := h0
  have k1 := h1
  have lt0 : ∀ x ∈ p0, x.block < W.heap.size := by obtain ⟨m, hm⟩ := k0; exact DataW.trod_lt m _ _ _ hm
  have lt1 : ∀ x ∈ p1, x.block < W.heap.size := by obtain ⟨m, hm⟩ := k1; exact DataW.trod_lt m _ _ _ hm
  obtain ⟨t, hr, fr, hs, st, iv, wk, ct, hu, un, pp, n, c, pr, nr, cr, px, nx, cx, l, dl, rds, exs, rfl, hin⟩ := open_set (hval 0 28 v0 rfl rfl) h0
  obtain ⟨po, no, co, ord, rfl, hor⟩ := open_bytes (hval 1 48 v1 rfl rfl) h1
  clear hA0 hval0
  refine (law_read t hr fr hs st iv wk ct hu un pp n c pr nr cr px nx cx l dl rds exs po no co ord W (glob_of hL) hin hor).mono fun e W' ⟨he, bel⟩ => ?_
  subst he
  exact ⟨_, rfl, _, _, _, [], _, [], hW', trodAll_mk1 (shut_bool Tryz.underlying4 _), (trodAll_cons_mk (Below.trod laidOut (by kernel_rfl) (of_decide_eq_true (by kernel_rfl)) k0 bel lt0) (trodAll_cons_mk (Below.trod laidOut (by kernel_rfl) (of_decide_eq_true (by kernel_rfl)) k1 bel lt1) trodAll_mk0)), rfl, bel.frame _, fun h => by cases h⟩

theorem read_at : Tryz.prog.funcNamed "pub-hebdomad/laws.FnSetRead" = some 6 := by kernel_rfl
theorem read_inst : Tryz.f6.isInstance Tryz.prog Rows.fnSetReadRow.origin Rows.fnSetReadRow.targs := of_decide_eq_true (by kernel_rfl)
theorem read_wrap : Tryz.f6.isWrapper Tryz.prog Rows.fnSetReadRow.wrapper Rows.fnSetReadRow.mainSum := by
  unfold Func.isWrapper
  rw [if_neg (by decide +kernel)]
  exact ⟨rfl, rfl⟩
theorem fnSetRead_holds : Rows.FnSetReadSaid :=
  OpenClaim.holds_of_wide 6 Tryz.f6 rfl rfl rfl rfl rfl rfl rfl ⟨rfl, rfl, rfl, rfl, rfl⟩ rfl rfl rfl rfl rfl read_at Tryz.func6 read_closed read_inst read_wrap (fun os started H enc _ => read_lifted os started H enc)

/-- The card. -/
theorem fnSetRead_card : Rows.FnSetReadCardSaid :=
  Claim7.holds_tied_plain_at .later [] [.data, .data, .data, .data, .sentinel, .sentinel, .listed, .data, .data, .data, .data, .data, .data, .data, .data, .pinned, .pinned] true (true, "f7a930e5fc514c564b3f37d2a3e01784d0066a9a0fbdd7fe0593d7d92aba3057") true
    fnSetRead_holds (fun _ h => by cases h) (by kernel_rfl) (fun _ h => by cases h) fnSetRead_row_tie rfl ⟨rfl, rfl⟩ (by kernel_rfl) rfl
    (fun f fn hf hfn => by
      obtain rfl : f = 6 := Option.some.inj (read_at.symm.trans hf) |>.symm
      obtain rfl : fn = Tryz.f6 := (Option.some.inj (Tryz.func6.symm.trans hfn)).symm
      exact ⟨by kernel_rfl, fun j t ht => by
        rw [Tryz.params6] at ht
        have hm : t ∈ [28, 48] := by simpa using Array.mem_of_getElem? ht
        have hall : ([28, 48].all fun u => !Tryz.prog.wantsStandIn u) = true := by kernel_rfl
        exact (show Tryz.prog.wantsStandIn t = false by simpa using List.all_eq_true.1 hall t hm)⟩)
    (by kernel_rfl)
#print axioms fnSetRead_card
end Go.Proofs.YtnlpjncljbaapaaGreatDoor
