/-
  FnSetBad answers true for every set and every number that can be read as data, in whatever memory in which the package's listed variables hold what the program's text lays into them; no condition is laid on the arguments. What was in memory ahead of the call stays as it was.
-/
import Derived.Test.YtnlpjncljbaapaaGreatDoorRw
import Derived.Test.YtnlpjncljbaapaaGreatDoorLw3
namespace Go.Proofs.YtnlpjncljbaapaaGreatDoor
open Go Go.ChangeShapes Go.WideShapes Go.ChangeAt Go.RowKit Go.Joins

set_option maxRecDepth 100000 in
set_option maxHeartbeats 2000000 in
theorem bad_lifted (os : Os) (started : os.Started) (H : Type) (enc : TypeId × Value → H) :
    ReturnsInHanded {} Tryz.checked os 3 .any (fun w args => (Rows.fnSetBadSpec.pre enc Tryz.prog Tryz.f3 [] false w args ∧ laidMetH Tryz.prog laidV w) ∧ sizedMet enc Tryz.prog Tryz.f3 (OpenSpec.ofChange Rows.fnSetBadSpec) false w args)
      (Rows.fnSetBadSpec.post enc Tryz.prog Tryz.f3 false true false false) := by
  refine returnsInHanded_of_change_and (C := Tryz.checked) (X := fun w _ => laidMetH Tryz.prog laidV w) (fun _ _ _ hh h => h.of_heap hh) own started (by kernel_rfl) Tryz.func3
    (ChangeSpec.witness_shaped (enc := enc) (C := Tryz.checked) (os := os) (X := fun w _ => laidMetH Tryz.prog laidV w) false (World.laidAll Tryz.prog os laidV) #[specSet0, .int .u8 0] 8 (World.laidAll_os _ _ _)
      (World.shaped_of_ZipB (by kernel_rfl) (by kernel_rfl)) (by kernel_rfl) (by kernel_rfl) (by kernel_rfl) (laid_met os _)) ?_
  intro W base args ds gs before hval0 hW _ _ hL _
  have hval : ∀ (j : Nat) t v, Tryz.f3.params[j]? = some t → args[j]? = some v → Value.okWide Tryz.prog W .any base t v := hval0
  have hW' := hW
  obtain ⟨p, q, hA0, hV, rfl, hfz, hnd⟩ := hW
  have hA : DataW.TrodAll enc Tryz.prog W 0 (fun _ => true) true Tryz.f3.params.toList args.toList ds p := hA0
  rw [Tryz.params3] at hA hval
  obtain ⟨v0, v1, d0, d1, p0, p1, rfl, rfl, rfl, h0, h1⟩ := trodAll_two hA
  obtain ⟨rfl, rfl⟩ := trodVars_none hV
  have k0 := h0
  have lt0 : ∀ x ∈ p0, x.block < W.heap.size := by obtain ⟨m, hm⟩ := k0; exact DataW.trod_lt m _ _ _ hm
  obtain ⟨t, hr, fr, hs, st, iv, wk, ct, hu, un, p, n, c, pr, nr, cr, px, nx, cx, l, dl, rds, exs, rfl, hin⟩ := open_set (hval 0 28 v0 rfl rfl) h0
  obtain ⟨a1, rfl, rfl, rfl, w1⟩ := open_int Tryz.underlying5 (hval 1 5 v1 rfl rfl) h1
  have ha := bounds_u8 w1
  obtain ⟨which, rfl⟩ : ∃ k : Nat, a1 = k := ⟨a1.toNat, by omega⟩
  clear hA0 hval0
  refine (law_bad t hr fr hs st iv wk ct hu un p n c pr nr cr px nx cx l dl rds exs which W (glob_of hL) hin (by omega)).mono fun e W' ⟨he, bel⟩ => ?_
  subst he
  exact ⟨_, rfl, _, _, _, [], _, [], hW', trodAll_mk1 (shut_bool Tryz.underlying4 _), (trodAll_cons_mk (Below.trod laidOut (by kernel_rfl) (of_decide_eq_true (by kernel_rfl)) k0 bel lt0) (trodAll_cons_mk (shut_int Tryz.underlying5 w1) trodAll_mk0)), rfl, bel.frame _, fun h => by cases h⟩

theorem bad_closed : joinedFacts Tryz.prog 3 Tryz.f3 Rows.fnSetBadSpec Rows.fnSetBadRow = true := by kernel_rfl
theorem bad_at : Tryz.prog.funcNamed "pub-hebdomad/laws.FnSetBad" = some 3 := by kernel_rfl
theorem bad_inst : Tryz.f3.isInstance Tryz.prog Rows.fnSetBadRow.origin Rows.fnSetBadRow.targs := of_decide_eq_true (by kernel_rfl)
theorem bad_wrap : Tryz.f3.isWrapper Tryz.prog Rows.fnSetBadRow.wrapper Rows.fnSetBadRow.mainSum := by
  unfold Func.isWrapper
  rw [if_neg (by decide +kernel)]
  exact ⟨rfl, rfl⟩
theorem fnSetBad_holds : Rows.FnSetBadSaid :=
  OpenClaim.holds_of_wide 3 Tryz.f3 rfl rfl rfl rfl rfl rfl rfl ⟨rfl, rfl, rfl, rfl, rfl⟩ rfl rfl rfl rfl rfl bad_at Tryz.func3 bad_closed bad_inst bad_wrap (fun os started H enc _ => bad_lifted os started H enc)

/-- The card. -/
theorem fnSetBad_card : Rows.FnSetBadCardSaid :=
  Claim7.holds_tied_plain_at .later [] [.data, .data, .data, .data, .sentinel, .sentinel, .listed, .data, .data, .data, .data, .data, .data, .data, .data, .pinned, .pinned] true (true, "f7a930e5fc514c564b3f37d2a3e01784d0066a9a0fbdd7fe0593d7d92aba3057") true
    fnSetBad_holds (fun _ h => by cases h) (by kernel_rfl) (fun _ h => by cases h) fnSetBad_row_tie rfl ⟨rfl, rfl⟩ (by kernel_rfl) rfl
    (fun f fn hf hfn => by
      obtain rfl : f = 3 := Option.some.inj (bad_at.symm.trans hf) |>.symm
      obtain rfl : fn = Tryz.f3 := (Option.some.inj (Tryz.func3.symm.trans hfn)).symm
      exact ⟨by kernel_rfl, fun j t ht => by
        rw [Tryz.params3] at ht
        have hm : t ∈ [28, 5] := by simpa using Array.mem_of_getElem? ht
        have hall : ([28, 5].all fun u => !Tryz.prog.wantsStandIn u) = true := by kernel_rfl
        exact (show Tryz.prog.wantsStandIn t = false by simpa using List.all_eq_true.1 hall t hm)⟩)
    (by kernel_rfl)
#print axioms fnSetBad_card
end Go.Proofs.YtnlpjncljbaapaaGreatDoor
