/-
  FnSetWritten answers true for every set that can be read as data, in whatever memory in which the package's listed variables hold what the program's text lays into them; no condition is laid on the arguments. What was in memory ahead of the call stays as it was.
-/
import Derived.Test.YtnlpjncljbaapaaGreatDoorRw
import Derived.Test.YtnlpjncljbaapaaGreatDoorW7
import Derived.Test.YtnlpjncljbaapaaGreatDoorFz
namespace Go.Proofs.YtnlpjncljbaapaaGreatDoor
open Go Go.ChangeShapes Go.WideShapes Go.ChangeAt Go.RowKit Go.Joins

set_option maxRecDepth 100000 in
set_option maxHeartbeats 2000000 in
theorem written_lifted (os : Os) (started : os.Started) (H : Type) (enc : TypeId × Value → H) :
    ReturnsInHanded {} Tryz.checked os 7 .any (fun w args => (Rows.fnSetWrittenSpec.pre enc Tryz.prog Tryz.f7 [] false w args ∧ laidMetH Tryz.prog laidV w) ∧ sizedMet enc Tryz.prog Tryz.f7 (OpenSpec.ofChange Rows.fnSetWrittenSpec) false w args)
      (Rows.fnSetWrittenSpec.post enc Tryz.prog Tryz.f7 false true false false) := by
  refine returnsInHanded_of_change_and (C := Tryz.checked) (X := fun w _ => laidMetH Tryz.prog laidV w) (fun _ _ _ hh h => h.of_heap hh) own started (by kernel_rfl) Tryz.func7
    (ChangeSpec.witness_shaped (enc := enc) (C := Tryz.checked) (os := os) (X := fun w _ => laidMetH Tryz.prog laidV w) false (World.laidAll Tryz.prog os laidV) #[specSet0] 8 (World.laidAll_os _ _ _)
      (World.shaped_of_ZipB (by kernel_rfl) (by kernel_rfl)) (by kernel_rfl) (by kernel_rfl) (by kernel_rfl) (laid_met os _)) ?_
  intro W base args ds gs before hval0 hW _ _ hL _
  have hval : ∀ (j : Nat) t v, Tryz.f7.params[j]? = some t → args[j]? = some v → Value.okWide Tryz.prog W .any base t v := hval0
  have hW' := hW
  obtain ⟨p, q, hA0, hV, rfl, hfz, hnd⟩ := hW
  have hA : DataW.TrodAll enc Tryz.prog W 0 (fun _ => true) true Tryz.f7.params.toList args.toList ds p := hA0
  rw [Tryz.params7] at hA hval
  obtain ⟨v0, d0, rfl, rfl, h0⟩ := trodAll_one hA
  obtain ⟨rfl, rfl⟩ := trodVars_none hV
  have k0 := h0
  have lt0 : ∀ x ∈ p, x.block < W.heap.size := by obtain ⟨m, hm⟩ := k0; exact DataW.trod_lt m _ _ _ hm
  obtain ⟨t, hr, fr, hs, st, iv, wk, ct, hu, un, pp, n, c, pr, nr, cr, px, nx, cx, l, dl, rds, exs, rfl, hin⟩ := open_set (hval 0 28 v0 rfl rfl) h0
  clear hA0 hval0
  refine (law_written t hr fr hs st iv wk ct hu un pp n c pr nr cr px nx cx l dl rds exs W (glob_of hL) hin).mono fun e W' ⟨he, bel⟩ => ?_
  subst he
  exact ⟨_, rfl, _, _, _, [], _, [], hW', trodAll_mk1 (shut_bool Tryz.underlying4 _), (trodAll_cons_mk (Below.trod laidOut (by kernel_rfl) (of_decide_eq_true (by kernel_rfl)) k0 bel lt0) trodAll_mk0), rfl, bel.frame _, fun h => by cases h⟩

theorem written_at : Tryz.prog.funcNamed "pub-hebdomad/laws.FnSetWritten" = some 7 := by kernel_rfl
theorem written_inst : Tryz.f7.isInstance Tryz.prog Rows.fnSetWrittenRow.origin Rows.fnSetWrittenRow.targs := of_decide_eq_true (by kernel_rfl)
theorem written_wrap : Tryz.f7.isWrapper Tryz.prog Rows.fnSetWrittenRow.wrapper Rows.fnSetWrittenRow.mainSum := by
  unfold Func.isWrapper
  rw [if_neg (by decide +kernel)]
  exact ⟨rfl, rfl⟩
theorem fnSetWritten_holds : Rows.FnSetWrittenSaid :=
  OpenClaim.holds_of_wide 7 Tryz.f7 rfl rfl rfl rfl rfl rfl rfl ⟨rfl, rfl, rfl, rfl, rfl⟩ rfl rfl rfl rfl rfl written_at Tryz.func7 written_closed written_inst written_wrap (fun os started H enc _ => written_lifted os started H enc)

/-- The card. -/
theorem fnSetWritten_card : Rows.FnSetWrittenCardSaid :=
  Claim7.holds_tied_plain_at .later [] [.data, .data, .data, .data, .sentinel, .sentinel, .listed, .data, .data, .data, .data, .data, .data, .data, .data, .pinned, .pinned] true (true, "f7a930e5fc514c564b3f37d2a3e01784d0066a9a0fbdd7fe0593d7d92aba3057") true
    fnSetWritten_holds (fun _ h => by cases h) (by kernel_rfl) (fun _ h => by cases h) fnSetWritten_row_tie rfl ⟨rfl, rfl⟩ (by kernel_rfl) rfl
    (fun f fn hf hfn => by
      obtain rfl : f = 7 := Option.some.inj (written_at.symm.trans hf) |>.symm
      obtain rfl : fn = Tryz.f7 := (Option.some.inj (Tryz.func7.symm.trans hfn)).symm
      exact ⟨by kernel_rfl, fun j t ht => by
        rw [Tryz.params7] at ht
        have hm : t ∈ [28] := by simpa using Array.mem_of_getElem? ht
        have hall : ([28].all fun u => !Tryz.prog.wantsStandIn u) = true := by kernel_rfl
        exact (show Tryz.prog.wantsStandIn t = false by simpa using List.all_eq_true.1 hall t hm)⟩)
    (by kernel_rfl)
#print axioms fnSetWritten_card
end Go.Proofs.YtnlpjncljbaapaaGreatDoor
