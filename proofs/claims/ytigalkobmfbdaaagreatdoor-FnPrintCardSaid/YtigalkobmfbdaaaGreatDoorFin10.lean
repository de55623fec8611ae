/- FnPrint: what is read is printed with single blanks and brackets, as a text that is read as the same. No condition of its own: for every input. The tables of Go's library that the row lists are tied to the program's text. -/
import Derived.Test.YtigalkobmfbdaaaGreatDoorFacts
import Derived.Test.YtigalkobmfbdaaaGreatDoorMix10a
set_option linter.unusedVariables false
set_option linter.unusedSimpArgs false
namespace Go.Proofs.YtigalkobmfbdaaaGreatDoor
open Go.ChangeShapes Go.WideShapes Go.ChangeAt Go.RowKit
theorem params10 : Tryz.f10.params.toList = [24, 5] := by kernel_rfl
theorem results10 : Tryz.f10.resultTypes.toList = [4] := by kernel_rfl
theorem x10_9 : (Rows.fnPrintRow.inPlace == Tryz.prog.inPlace 10) = true := by kernel_rfl
theorem x10_10 : (Rows.fnPrintRow.unfollowed == Tryz.prog.unfollowed 10) = true := by kernel_rfl
theorem x10_11 : (Rows.fnPrintRow.recurses == Tryz.prog.recurses 10) = true := by kernel_rfl
theorem x10_12 : (Rows.fnPrintRow.named == Tryz.prog.varsNamed 10) = true := by kernel_rfl
theorem closed10 : joinedFacts Tryz.pinned.checked.prog 10 Tryz.f10 Rows.fnPrintSpec Rows.fnPrintRow = true :=
  joined_of (f := 10) (fn := Tryz.f10) (s := Rows.fnPrintSpec) (c := Rows.fnPrintRow) (by kernel_rfl) (by kernel_rfl) (by kernel_rfl) (by kernel_rfl) (by kernel_rfl) x10_9 x10_10 x10_11 x10_12 (by kernel_rfl) (by kernel_rfl) (by kernel_rfl) (by kernel_rfl) (by kernel_rfl) (by kernel_rfl) (by kernel_rfl) (by kernel_rfl) (by kernel_rfl) rfl (by kernel_rfl) rfl rfl (by kernel_rfl) (by kernel_rfl) (by kernel_rfl) (by kernel_rfl)
set_option maxRecDepth 100000 in
theorem lifted10 (os : Os) (started : os.Started) (H : Type) (enc : TypeId × Value → H) :
    ReturnsInHanded {} Tryz.checked os 10 .any (fun w args => (Rows.fnPrintSpec.pre enc Tryz.prog Tryz.f10 Rows.fnPrintRow.domain false w args ∧ laidMetH Tryz.prog laidL w) ∧ sizedMet enc Tryz.prog Tryz.f10 (OpenSpec.ofChange Rows.fnPrintSpec) false w args)
      (Rows.fnPrintSpec.post enc Tryz.prog Tryz.f10 false true false false) := by
  refine returnsInHanded_of_change_and (C := Tryz.checked) (X := fun w _ => laidMetH Tryz.prog laidL w) (fun _ _ _ hh h => h.of_heap hh) own started (by kernel_rfl) Tryz.func10
    (ChangeSpec.witness_shaped (enc := enc) (C := Tryz.checked) (os := os) (X := fun w _ => laidMetH Tryz.prog laidL w) false (World.laidAll Tryz.prog os laidL) #[.agg #[.string ⟨#[]⟩, .string ⟨#[]⟩, .slice none 0 0], .int .u8 0] 8 (World.laidAll_os _ _ _)
      (World.shaped_of_ZipB (by kernel_rfl) (by kernel_rfl)) (by kernel_rfl) (by kernel_rfl) (by kernel_rfl)
      (by rw [MakeChecks.laidMetH_plain _ _ _ (by kernel_rfl)]; exact laidMet_laidAll _ (by kernel_rfl) (by kernel_rfl))) ?_
  intro W base args ds gs before hval0 hW hc hsz hL _
  have hval : ∀ (j : Nat) t v, Tryz.f10.params[j]? = some t → args[j]? = some v → Value.okWide Tryz.prog W .any base t v := hval0
  have hsz2 : (DataW.weightsEach Tryz.prog ([24, 5] ++ []) (ds ++ gs)).all (· ≤ reachBytes) = true := hsz
  have hW' := hW
  obtain ⟨p, q, hA0, hV, rfl, hfz, hnd⟩ := hW
  have hA : DataW.TrodAll enc Tryz.prog W 0 (fun _ => true) true Tryz.f10.params.toList args.toList ds p := hA0
  rw [params10] at hA
  obtain ⟨v0, v1, d0, d1, p0, p1, rfl, rfl, rfl, h0, h1⟩ := trodAll_two hA
  obtain ⟨rfl, rfl⟩ := trodVars_none hV
  obtain ⟨t0, a0, c0, rfl, ht0⟩ := open_tree (hval 0 24 v0 rfl rfl) h0 (fun n hn => by
    have := List.all_eq_true.1 hsz2 n (DataW.weights_mem_each (j := 0) rfl rfl n hn)
    simpa using this)
  obtain ⟨b1, rfl, rfl, rfl, wf1⟩ := open_int (k := .u8) (by kernel_rfl) (hval 1 5 v1 rfl rfl) h1
  refine (print_law t0 a0 c0 b1 W ht0 wf1 (tab_of_laid hL)).mono fun e W' ⟨he, hE⟩ => ?_
  subst he
  exact ⟨_, rfl, law_post params10 results10 (by kernel_rfl) rfl rfl hW' hE (by kernel_rfl)⟩
theorem said10 : Rows.FnPrintSaid :=
  OpenClaim.holds_of_wide 10 Tryz.f10 rfl rfl rfl rfl rfl rfl rfl ⟨rfl, rfl, rfl, rfl, rfl⟩ rfl rfl rfl rfl rfl (by kernel_rfl) Tryz.func10 closed10
    (of_decide_eq_true (by kernel_rfl)) (by unfold Func.isWrapper; first | (rw [if_pos (by decide +kernel)]; kernel_rfl) | (rw [if_neg (by decide +kernel)]; exact ⟨rfl, rfl⟩))
    (fun os started H enc _ => lifted10 os started H enc)
theorem y10_wf : Rows.fnPrintRow.wfByText (OpenSpec.ofChange Rows.fnPrintSpec) = true := by kernel_rfl
theorem y10_goes : false = Rows.fnPrintRow.goesBy Tryz.pinned.checked.prog := by kernel_rfl
theorem y10_stand : ([24, 5].all fun u => !Tryz.prog.wantsStandIn u) = true := by kernel_rfl
theorem y10_name : Tryz.prog.funcNamed "loop.example/pub-g03264/laws.FnPrint" = some 10 := by kernel_rfl
theorem fnPrint_holds : Rows.FnPrintCardSaid :=
  Claim7.holds_tied_plain_at .later [] [.data, .listed, .data, .pinned, .pinned, .pinned] true (true, "45aed9cc55dc6d68f0b14cb90fd0a26ae0b24895b21d11b3721641f397322362") true said10 (fun _ h => by cases h) y10_wf (fun _ h => by cases h) fnPrint_row_tie rfl ⟨rfl, rfl⟩ fMain rfl
    (fun f fn hf hfn => by
      obtain rfl : f = 10 := (Option.some.inj (y10_name.symm.trans hf)).symm
      obtain rfl : fn = Tryz.f10 := (Option.some.inj (Tryz.func10.symm.trans hfn)).symm
      exact ⟨fLooks, fun j t ht => by
        have hm : t ∈ [24, 5] := by rw [← params10]; simpa using Array.mem_of_getElem? ht
        exact (show Tryz.prog.wantsStandIn t = false by simpa using List.all_eq_true.1 y10_stand t hm)⟩)
    y10_goes
#print axioms fnPrint_holds
end Go.Proofs.YtigalkobmfbdaaaGreatDoor
