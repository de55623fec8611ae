/- FnNames: the names of a pattern are told, each once, in the order in which they end. No condition of its own: for every input. The tables of Go's library that the row lists are tied to the program's text. -/
import Derived.Test.YtigalkobmfbdaaaGreatDoorFacts
import Derived.Test.YtigalkobmfbdaaaGreatDoorLaw7
set_option linter.unusedVariables false
set_option linter.unusedSimpArgs false
namespace Go.Proofs.YtigalkobmfbdaaaGreatDoor
open Go.ChangeShapes Go.WideShapes Go.ChangeAt Go.RowKit
theorem params7 : Tryz.f7.params.toList = [24] := by kernel_rfl
theorem results7 : Tryz.f7.resultTypes.toList = [4] := by kernel_rfl
theorem x7_9 : (Rows.fnNamesRow.inPlace == Tryz.prog.inPlace 7) = true := by kernel_rfl
theorem x7_10 : (Rows.fnNamesRow.unfollowed == Tryz.prog.unfollowed 7) = true := by kernel_rfl
theorem x7_11 : (Rows.fnNamesRow.recurses == Tryz.prog.recurses 7) = true := by kernel_rfl
theorem x7_12 : (Rows.fnNamesRow.named == Tryz.prog.varsNamed 7) = true := by kernel_rfl
theorem closed7 : joinedFacts Tryz.pinned.checked.prog 7 Tryz.f7 Rows.fnNamesSpec Rows.fnNamesRow = true :=
  joined_of (f := 7) (fn := Tryz.f7) (s := Rows.fnNamesSpec) (c := Rows.fnNamesRow) (by kernel_rfl) (by kernel_rfl) (by kernel_rfl) (by kernel_rfl) (by kernel_rfl) x7_9 x7_10 x7_11 x7_12 (by kernel_rfl) (by kernel_rfl) (by kernel_rfl) (by kernel_rfl) (by kernel_rfl) (by kernel_rfl) (by kernel_rfl) (by kernel_rfl) (by kernel_rfl) rfl (by kernel_rfl) rfl rfl (by kernel_rfl) (by kernel_rfl) (by kernel_rfl) (by kernel_rfl)
set_option maxRecDepth 100000 in
theorem lifted7 (os : Os) (started : os.Started) (H : Type) (enc : TypeId × Value → H) :
    ReturnsInHanded {} Tryz.checked os 7 .any (fun w args => (Rows.fnNamesSpec.pre enc Tryz.prog Tryz.f7 Rows.fnNamesRow.domain false w args ∧ laidMetH Tryz.prog laidL w) ∧ sizedMet enc Tryz.prog Tryz.f7 (OpenSpec.ofChange Rows.fnNamesSpec) false w args)
      (Rows.fnNamesSpec.post enc Tryz.prog Tryz.f7 false true false false) := by
  refine returnsInHanded_of_change_and (C := Tryz.checked) (X := fun w _ => laidMetH Tryz.prog laidL w) (fun _ _ _ hh h => h.of_heap hh) own started (by kernel_rfl) Tryz.func7
    (ChangeSpec.witness_shaped (enc := enc) (C := Tryz.checked) (os := os) (X := fun w _ => laidMetH Tryz.prog laidL w) false (World.laidAll Tryz.prog os laidL) #[.agg #[.string ⟨#[]⟩, .string ⟨#[]⟩, .slice none 0 0]] 8 (World.laidAll_os _ _ _)
      (World.shaped_of_ZipB (by kernel_rfl) (by kernel_rfl)) (by kernel_rfl) (by kernel_rfl) (by kernel_rfl)
      (by rw [MakeChecks.laidMetH_plain _ _ _ (by kernel_rfl)]; exact laidMet_laidAll _ (by kernel_rfl) (by kernel_rfl))) ?_
  intro W base args ds gs before hval0 hW hc hsz hL _
  have hval : ∀ (j : Nat) t v, Tryz.f7.params[j]? = some t → args[j]? = some v → Value.okWide Tryz.prog W .any base t v := hval0
  have hsz2 : (DataW.weightsEach Tryz.prog ([24] ++ []) (ds ++ gs)).all (· ≤ reachBytes) = true := hsz
  have hW' := hW
  obtain ⟨p, q, hA0, hV, rfl, hfz, hnd⟩ := hW
  have hA : DataW.TrodAll enc Tryz.prog W 0 (fun _ => true) true Tryz.f7.params.toList args.toList ds p := hA0
  rw [params7] at hA
  obtain ⟨v0, d0, rfl, rfl, h0⟩ := trodAll_one hA
  obtain ⟨rfl, rfl⟩ := trodVars_none hV
  obtain ⟨t0, a0, c0, rfl, ht0⟩ := open_tree (hval 0 24 v0 rfl rfl) h0 (fun n hn => by
    have := List.all_eq_true.1 hsz2 n (DataW.weights_mem_each (j := 0) rfl rfl n hn)
    simpa using this)
  refine (names_law t0 a0 c0 W ht0 (tab_of_laid hL)).mono fun e W' ⟨he, hE⟩ => ?_
  subst he
  exact ⟨_, rfl, law_post params7 results7 (by kernel_rfl) rfl rfl hW' hE (by kernel_rfl)⟩
theorem said7 : Rows.FnNamesSaid :=
  OpenClaim.holds_of_wide 7 Tryz.f7 rfl rfl rfl rfl rfl rfl rfl ⟨rfl, rfl, rfl, rfl, rfl⟩ rfl rfl rfl rfl rfl (by kernel_rfl) Tryz.func7 closed7
    (of_decide_eq_true (by kernel_rfl)) (by unfold Func.isWrapper; first | (rw [if_pos (by decide +kernel)]; kernel_rfl) | (rw [if_neg (by decide +kernel)]; exact ⟨rfl, rfl⟩))
    (fun os started H enc _ => lifted7 os started H enc)
theorem y7_wf : Rows.fnNamesRow.wfByText (OpenSpec.ofChange Rows.fnNamesSpec) = true := by kernel_rfl
theorem y7_goes : false = Rows.fnNamesRow.goesBy Tryz.pinned.checked.prog := by kernel_rfl
theorem y7_stand : ([24].all fun u => !Tryz.prog.wantsStandIn u) = true := by kernel_rfl
theorem y7_name : Tryz.prog.funcNamed "loop.example/pub-g03264/laws.FnNames" = some 7 := by kernel_rfl
theorem fnNames_holds : Rows.FnNamesCardSaid :=
  Claim7.holds_tied_plain_at .later [] [.data, .listed, .data, .pinned, .pinned, .pinned] true (true, "45aed9cc55dc6d68f0b14cb90fd0a26ae0b24895b21d11b3721641f397322362") true said7 (fun _ h => by cases h) y7_wf (fun _ h => by cases h) fnNames_row_tie rfl ⟨rfl, rfl⟩ fMain rfl
    (fun f fn hf hfn => by
      obtain rfl : f = 7 := (Option.some.inj (y7_name.symm.trans hf)).symm
      obtain rfl : fn = Tryz.f7 := (Option.some.inj (Tryz.func7.symm.trans hfn)).symm
      exact ⟨fLooks, fun j t ht => by
        have hm : t ∈ [24] := by rw [← params7]; simpa using Array.mem_of_getElem? ht
        exact (show Tryz.prog.wantsStandIn t = false by simpa using List.all_eq_true.1 y7_stand t hm)⟩)
    y7_goes
#print axioms fnNames_holds
end Go.Proofs.YtigalkobmfbdaaaGreatDoor
