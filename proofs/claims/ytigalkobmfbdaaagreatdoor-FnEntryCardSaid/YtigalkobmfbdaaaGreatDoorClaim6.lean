/- FnEntry: a match of a node begins at its type, and without nodes that ask for types any symbols do. No condition of its own: for every input. The tables of Go's library that the row lists are tied to the program's text. -/
import Derived.Test.YtigalkobmfbdaaaGreatDoorFacts
import Derived.Test.YtigalkobmfbdaaaGreatDoorLaw6
set_option linter.unusedVariables false
set_option linter.unusedSimpArgs false
namespace Go.Proofs.YtigalkobmfbdaaaGreatDoor
open Go.ChangeShapes Go.WideShapes Go.ChangeAt Go.RowKit
theorem params6 : Tryz.f6.params.toList = [24] := by kernel_rfl
theorem results6 : Tryz.f6.resultTypes.toList = [4] := by kernel_rfl
theorem x6_9 : (Rows.fnEntryRow.inPlace == Tryz.prog.inPlace 6) = true := by kernel_rfl
theorem x6_10 : (Rows.fnEntryRow.unfollowed == Tryz.prog.unfollowed 6) = true := by kernel_rfl
theorem x6_11 : (Rows.fnEntryRow.recurses == Tryz.prog.recurses 6) = true := by kernel_rfl
theorem x6_12 : (Rows.fnEntryRow.named == Tryz.prog.varsNamed 6) = true := by kernel_rfl
theorem closed6 : joinedFacts Tryz.pinned.checked.prog 6 Tryz.f6 Rows.fnEntrySpec Rows.fnEntryRow = true :=
  joined_of (f := 6) (fn := Tryz.f6) (s := Rows.fnEntrySpec) (c := Rows.fnEntryRow) (by kernel_rfl) (by kernel_rfl) (by kernel_rfl) (by kernel_rfl) (by kernel_rfl) x6_9 x6_10 x6_11 x6_12 (by kernel_rfl) (by kernel_rfl) (by kernel_rfl) (by kernel_rfl) (by kernel_rfl) (by kernel_rfl) (by kernel_rfl) (by kernel_rfl) (by kernel_rfl) rfl (by kernel_rfl) rfl rfl (by kernel_rfl) (by kernel_rfl) (by kernel_rfl) (by kernel_rfl)
set_option maxRecDepth 100000 in
theorem lifted6 (os : Os) (started : os.Started) (H : Type) (enc : TypeId × Value → H) :
    ReturnsInHanded {} Tryz.checked os 6 .any (fun w args => (Rows.fnEntrySpec.pre enc Tryz.prog Tryz.f6 Rows.fnEntryRow.domain false w args ∧ laidMetH Tryz.prog laidL w) ∧ sizedMet enc Tryz.prog Tryz.f6 (OpenSpec.ofChange Rows.fnEntrySpec) false w args)
      (Rows.fnEntrySpec.post enc Tryz.prog Tryz.f6 false true false false) := by
  refine returnsInHanded_of_change_and (C := Tryz.checked) (X := fun w _ => laidMetH Tryz.prog laidL w) (fun _ _ _ hh h => h.of_heap hh) own started (by kernel_rfl) Tryz.func6
    (ChangeSpec.witness_shaped (enc := enc) (C := Tryz.checked) (os := os) (X := fun w _ => laidMetH Tryz.prog laidL w) false (World.laidAll Tryz.prog os laidL) #[.agg #[.string ⟨#[]⟩, .string ⟨#[]⟩, .slice none 0 0]] 8 (World.laidAll_os _ _ _)
      (World.shaped_of_ZipB (by kernel_rfl) (by kernel_rfl)) (by kernel_rfl) (by kernel_rfl) (by kernel_rfl)
      (by rw [MakeChecks.laidMetH_plain _ _ _ (by kernel_rfl)]; exact laidMet_laidAll _ (by kernel_rfl) (by kernel_rfl))) ?_
  intro W base args ds gs before hval0 hW hc hsz hL _
  have hval : ∀ (j : Nat) t v, Tryz.f6.params[j]? = some t → args[j]? = some v → Value.okWide Tryz.prog W .any base t v := hval0
  have hsz2 : (DataW.weightsEach Tryz.prog ([24] ++ []) (ds ++ gs)).all (· ≤ reachBytes) = true := hsz
  have hW' := hW
  obtain ⟨p, q, hA0, hV, rfl, hfz, hnd⟩ := hW
  have hA : DataW.TrodAll enc Tryz.prog W 0 (fun _ => true) true Tryz.f6.params.toList args.toList ds p := hA0
  rw [params6] at hA
  obtain ⟨v0, d0, rfl, rfl, h0⟩ := trodAll_one hA
  obtain ⟨rfl, rfl⟩ := trodVars_none hV
  obtain ⟨t0, a0, c0, rfl, ht0⟩ := open_tree (hval 0 24 v0 rfl rfl) h0 (fun n hn => by
    have := List.all_eq_true.1 hsz2 n (DataW.weights_mem_each (j := 0) rfl rfl n hn)
    simpa using this)
  refine (entry_law t0 a0 c0 W ht0 (tab_of_laid hL)).mono fun e W' ⟨he, hE⟩ => ?_
  subst he
  exact ⟨_, rfl, law_post params6 results6 (by kernel_rfl) rfl rfl hW' hE (by kernel_rfl)⟩
theorem said6 : Rows.FnEntrySaid :=
  OpenClaim.holds_of_wide 6 Tryz.f6 rfl rfl rfl rfl rfl rfl rfl ⟨rfl, rfl, rfl, rfl, rfl⟩ rfl rfl rfl rfl rfl (by kernel_rfl) Tryz.func6 closed6
    (of_decide_eq_true (by kernel_rfl)) (by unfold Func.isWrapper; first | (rw [if_pos (by decide +kernel)]; kernel_rfl) | (rw [if_neg (by decide +kernel)]; exact ⟨rfl, rfl⟩))
    (fun os started H enc _ => lifted6 os started H enc)
theorem y6_wf : Rows.fnEntryRow.wfByText (OpenSpec.ofChange Rows.fnEntrySpec) = true := by kernel_rfl
theorem y6_goes : false = Rows.fnEntryRow.goesBy Tryz.pinned.checked.prog := by kernel_rfl
theorem y6_stand : ([24].all fun u => !Tryz.prog.wantsStandIn u) = true := by kernel_rfl
theorem y6_name : Tryz.prog.funcNamed "loop.example/pub-g03264/laws.FnEntry" = some 6 := by kernel_rfl
theorem fnEntry_holds : Rows.FnEntryCardSaid :=
  Claim7.holds_tied_plain_at .later [] [.data, .listed, .data, .pinned, .pinned, .pinned] true (true, "45aed9cc55dc6d68f0b14cb90fd0a26ae0b24895b21d11b3721641f397322362") true said6 (fun _ h => by cases h) y6_wf (fun _ h => by cases h) fnEntry_row_tie rfl ⟨rfl, rfl⟩ fMain rfl
    (fun f fn hf hfn => by
      obtain rfl : f = 6 := (Option.some.inj (y6_name.symm.trans hf)).symm
      obtain rfl : fn = Tryz.f6 := (Option.some.inj (Tryz.func6.symm.trans hfn)).symm
      exact ⟨fLooks, fun j t ht => by
        have hm : t ∈ [24] := by rw [← params6]; simpa using Array.mem_of_getElem? ht
        exact (show Tryz.prog.wantsStandIn t = false by simpa using List.all_eq_true.1 y6_stand t hm)⟩)
    y6_goes
#print axioms fnEntry_holds
end Go.Proofs.YtigalkobmfbdaaaGreatDoor
