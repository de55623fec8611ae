/- FnUnknown: a node of a name that is none is refused, and so is one that asks for types where they aren't allowed. No condition of its own: for every input. The tables of Go's library that the row lists are tied to the program's text. -/
import Derived.Test.YtigalkobmfbdaaaGreatDoorFacts
import Derived.Test.YtigalkobmfbdaaaGreatDoorLaw9
set_option linter.unusedVariables false
set_option linter.unusedSimpArgs false
namespace Go.Proofs.YtigalkobmfbdaaaGreatDoor
open Go.ChangeShapes Go.WideShapes Go.ChangeAt Go.RowKit
theorem params9 : Tryz.f9.params.toList = [9, 24] := by kernel_rfl
theorem results9 : Tryz.f9.resultTypes.toList = [4] := by kernel_rfl
theorem x9_9 : (Rows.fnUnknownRow.inPlace == Tryz.prog.inPlace 9) = true := by kernel_rfl
theorem x9_10 : (Rows.fnUnknownRow.unfollowed == Tryz.prog.unfollowed 9) = true := by kernel_rfl
theorem x9_11 : (Rows.fnUnknownRow.recurses == Tryz.prog.recurses 9) = true := by kernel_rfl
theorem x9_12 : (Rows.fnUnknownRow.named == Tryz.prog.varsNamed 9) = true := by kernel_rfl
theorem closed9 : joinedFacts Tryz.pinned.checked.prog 9 Tryz.f9 Rows.fnUnknownSpec Rows.fnUnknownRow = true :=
  joined_of (f := 9) (fn := Tryz.f9) (s := Rows.fnUnknownSpec) (c := Rows.fnUnknownRow) (by kernel_rfl) (by kernel_rfl) (by kernel_rfl) (by kernel_rfl) (by kernel_rfl) x9_9 x9_10 x9_11 x9_12 (by kernel_rfl) (by kernel_rfl) (by kernel_rfl) (by kernel_rfl) (by kernel_rfl) (by kernel_rfl) (by kernel_rfl) (by kernel_rfl) (by kernel_rfl) rfl (by kernel_rfl) rfl rfl (by kernel_rfl) (by kernel_rfl) (by kernel_rfl) (by kernel_rfl)
set_option maxRecDepth 100000 in
theorem lifted9 (os : Os) (started : os.Started) (H : Type) (enc : TypeId × Value → H) :
    ReturnsInHanded {} Tryz.checked os 9 .any (fun w args => (Rows.fnUnknownSpec.pre enc Tryz.prog Tryz.f9 Rows.fnUnknownRow.domain false w args ∧ laidMetH Tryz.prog laidL w) ∧ sizedMet enc Tryz.prog Tryz.f9 (OpenSpec.ofChange Rows.fnUnknownSpec) false w args)
      (Rows.fnUnknownSpec.post enc Tryz.prog Tryz.f9 false true false false) := by
  refine returnsInHanded_of_change_and (C := Tryz.checked) (X := fun w _ => laidMetH Tryz.prog laidL w) (fun _ _ _ hh h => h.of_heap hh) own started (by kernel_rfl) Tryz.func9
    (ChangeSpec.witness_shaped (enc := enc) (C := Tryz.checked) (os := os) (X := fun w _ => laidMetH Tryz.prog laidL w) false (World.laidAll Tryz.prog os laidL) #[.string ⟨#[]⟩, .agg #[.string ⟨#[]⟩, .string ⟨#[]⟩, .slice none 0 0]] 8 (World.laidAll_os _ _ _)
      (World.shaped_of_ZipB (by kernel_rfl) (by kernel_rfl)) (by kernel_rfl) (by kernel_rfl) (by kernel_rfl)
      (by rw [MakeChecks.laidMetH_plain _ _ _ (by kernel_rfl)]; exact laidMet_laidAll _ (by kernel_rfl) (by kernel_rfl))) ?_
  intro W base args ds gs before hval0 hW hc hsz hL _
  have hval : ∀ (j : Nat) t v, Tryz.f9.params[j]? = some t → args[j]? = some v → Value.okWide Tryz.prog W .any base t v := hval0
  have hsz2 : (DataW.weightsEach Tryz.prog ([9, 24] ++ []) (ds ++ gs)).all (· ≤ reachBytes) = true := hsz
  have hW' := hW
  obtain ⟨p, q, hA0, hV, rfl, hfz, hnd⟩ := hW
  have hA : DataW.TrodAll enc Tryz.prog W 0 (fun _ => true) true Tryz.f9.params.toList args.toList ds p := hA0
  rw [params9] at hA
  obtain ⟨v0, v1, d0, d1, p0, p1, rfl, rfl, rfl, h0, h1⟩ := trodAll_two hA
  obtain ⟨rfl, rfl⟩ := trodVars_none hV
  obtain ⟨s0, rfl, rfl, rfl, -⟩ := Go.ChangeMaps.open_string underlying9 (hval 0 9 v0 rfl rfl) h0
  have hs0 : s0.size ≤ 140737488351232 := by
    have := List.all_eq_true.1 hsz2 s0.data.toList.length (DataW.weights_mem_each (j := 0) rfl rfl _ (by rw [weights_string]; exact List.mem_singleton.2 rfl))
    rw [Array.length_toList] at this
    exact of_decide_eq_true this
  obtain ⟨t1, a1, c1, rfl, ht1⟩ := open_tree (hval 1 24 v1 rfl rfl) h1 (fun n hn => by
    have := List.all_eq_true.1 hsz2 n (DataW.weights_mem_each (j := 1) rfl rfl n hn)
    simpa using this)
  refine (unknown_law s0 t1 a1 c1 W hs0 ht1 (tab_of_laid hL)).mono fun e W' ⟨he, hE⟩ => ?_
  subst he
  exact ⟨_, rfl, law_post params9 results9 (by kernel_rfl) rfl rfl hW' hE (by kernel_rfl)⟩
theorem said9 : Rows.FnUnknownSaid :=
  OpenClaim.holds_of_wide 9 Tryz.f9 rfl rfl rfl rfl rfl rfl rfl ⟨rfl, rfl, rfl, rfl, rfl⟩ rfl rfl rfl rfl rfl (by kernel_rfl) Tryz.func9 closed9
    (of_decide_eq_true (by kernel_rfl)) (by unfold Func.isWrapper; first | (rw [if_pos (by decide +kernel)]; kernel_rfl) | (rw [if_neg (by decide +kernel)]; exact ⟨rfl, rfl⟩))
    (fun os started H enc _ => lifted9 os started H enc)
theorem y9_wf : Rows.fnUnknownRow.wfByText (OpenSpec.ofChange Rows.fnUnknownSpec) = true := by kernel_rfl
theorem y9_goes : false = Rows.fnUnknownRow.goesBy Tryz.pinned.checked.prog := by kernel_rfl
theorem y9_stand : ([9, 24].all fun u => !Tryz.prog.wantsStandIn u) = true := by kernel_rfl
theorem y9_name : Tryz.prog.funcNamed "loop.example/pub-g03264/laws.FnUnknown" = some 9 := by kernel_rfl
theorem fnUnknown_holds : Rows.FnUnknownCardSaid :=
  Claim7.holds_tied_plain_at .later [] [.data, .listed, .data, .pinned, .pinned, .pinned] true (true, "45aed9cc55dc6d68f0b14cb90fd0a26ae0b24895b21d11b3721641f397322362") true said9 (fun _ h => by cases h) y9_wf (fun _ h => by cases h) fnUnknown_row_tie rfl ⟨rfl, rfl⟩ fMain rfl
    (fun f fn hf hfn => by
      obtain rfl : f = 9 := (Option.some.inj (y9_name.symm.trans hf)).symm
      obtain rfl : fn = Tryz.f9 := (Option.some.inj (Tryz.func9.symm.trans hfn)).symm
      exact ⟨fLooks, fun j t ht => by
        have hm : t ∈ [9, 24] := by rw [← params9]; simpa using Array.mem_of_getElem? ht
        exact (show Tryz.prog.wantsStandIn t = false by simpa using List.all_eq_true.1 y9_stand t hm)⟩)
    y9_goes
#print axioms fnUnknown_holds
end Go.Proofs.YtigalkobmfbdaaaGreatDoor
