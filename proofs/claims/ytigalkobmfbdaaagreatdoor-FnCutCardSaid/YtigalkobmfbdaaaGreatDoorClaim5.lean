/- FnCut: a pattern that is cut, or has another one behind it, is refused. No condition of its own: for every input. The tables of Go's library that the row lists are tied to the program's text. -/
import Derived.Test.YtigalkobmfbdaaaGreatDoorFacts
import Derived.Test.YtigalkobmfbdaaaGreatDoorLaw5
set_option linter.unusedVariables false
set_option linter.unusedSimpArgs false
namespace Go.Proofs.YtigalkobmfbdaaaGreatDoor
open Go.ChangeShapes Go.WideShapes Go.ChangeAt Go.RowKit
theorem params5 : Tryz.f5.params.toList = [24, 43, 4] := by kernel_rfl
theorem results5 : Tryz.f5.resultTypes.toList = [4] := by kernel_rfl
theorem x5_9 : (Rows.fnCutRow.inPlace == Tryz.prog.inPlace 5) = true := by kernel_rfl
theorem x5_10 : (Rows.fnCutRow.unfollowed == Tryz.prog.unfollowed 5) = true := by kernel_rfl
theorem x5_11 : (Rows.fnCutRow.recurses == Tryz.prog.recurses 5) = true := by kernel_rfl
theorem x5_12 : (Rows.fnCutRow.named == Tryz.prog.varsNamed 5) = true := by kernel_rfl
theorem closed5 : joinedFacts Tryz.pinned.checked.prog 5 Tryz.f5 Rows.fnCutSpec Rows.fnCutRow = true :=
  joined_of (f := 5) (fn := Tryz.f5) (s := Rows.fnCutSpec) (c := Rows.fnCutRow) (by kernel_rfl) (by kernel_rfl) (by kernel_rfl) (by kernel_rfl) (by kernel_rfl) x5_9 x5_10 x5_11 x5_12 (by kernel_rfl) (by kernel_rfl) (by kernel_rfl) (by kernel_rfl) (by kernel_rfl) (by kernel_rfl) (by kernel_rfl) (by kernel_rfl) (by kernel_rfl) rfl (by kernel_rfl) rfl rfl (by kernel_rfl) (by kernel_rfl) (by kernel_rfl) (by kernel_rfl)
set_option maxRecDepth 100000 in
theorem lifted5 (os : Os) (started : os.Started) (H : Type) (enc : TypeId × Value → H) :
    ReturnsInHanded {} Tryz.checked os 5 .any (fun w args => (Rows.fnCutSpec.pre enc Tryz.prog Tryz.f5 Rows.fnCutRow.domain false w args ∧ laidMetH Tryz.prog laidL w) ∧ sizedMet enc Tryz.prog Tryz.f5 (OpenSpec.ofChange Rows.fnCutSpec) false w args)
      (Rows.fnCutSpec.post enc Tryz.prog Tryz.f5 false true false false) := by
  refine returnsInHanded_of_change_and (C := Tryz.checked) (X := fun w _ => laidMetH Tryz.prog laidL w) (fun _ _ _ hh h => h.of_heap hh) own started (by kernel_rfl) Tryz.func5
    (ChangeSpec.witness_shaped (enc := enc) (C := Tryz.checked) (os := os) (X := fun w _ => laidMetH Tryz.prog laidL w) false (World.laidAll Tryz.prog os laidL) #[.agg #[.string ⟨#[]⟩, .string ⟨#[]⟩, .slice none 0 0], .int .u16 0, .bool false] 8 (World.laidAll_os _ _ _)
      (World.shaped_of_ZipB (by kernel_rfl) (by kernel_rfl)) (by kernel_rfl) (by kernel_rfl) (by kernel_rfl)
      (by rw [MakeChecks.laidMetH_plain _ _ _ (by kernel_rfl)]; exact laidMet_laidAll _ (by kernel_rfl) (by kernel_rfl))) ?_
  intro W base args ds gs before hval0 hW hc hsz hL _
  have hval : ∀ (j : Nat) t v, Tryz.f5.params[j]? = some t → args[j]? = some v → Value.okWide Tryz.prog W .any base t v := hval0
  have hsz2 : (DataW.weightsEach Tryz.prog ([24, 43, 4] ++ []) (ds ++ gs)).all (· ≤ reachBytes) = true := hsz
  have hW' := hW
  obtain ⟨p, q, hA0, hV, rfl, hfz, hnd⟩ := hW
  have hA : DataW.TrodAll enc Tryz.prog W 0 (fun _ => true) true Tryz.f5.params.toList args.toList ds p := hA0
  rw [params5] at hA
  obtain ⟨v0, v1, v2, d0, d1, d2, p0, p1, p2, rfl, rfl, rfl, h0, h1, h2⟩ := trodAll_three hA
  obtain ⟨rfl, rfl⟩ := trodVars_none hV
  obtain ⟨t0, a0, c0, rfl, ht0⟩ := open_tree (hval 0 24 v0 rfl rfl) h0 (fun n hn => by
    have := List.all_eq_true.1 hsz2 n (DataW.weights_mem_each (j := 0) rfl rfl n hn)
    simpa using this)
  obtain ⟨b1, rfl, rfl, rfl, wf1⟩ := open_int (k := .u16) (by kernel_rfl) (hval 1 43 v1 rfl rfl) h1
  obtain ⟨b2, rfl, rfl, rfl⟩ := open_bool (by kernel_rfl) (hval 2 4 v2 rfl rfl) h2
  refine (cut_law t0 a0 c0 b1 b2 W ht0 wf1 (tab_of_laid hL)).mono fun e W' ⟨he, hE⟩ => ?_
  subst he
  exact ⟨_, rfl, law_post params5 results5 (by kernel_rfl) rfl rfl hW' hE (by kernel_rfl)⟩
theorem said5 : Rows.FnCutSaid :=
  OpenClaim.holds_of_wide 5 Tryz.f5 rfl rfl rfl rfl rfl rfl rfl ⟨rfl, rfl, rfl, rfl, rfl⟩ rfl rfl rfl rfl rfl (by kernel_rfl) Tryz.func5 closed5
    (of_decide_eq_true (by kernel_rfl)) (by unfold Func.isWrapper; first | (rw [if_pos (by decide +kernel)]; kernel_rfl) | (rw [if_neg (by decide +kernel)]; exact ⟨rfl, rfl⟩))
    (fun os started H enc _ => lifted5 os started H enc)
theorem y5_wf : Rows.fnCutRow.wfByText (OpenSpec.ofChange Rows.fnCutSpec) = true := by kernel_rfl
theorem y5_goes : false = Rows.fnCutRow.goesBy Tryz.pinned.checked.prog := by kernel_rfl
theorem y5_stand : ([24, 43, 4].all fun u => !Tryz.prog.wantsStandIn u) = true := by kernel_rfl
theorem y5_name : Tryz.prog.funcNamed "loop.example/pub-g03264/laws.FnCut" = some 5 := by kernel_rfl
theorem fnCut_holds : Rows.FnCutCardSaid :=
  Claim7.holds_tied_plain_at .later [] [.data, .listed, .data, .pinned, .pinned, .pinned] true (true, "45aed9cc55dc6d68f0b14cb90fd0a26ae0b24895b21d11b3721641f397322362") true said5 (fun _ h => by cases h) y5_wf (fun _ h => by cases h) fnCut_row_tie rfl ⟨rfl, rfl⟩ fMain rfl
    (fun f fn hf hfn => by
      obtain rfl : f = 5 := (Option.some.inj (y5_name.symm.trans hf)).symm
      obtain rfl : fn = Tryz.f5 := (Option.some.inj (Tryz.func5.symm.trans hfn)).symm
      exact ⟨fLooks, fun j t ht => by
        have hm : t ∈ [24, 43, 4] := by rw [← params5]; simpa using Array.mem_of_getElem? ht
        exact (show Tryz.prog.wantsStandIn t = false by simpa using List.all_eq_true.1 y5_stand t hm)⟩)
    y5_goes
#print axioms fnCut_holds
end Go.Proofs.YtigalkobmfbdaaaGreatDoor
