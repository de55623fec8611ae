/- (List nil nil) is the empty list. No condition of its own: for every input. The tables of Go's library that the row lists are tied to the program's text. -/
import Derived.Test.YtigalkobmfbdaaaGreatDoorFactsZ1
import Derived.Test.YtigalkobmfbdaaaGreatDoorLaw12Z1
set_option linter.unusedVariables false
set_option linter.unusedSimpArgs false
namespace Go.Proofs.YtigalkobmfbdaaaGreatDoor
open Go.ChangeShapes Go.WideShapes Go.ChangeAt Go.RowKit
set_option maxRecDepth 100000 in
theorem open_syns {H : Type} {enc : TypeId × Value → H} {W : World} {r : Reach} {b0 : Nat} {v : Value} {d : DataW H} {p : List MemPlace} (hval : Value.okWide Tryz.prog W r b0 50 v) (h : DataW.Trod enc Tryz.prog W 0 (fun _ => true) true 50 v d p) (hw : ∀ n ∈ d.weights Tryz.prog 50, n ≤ reachBytes) :
    ∃ (ks : List Syn) (a : Option Addr) (c : Nat), v = .slice a ks.length c ∧ ks.length ≤ c ∧ c ≤ 140737488351232 ∧ SynsIn (LiveIn W) W a ks := by
  obtain ⟨a0, len0, cap0, rfl⟩ := okWide_slice under50 hval
  obtain ⟨fuel, hf⟩ := h
  replace hf : DataW.trod enc Tryz.prog W 0 (fun _ => true) true fuel 50 [.slice a0 len0 cap0] = some (d, p) := hf
  rcases DataW.trod_slice under50 hf with ⟨e4, -⟩ | ⟨a, len, cap, elems, rest, m, -, e4, e5, -, hle, -, hel, helt, hsp, -⟩
  · simp at e4
    obtain ⟨rfl, rfl, rfl⟩ := e4
    exact ⟨[], none, 0, rfl, Nat.le_refl _, by omega, trivial⟩
  · simp at e4
    obtain ⟨rfl, rfl, rfl⟩ := e4
    obtain ⟨rfl, -⟩ := Prod.mk.inj e5
    have hw4 : ∀ n ∈ (elems.length + rest.length) * 72 :: (DataW.weightsAll Tryz.prog 52 (elems.map (·.1)) ++ DataW.weightsAll Tryz.prog 52 (rest.map (·.1))), n ≤ reachBytes := by
      intro n hn
      refine hw n ?_
      unfold DataW.weights
      rw [under50]
      simp only [bytes52, List.length_map]
      exact hn
    have hcap' : cap0 ≤ 140737488351232 := by
      have h1 := hw4 _ (List.mem_cons_self ..)
      have h2 := (hsp rfl).1
      have h3 : reachBytes = 140737488351232 := rfl
      omega
    obtain ⟨b, o, sp⟩ := a
    have key : ∀ i, i < len0 → ∃ (t : Syn) (a' : Option Addr) (c' : Nat), W.cells? 0 ((⟨b, o, sp⟩ : Addr).add (i * 5)) 5 = some [.string t.kind, .bool t.null, .string t.text, .int .i64 t.num, .slice a' t.kids.length c'] ∧ SynIn (LiveIn W) W a' c' t := by
      intro i hi
      have hE := helt i hi
      rw [cells52, List.getElem?_eq_getElem (by omega)] at hE
      obtain ⟨cs', h1, h2⟩ := Option.bind_eq_some_iff.1 hE
      obtain ⟨t, a', c', rfl, ht⟩ := syn_of_trod (m + 1) m (Nat.lt_succ_self _) h2 (fun n hn => hw4 n (List.mem_cons_of_mem _ (List.mem_append_left _ (weightsAll_mem hn (List.mem_map.2 ⟨_, List.getElem_mem _, rfl⟩)))))
      exact ⟨t, a', c', h1, ht⟩
    by_cases h0 : len0 = 0
    · subst h0
      exact ⟨[], some ⟨b, o, sp⟩, cap0, rfl, Nat.zero_le _, hcap', trivial⟩
    · have hsp : sp = none := by
        obtain ⟨t, a', c', h1, -⟩ := key 0 (by omega)
        obtain ⟨-, -, hc⟩ := World.cells?_some h1
        have := hc 0 (by omega)
        simpa [Addr.add] using World.cell?_spot this
      subst hsp
      obtain ⟨ts, hts, hk⟩ := syns_of_cells (W := W) (b := b) len0 o (fun i hi => by
        obtain ⟨t, a', c', h1, ht⟩ := key i hi
        obtain ⟨-, -, hc⟩ := World.cells?_some h1
        rw [add_plain] at hc
        have q0 := hc 0 (by omega)
        have q1 := hc 1 (by omega)
        have q2 := hc 2 (by omega)
        have q3 := hc 3 (by omega)
        have q4 := hc 4 (by omega)
        rw [add_plain] at q0 q1 q2 q3 q4
        exact ⟨t, a', c', q0, q1, q2, q3, q4, ht⟩)
      subst hts
      exact ⟨ts, some ⟨b, o, none⟩, cap0, rfl, hle, hcap', hk⟩
theorem params12 : Tryz.f12.params.toList = [50, 4] := by kernel_rfl
theorem results12 : Tryz.f12.resultTypes.toList = [4] := by kernel_rfl
theorem x12_9 : (Rows.fnEmptyRow.inPlace == Tryz.prog.inPlace 12) = true := by kernel_rfl
theorem x12_10 : (Rows.fnEmptyRow.unfollowed == Tryz.prog.unfollowed 12) = true := by kernel_rfl
theorem x12_11 : (Rows.fnEmptyRow.recurses == Tryz.prog.recurses 12) = true := by kernel_rfl
theorem x12_12 : (Rows.fnEmptyRow.named == Tryz.prog.varsNamed 12) = true := by kernel_rfl
theorem closed12 : joinedFacts Tryz.pinned.checked.prog 12 Tryz.f12 Rows.fnEmptySpec Rows.fnEmptyRow = true :=
  joined_of (f := 12) (fn := Tryz.f12) (s := Rows.fnEmptySpec) (c := Rows.fnEmptyRow) (by kernel_rfl) (by kernel_rfl) (by kernel_rfl) (by kernel_rfl) (by kernel_rfl) x12_9 x12_10 x12_11 x12_12 (by kernel_rfl) (by kernel_rfl) (by kernel_rfl) (by kernel_rfl) (by kernel_rfl) (by kernel_rfl) (by kernel_rfl) (by kernel_rfl) (by kernel_rfl) rfl (by kernel_rfl) rfl rfl (by kernel_rfl) (by kernel_rfl) (by kernel_rfl) (by kernel_rfl)
set_option maxRecDepth 100000 in
theorem lifted12 (os : Os) (started : os.Started) (H : Type) (enc : TypeId × Value → H) :
    ReturnsInHanded {} Tryz.checked os 12 .any (fun w args => (Rows.fnEmptySpec.pre enc Tryz.prog Tryz.f12 Rows.fnEmptyRow.domain false w args ∧ laidMetH Tryz.prog laidL w) ∧ sizedMet enc Tryz.prog Tryz.f12 (OpenSpec.ofChange Rows.fnEmptySpec) false w args)
      (Rows.fnEmptySpec.post enc Tryz.prog Tryz.f12 false true false false) := by
  refine returnsInHanded_of_change_and (C := Tryz.checked) (X := fun w _ => laidMetH Tryz.prog laidL w) (fun _ _ _ hh h => h.of_heap hh) own started (by kernel_rfl) Tryz.func12
    (ChangeSpec.witness_shaped (enc := enc) (C := Tryz.checked) (os := os) (X := fun w _ => laidMetH Tryz.prog laidL w) false (World.laidAll Tryz.prog os laidL) #[.slice none 0 0, .bool false] 8 (World.laidAll_os _ _ _)
      (World.shaped_of_ZipB (by kernel_rfl) (by kernel_rfl)) (by kernel_rfl) (by kernel_rfl) (by kernel_rfl)
      (by rw [MakeChecks.laidMetH_plain _ _ _ (by kernel_rfl)]; exact laidMet_laidAll _ (by kernel_rfl) (by kernel_rfl))) ?_
  intro W base args ds gs before hval0 hW hc hsz hL _
  have hval : ∀ (j : Nat) t v, Tryz.f12.params[j]? = some t → args[j]? = some v → Value.okWide Tryz.prog W .any base t v := hval0
  have hsz2 : (DataW.weightsEach Tryz.prog ([50, 4] ++ []) (ds ++ gs)).all (· ≤ reachBytes) = true := hsz
  have hW' := hW
  obtain ⟨p, q, hA0, hV, rfl, hfz, hnd⟩ := hW
  have hA : DataW.TrodAll enc Tryz.prog W 0 (fun _ => true) true Tryz.f12.params.toList args.toList ds p := hA0
  rw [params12] at hA
  obtain ⟨v0, v1, d0, d1, p0, p1, rfl, rfl, rfl, h0, h1⟩ := trodAll_two hA
  obtain ⟨rfl, rfl⟩ := trodVars_none hV
  obtain ⟨t0, a0, c0, rfl, ht0⟩ := open_syns (hval 0 50 v0 rfl rfl) h0 (fun n hn => by
    have := List.all_eq_true.1 hsz2 n (DataW.weights_mem_each (j := 0) rfl rfl n hn)
    simpa using this)
  obtain ⟨b1, rfl, rfl, rfl⟩ := open_bool (by kernel_rfl) (hval 1 4 v1 rfl rfl) h1
  refine (empty_law t0 a0 c0 b1 W ht0 (tab_of_laid hL)).mono fun e W' ⟨he, hE⟩ => ?_
  subst he
  exact ⟨_, rfl, law_post params12 results12 (by kernel_rfl) rfl rfl hW' hE (by kernel_rfl)⟩
theorem said12 : Rows.FnEmptySaid :=
  OpenClaim.holds_of_wide 12 Tryz.f12 rfl rfl rfl rfl rfl rfl rfl ⟨rfl, rfl, rfl, rfl, rfl⟩ rfl rfl rfl rfl rfl (by kernel_rfl) Tryz.func12 closed12
    (of_decide_eq_true (by kernel_rfl)) (by unfold Func.isWrapper; first | (rw [if_pos (by decide +kernel)]; kernel_rfl) | (rw [if_neg (by decide +kernel)]; exact ⟨rfl, rfl⟩))
    (fun os started H enc _ => lifted12 os started H enc)
theorem y12_wf : Rows.fnEmptyRow.wfByText (OpenSpec.ofChange Rows.fnEmptySpec) = true := by kernel_rfl
theorem y12_goes : false = Rows.fnEmptyRow.goesBy Tryz.pinned.checked.prog := by kernel_rfl
theorem y12_stand : ([50, 4].all fun u => !Tryz.prog.wantsStandIn u) = true := by kernel_rfl
theorem y12_name : Tryz.prog.funcNamed "loop.example/pub-g03264/laws.FnEmpty" = some 12 := by kernel_rfl
theorem fnEmpty_holds : Rows.FnEmptyCardSaid :=
  Claim7.holds_tied_plain_at .later [] [.data, .listed, .data, .pinned, .pinned, .pinned] true (true, "45aed9cc55dc6d68f0b14cb90fd0a26ae0b24895b21d11b3721641f397322362") true said12 (fun _ h => by cases h) y12_wf (fun _ h => by cases h) fnEmpty_row_tie rfl ⟨rfl, rfl⟩ fMain rfl
    (fun f fn hf hfn => by
      obtain rfl : f = 12 := (Option.some.inj (y12_name.symm.trans hf)).symm
      obtain rfl : fn = Tryz.f12 := (Option.some.inj (Tryz.func12.symm.trans hfn)).symm
      exact ⟨fLooks, fun j t ht => by
        have hm : t ∈ [50, 4] := by rw [← params12]; simpa using Array.mem_of_getElem? ht
        exact (show Tryz.prog.wantsStandIn t = false by simpa using List.all_eq_true.1 y12_stand t hm)⟩)
    y12_goes
#print axioms fnEmpty_holds
end Go.Proofs.YtigalkobmfbdaaaGreatDoor
