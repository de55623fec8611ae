/- impl.Parse: where it refuses; and both ways joined with what is read. -/
import Derived.Test.YtigalkobmfbdaaaGreatDoorImp1
import Derived.Test.YtigalkobmfbdaaaGreatDoorRead3
import Derived.Test.YtigalkobmfbdaaaGreatDoorPlain7
set_option linter.unusedVariables false
set_option linter.unusedSimpArgs false
namespace Go.Proofs.YtigalkobmfbdaaaGreatDoor
open Go.RowKit Go.WideMaps Go.Sort
set_option maxRecDepth 100000 in
set_option maxHeartbeats 4000000 in
theorem impl_err {al : Bool} {inp : ByteArray} {w : World}
    (h : Calls Tryz.prog 55 #[.string inp, .bool al] (w.alloc (.cells zeros34 34)) fun e w' => e = .returned (.tuple #[patZ, .bool false]) ∧ Ext (w.alloc (.cells zeros34 34)) w') :
    Calls Tryz.prog 24 #[.string inp, .bool al] w fun e w' => e = .returned (.tuple #[.agg zeros34, .bool false]) ∧ Ext w w' := by
  have H := Lib.hid h
  clear h
  go_enter Tryz.func24, Tryz.ntmps24
  go_wp2_with fail
  refine H.out.mono ?_
  rintro e w2 ⟨rfl, hE⟩
  have hR := (Blk.new w zeros34 34).ext hE
  have fR := hR.frozen
  have lR := hR.lt
  have cR := Blk9 hR
  have KR2 := Lib.hid hR
  have HE := Lib.hid hE
  clear hR hE
  go_wp2_with fail
  have hXF := ExtM.set9 w2 w.heap.size (.string ⟨#[]⟩) (.string ⟨#[]⟩) (.slice none 0 0) (.slice none 0 0) (.string ⟨#[]⟩) (.string ⟨#[]⟩) (.slice none 0 0) (.slice none 0 0) (.slice none 0 0)
  have hBF := (KR2.out.set9 (.string ⟨#[]⟩) (.string ⟨#[]⟩) (.slice none 0 0) (.slice none 0 0) (.string ⟨#[]⟩) (.string ⟨#[]⟩) (.slice none 0 0) (.slice none 0 0) (.slice none 0 0)).ext (Ext.alloc _ (.cells #[.nilIface, .slice none 0 0, .nilIface, .slice none 0 0, .slice none 0 0] 81))
  refine bodyPost_ret (results_ct rfl _ _ w.heap.size 34 zeros34 rfl hBF row34 size34) rfl ?_
  exact ⟨rfl, (hXF.toExt HE.out.of_alloc (fun i hi e => by omega)).trans (Ext.alloc _ _)⟩
abbrev anyT : Tree := .mk ⟨#[65, 110, 121]⟩ noT []
theorem TabAt.one {w : World} (h : TabAt w) : 1 < w.heap.size := by
  have := cell_lt (h 0 (by decide)); simpa using this
/-- impl.Parse of a text that is read as a pattern without symbols. -/
theorem parse_plain {al : Bool} {inp : ByteArray} {n : PN} {nm E : Names} (hR : Reads al inp (some (n, nm))) (hs : inp.size ≤ 1000) (hp : plainN n = true) (hcnt : n.cnt ≤ 900) (hE : entryN n [] = some E) (hnd : nm.Nodup) (hok : okN n = true) (htm : tame (toTree n) = true) (hk : kinds (toTree n)) (hnul : n.isNul = false) (hcc : count (toTree n) ≤ 1000) (hnl : nm.length ≤ 1000)
    (hcall : ∀ ks, n = .struct ⟨#[67, 97, 108, 108, 69, 120, 112, 114]⟩ ks → ks ≠ []) {w : World} (hT : TabAt w) :
    Calls Tryz.prog 24 #[.string inp, .bool al] w fun e w' => WholeRes w.heap.size (toTree n) anyT (E.mergeSort fun x y => decide (x ≤ y)) nm [] e w' ∧ Ext w w' := by
  obtain ⟨R, f, hf, hM, hP⟩ := hR
  obtain ⟨hEd, hEl⟩ := entryN_fit hE
  have hsym : SymsOf n .any := fun X v w hv => (sym_calls hp (by omega) X v w hv hp).mono fun e w' ⟨he, hx⟩ => ⟨⟨anyV, he, by rw [NodeAt]⟩, hx⟩
  have hroot : RootsOf n [] := by
    intro X v w hv
    have fin : ∀ {v : Value}, (Calls Tryz.prog 91 #[v] w fun e w' => e = .returned (.slice none 0 0) ∧ Ext w w') → Calls Tryz.prog 91 #[v] w fun e w' => (∃ a c, e = .returned (.slice a ([] : Syms).length c) ∧ ([] : Syms).length ≤ c ∧ IdxAt w' a [] ∧ ∀ b o, a = some ⟨b, o, none⟩ → w.heap.size ≤ b) ∧ Ext w w' := fun h => h.mono fun e w' ⟨he, hx⟩ => ⟨⟨none, 0, he, Nat.le_refl _, fun j hj => absurd hj (by simp), fun b o e => by cases e⟩, hx⟩
    cases hc : noCall n with
    | true => exact fin (roots_other hv hc)
    | false =>
      cases n with
      | struct k ks =>
        simp only [noCall, Bool.not_eq_eq_eq_not, Bool.not_false] at hc
        obtain rfl := beq_lit hc
        have hne := hcall ks rfl
        cases ks with
        | nil => exact absurd rfl hne
        | cons m ms =>
          rw [NodeAt] at hv
          obtain ⟨a, c, rfl, -, hks⟩ := hv
          rw [plainN, plainNs, Bool.and_eq_true, Bool.and_eq_true] at hp
          exact fin (roots_call hks hp.2.1)
      | _ => simp [noCall] at hc
  have hns : ∀ nm ks, n = .struct nm ks → (nm.toList == [83, 121, 109, 98, 111, 108]) = false := fun nm ks e => by
    subst e
    rw [plainN, Bool.and_eq_true, Bool.not_eq_true'] at hp
    exact hp.1
  have hl : (E.mergeSort fun x y => decide (x ≤ y)).length = E.length := List.length_mergeSort _
  refine impl_ok (n := n) (sym := .any) (cl := []) (tree_calls hok) (tree_leaf (.inr (.inl rfl))) hcc (by rw [toTree]; decide) htm (by rw [toTree]; decide +kernel) (by omega) (by omega) (by decide) hnul rfl hk (by rw [toTree, kinds, kindsAll]; trivial) ?_
  have hT2 : TabAt (w.alloc (.cells zeros34 34)) := hT.toExt (Ext.alloc _ _)
  refine (read_ok hf hs hM hP hnd hsym hroot (entry_all (n.cnt + 1) n (Nat.lt_succ_self _) (by omega) htm) hE (by omega) (by omega) hEd hnul hns hT2.one hT2).mono ?_
  rintro e w' ⟨⟨rv, sv, ea, ec, ca, cc, ba, bc, rfl, h1, h2, h3, h4, h5, l1, l2, l3⟩, hx⟩
  refine ⟨⟨rv, sv, ea, ec, ca, cc, ba, bc, by rw [hl], h1.imp fun b hb _ => by simp at hb; omega, h2.imp fun b hb _ => by simp at hb; omega, h3, h4, h5, by omega, l2, l3⟩, hx⟩
/-- impl.Parse of a text that is not read. -/
theorem parse_no {al : Bool} {inp : ByteArray} (hR : 1000 < inp.size ∨ Reads al inp none) {w : World} (hT : TabAt w) :
    Calls Tryz.prog 24 #[.string inp, .bool al] w fun e w' => e = .returned (.tuple #[.agg zeros34, .bool false]) ∧ Ext w w' := by
  have hT2 : TabAt (w.alloc (.cells zeros34 34)) := hT.toExt (Ext.alloc _ _)
  refine impl_err ?_
  by_cases hs : 1000 < inp.size
  · exact read_long hs
  · rcases hR with h | ⟨R, f, hf, hM, hP⟩
    · exact absurd h hs
    · exact read_err hf (by omega) hM hP hT2.one hT2
/-- impl.Parse of a pattern's text. -/
theorem parse_good {al : Bool} {s : Int} {t : Tree} {c : Int} {E : Names} (hg : good t c = true) (hk : nodeKind t = true) (hn : count t ≤ 60) (hz : (text s t).size ≤ 1000) (hE : entryN (toPN t []).1 [] = some E) {w : World} (hT : TabAt w) :
    Calls Tryz.prog 24 #[.string (text s t), .bool al] w fun e w' => WholeRes w.heap.size t anyT (E.mergeSort fun x y => decide (x ≤ y)) (namesT t) [] e w' ∧ Ext w w' := by
  obtain ⟨f1, f2, f3, f4⟩ := toPN_fit t c hg []
  obtain ⟨e1, e2⟩ := toTree_toPN t c hg []
  have hl := namesT_len t
  have := parse_plain (reads_good (s := s) al hg hk hn) hz (toPN_plain t c hg []) (by omega) hE (namesT_nodup t) f1 (by rw [e1]; exact good_tame t c hg) (by rw [e1]; exact f4) e2 (by rw [e1]; omega) (by omega) (fun ks e => by
    rintro rfl
    rw [e, toTree, toTrees] at e1
    subst e1
    rcases good_node_kind hg (by simp only [toList_mk]; decide) (by simp only [toList_mk]; decide) (by simp only [toList_mk]; decide) (by simp only [toList_mk]; decide) (by simp only [toList_mk]; decide) with ⟨e, -⟩ | ⟨e, -⟩ | ⟨-, e⟩
    · exact absurd e (by decide)
    · exact absurd e (by decide)
    · exact absurd e (by decide +kernel)) hT
  rwa [e1] at this
end Go.Proofs.YtigalkobmfbdaaaGreatDoor
