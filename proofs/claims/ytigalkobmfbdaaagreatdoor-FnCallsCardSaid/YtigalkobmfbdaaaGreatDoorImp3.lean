/- impl.Parse of a call of a symbol. -/
import Derived.Test.YtigalkobmfbdaaaGreatDoorRoot2
import Derived.Test.YtigalkobmfbdaaaGreatDoorImp2
set_option linter.unusedVariables false
set_option linter.unusedSimpArgs false
namespace Go.Proofs.YtigalkobmfbdaaaGreatDoor
open Go.RowKit Go.WideMaps Go.Sort
theorem Blk.third (w : World) (A B : Obj) (cs : Array Value) (t : TypeId) : Blk (((w.alloc A).alloc B).alloc (.cells cs t)) (w.heap.size + 1 + 1) cs t := by
  have := Blk.new ((w.alloc A).alloc B) cs t
  simpa using this
set_option maxRecDepth 100000 in
set_option maxHeartbeats 4000000 in
theorem tree_index {p t i : ByteArray} : TreeC (.index p t i) := by
  intro X v w hv ht hcn
  rw [NodeAt] at hv
  subst hv
  rw [toTree] at ht ⊢
  obtain ⟨-, -, htk⟩ := tame_parts ht
  simp only [tameAll, Bool.and_true, Bool.and_eq_true] at htk
  have h1 : p.size ≤ 140737488351232 := by have := (tame_parts htk.1).2.1; omega
  have h2 : t.size ≤ 140737488351232 := by have := (tame_parts htk.2.1).2.1; omega
  have h3 : i.size ≤ 140737488351232 := by have := (tame_parts htk.2.2).2.1; omega
  have HS3 := Lib.hid (And.intro h1 (And.intro h2 h3))
  clear ht hcn htk h1 h2 h3
  obtain ⟨t1, t2, t3, t4, t5, t6, t7, t8, t9, t10, t11, t12⟩ := ta_87 (.agg #[.string p, .string t, .string i])
  have HW : Hid (Ext w ((w.alloc (.cells #[.string ⟨#[]⟩, .string ⟨#[]⟩, .slice none 0 0] 24)).alloc (.cells #[.string p, .string t, .string i] 87)).drew) := Lib.hid (((Ext.alloc _ _).trans (Ext.alloc _ _)).trans (Ext.drew _))
  have HB : Hid (Blk ((w.alloc (.cells #[.string ⟨#[]⟩, .string ⟨#[]⟩, .slice none 0 0] 24)).alloc (.cells #[.string p, .string t, .string i] 87)).drew w.heap.size #[.string ⟨#[]⟩, .string ⟨#[]⟩, .slice none 0 0] 24) := Lib.hid (((Blk.new _ _ _).ext (Ext.alloc _ _)).ext (Ext.drew _))
  have HS : Hid (((w.alloc (.cells #[.string ⟨#[]⟩, .string ⟨#[]⟩, .slice none 0 0] 24)).alloc (.cells #[.string p, .string t, .string i] 87)).drew.heap.size = w.heap.size + 2) := Lib.hid (by simp)
  obtain ⟨s0, s1, s2⟩ := Blk3 (Blk.second w (.cells #[.string ⟨#[]⟩, .string ⟨#[]⟩, .slice none 0 0] 24) #[.string p, .string t, .string i] 87)
  go_enter Tryz.func56, Tryz.ntmps56
  go_wp2_with fail
  go_region_held3 (fun w' => w'.cell? ⟨w.heap.size + 1, 0, none⟩ = some (.string p) ∧ w'.cell? ⟨w.heap.size + 1, 1, none⟩ = some (.string t) ∧ w'.cell? ⟨w.heap.size + 1, 2, none⟩ = some (.string i)) (go_keep)
    (first
      | (go_at_call 75; have h9 := HTb; refine (strT_calls i HS3.out.2.2 _).mono ?_; rintro e wc ⟨rfl, hEc⟩; have k0c := hEc.keep k0b; have k1c := hEc.keep k1b; have k2c := hEc.keep k2b; have HB1 := HB.out.ext (HTb.out.trans hEc); have fb := HB1.frozen; have lb := HB1.lt; have cb := Blk3 HB1; have HTc := Lib.hid (And.intro (HTb.out.trans hEc) HB1); clear hEc HB1 h9)
      | (go_at_call 75; have h9 := HTa; refine (strT_calls t HS3.out.2.1 _).mono ?_; rintro e wb ⟨rfl, hEb⟩; have k0b := hEb.keep k0a; have k1b := hEb.keep k1a; have k2b := hEb.keep k2a; have HTb := Lib.hid (HTa.out.trans hEb); clear hEb h9)
      | (go_at_call 75; refine (strT_calls p HS3.out.1 _).mono ?_; rintro e wa ⟨rfl, hEa⟩; have k0a := hEa.keep ((Ext.drew _).keep s0); have k1a := hEa.keep ((Ext.drew _).keep s1); have k2a := hEa.keep ((Ext.drew _).keep s2); have HTa := Lib.hid hEa; clear hEa))
  go_wp2_with fail
  have hX : ExtM (· = w.heap.size) wc (((wc.setCell ⟨w.heap.size, 0, none⟩ (.string ⟨#[73, 110, 100, 101, 120, 83, 121, 109, 98, 111, 108]⟩)).setCell ⟨w.heap.size, 1, none⟩ (.string ⟨#[]⟩)).setCell ⟨w.heap.size, 2, none⟩ (.slice (some ⟨wc.heap.size, 0, none⟩) 3 3)) := (((ExtM.refl _ wc).set1 0 _).set1 1 _).set1 2 _
  refine bodyPost_ret (results_c rfl _ _ w.heap.size 24 #[.string ⟨#[73, 110, 100, 101, 120, 83, 121, 109, 98, 111, 108]⟩, .string ⟨#[]⟩, .slice (some ⟨wc.heap.size, 0, none⟩) 3 3] rfl ?_ row24 size24) rfl ?_
  · exact (((HTc.out.2.set 0 _).set 1 _).set 2 _).ext (Ext.alloc _ _)
  have hnew : Blk ((((wc.setCell ⟨w.heap.size, 0, none⟩ (.string ⟨#[73, 110, 100, 101, 120, 83, 121, 109, 98, 111, 108]⟩)).setCell ⟨w.heap.size, 1, none⟩ (.string ⟨#[]⟩)).setCell ⟨w.heap.size, 2, none⟩ (.slice (some ⟨wc.heap.size, 0, none⟩) 3 3)).alloc (.cells #[.string ⟨#[83, 116, 114, 105, 110, 103]⟩, .string p, .slice none 0 0, .string ⟨#[83, 116, 114, 105, 110, 103]⟩, .string t, .slice none 0 0, .string ⟨#[83, 116, 114, 105, 110, 103]⟩, .string i, .slice none 0 0] 24)) wc.heap.size #[.string ⟨#[83, 116, 114, 105, 110, 103]⟩, .string p, .slice none 0 0, .string ⟨#[83, 116, 114, 105, 110, 103]⟩, .string t, .slice none 0 0, .string ⟨#[83, 116, 114, 105, 110, 103]⟩, .string i, .slice none 0 0] 24 := by
    have := Blk.new (((wc.setCell ⟨w.heap.size, 0, none⟩ (.string ⟨#[73, 110, 100, 101, 120, 83, 121, 109, 98, 111, 108]⟩)).setCell ⟨w.heap.size, 1, none⟩ (.string ⟨#[]⟩)).setCell ⟨w.heap.size, 2, none⟩ (.slice (some ⟨wc.heap.size, 0, none⟩) 3 3)) #[.string ⟨#[83, 116, 114, 105, 110, 103]⟩, .string p, .slice none 0 0, .string ⟨#[83, 116, 114, 105, 110, 103]⟩, .string t, .slice none 0 0, .string ⟨#[83, 116, 114, 105, 110, 103]⟩, .string i, .slice none 0 0] 24
    simpa using this
  have hsz := HTc.out.1.size
  have hw0 : w.heap.size ≤ wc.heap.size := by rw [HS.out] at hsz; omega
  refine ⟨⟨some ⟨wc.heap.size, 0, none⟩, 3, rfl, ⟨⟨by decide, by decide⟩, Nat.le_refl _, ?_⟩⟩, ?_⟩
  · refine kidsIn_of_blk (l := [(strT p, none, 0), (strT t, none, 0), (strT i, none, 0)]) hw0 hnew ?_
    intro x hx
    simp at hx
    rcases hx with rfl | rfl | rfl
    · exact leafIn (by decide) HS3.out.1
    · exact leafIn (by decide) HS3.out.2.1
    · exact leafIn (by decide) HS3.out.2.2
  · exact ((((HW.out.trans HTc.out.1).setCell (Nat.le_refl _) _).setCell (Nat.le_refl _) _).setCell (Nat.le_refl _) _).trans (Ext.alloc _ _)
theorem roots_of_call {s p t i : ByteArray} (hs : SymI s p t i) (ns : List PN) : RootsOf (.struct ⟨#[67, 97, 108, 108, 69, 120, 112, 114]⟩ (symN s :: ns)) [(p, t, i)] := by
  intro X v w hv
  rw [NodeAt] at hv
  obtain ⟨a, c, rfl, -, hk⟩ := hv
  refine (roots_callN hs hk).mono ?_
  rintro e w' ⟨b, rfl, hB, hb, hE⟩
  refine ⟨⟨some ⟨b, 0, none⟩, 1, rfl, Nat.le_refl _, ?_, fun b' o' e => by cases e; exact hb⟩, hE⟩
  intro j hj
  obtain rfl : j = 0 := by simpa using hj
  have := Blk3 hB
  exact ⟨b, 0, rfl, this.1, this.2.1, this.2.2⟩
theorem syms_of_call {s p t i : ByteArray} (hs : SymI s p t i) {ns : List PN} (hp : plainNs ns = true) (hcnt : cntAll ns ≤ 90000) : SymsOf (.struct ⟨#[67, 97, 108, 108, 69, 120, 112, 114]⟩ (symN s :: ns)) (.index p t i) := by
  intro X v w hv
  have hl := cntAll_len ns
  refine (sym_callN hs (by simp only [toList_mk]; decide) (by simp only [toList_mk]; decide) hp (by omega) (by simp only [List.length_cons]; omega) hv).mono ?_
  rintro e w' ⟨rfl, hE⟩
  exact ⟨⟨_, rfl, by rw [NodeAt]⟩, hE⟩
abbrev idxT (p t i : ByteArray) : Tree := .mk ⟨#[73, 110, 100, 101, 120, 83, 121, 109, 98, 111, 108]⟩ noT [strT p, strT t, strT i]
theorem entry_call (ks : List PN) : entryN (.struct ⟨#[67, 97, 108, 108, 69, 120, 112, 114]⟩ ks) [] = some [[67, 97, 108, 108, 69, 120, 112, 114]] := by
  rw [entryN_struct, if_neg (by simp only [toList_mk]; decide), if_pos (by decide +kernel)]
  simp only [toList_mk, addName]
  rfl
/-- impl.Parse of a call of a symbol, with the pattern q as its arguments. -/
theorem parse_callT {x p t i : ByteArray} (hs : SymI x p t i) (hx : strB x.toList = true) (h40 : x.size ≤ 48) (hp40 : p.size ≤ 48) (ht40 : t.size ≤ 48) (hi40 : i.size ≤ 48) {q : Tree} {c : Int} (hg : good q c = true) (hn : count q ≤ 45) (hz : (text 0 (callT x q)).size ≤ 1000) {w : World} (hT : TabAt w) :
    Calls Tryz.prog 24 #[.string (text 0 (callT x q)), .bool true] w fun e w' => WholeRes w.heap.size (callT x q) (idxT p t i) [[67, 97, 108, 108, 69, 120, 112, 114]] (namesT q) [(p, t, i)] e w' ∧ Ext w w' := by
  obtain ⟨R, f, hf, hM, hP⟩ := reads_call hx hg (by omega)
  obtain ⟨f1, f2, f3, f4⟩ := toPN_fit q c hg []
  obtain ⟨e1, e2⟩ := toTree_toPN q c hg []
  have hl := namesT_len q
  have hpl := toPN_plain q c hg []
  have hgt := good_tame q c hg
  generalize (toPN q []).1 = m at *
  have eT : toTree (.struct ⟨#[67, 97, 108, 108, 69, 120, 112, 114]⟩ [symN x, m]) = callT x q := by simp only [toTree, toTrees, e1]
  have hcn : (PN.struct ⟨#[67, 97, 108, 108, 69, 120, 112, 114]⟩ [symN x, m]).cnt ≤ 900 := by simp only [PN.cnt, cntAll]; omega
  have htm : tame (callT x q) = true := by
    simp only [tame, tameAll, hgt, Bool.and_true, Bool.and_eq_true, decide_eq_true_eq, Bool.not_eq_true']
    refine ⟨⟨⟨by simp [toList_mk], by decide⟩, by decide⟩, ⟨⟨by simp [toList_mk], by decide⟩, by decide⟩, ⟨by simp, by decide⟩, h40⟩
  have htx : tame (idxT p t i) = true := by
    simp only [tame, tameAll, Bool.and_true, Bool.and_eq_true, decide_eq_true_eq, Bool.not_eq_true']
    refine ⟨⟨⟨by simp [toList_mk], by decide⟩, by decide⟩, ⟨⟨by simp, by decide⟩, hp40⟩, ⟨⟨by simp, by decide⟩, ht40⟩, ⟨by simp, by decide⟩, hi40⟩
  have hok : okN (.struct ⟨#[67, 97, 108, 108, 69, 120, 112, 114]⟩ [symN x, m]) = true := by simp [okN, okNs, f1]
  have hk1 : kinds (callT x q) := by
    simp only [kinds, kindsAll, and_true]
    exact ⟨by simp only [kind_mk]; decide, by simp only [kind_mk]; decide, f3, f4⟩
  have hk2 : kinds (idxT p t i) := by
    simp only [kinds, kindsAll, and_true]
    simp only [kind_mk]; decide
  have hT2 : TabAt (w.alloc (.cells zeros34 34)) := hT.toExt (Ext.alloc _ _)
  have := impl_ok (al := true) (inp := text 0 (callT x q)) (n := .struct ⟨#[67, 97, 108, 108, 69, 120, 112, 114]⟩ [symN x, m]) (sym := .index p t i) (Es := [[67, 97, 108, 108, 69, 120, 112, 114]]) (nm := namesT q) (cl := [(p, t, i)]) (w := w) (tree_calls hok) tree_index (by rw [eT]; simp only [count, countAll]; omega) (by rw [toTree]; simp [count, countAll]) (by rw [eT]; exact htm) (by rw [toTree]; exact htx) (by simp) (by omega) (by simp) rfl rfl (by rw [eT]; exact hk1) (by rw [toTree]; exact hk2) ?_
  · rw [eT, toTree] at this
    exact this
  refine (read_ok hf hz hM hP (namesT_nodup q) (syms_of_call hs (by simp [plainNs, hpl]) (by simp only [cntAll]; omega)) (roots_of_call hs [m]) (entry_all ((PN.struct ⟨#[67, 97, 108, 108, 69, 120, 112, 114]⟩ [symN x, m]).cnt + 1) (.struct ⟨#[67, 97, 108, 108, 69, 120, 112, 114]⟩ [symN x, m]) (Nat.lt_succ_self _) (by omega) (by rw [eT]; exact htm)) (entry_call _) (Nat.le_trans hcn (by decide)) (by simp) (by simp) rfl (fun nm ks e => by cases e; simp only [toList_mk]; decide) hT2.one hT2).mono ?_
  rintro e w' ⟨⟨rv, sv, ea, ec, ca, cc, ba, bc, rfl, h1, h2, h3, h4, h5, l1, l2, l3⟩, hx⟩
  refine ⟨⟨rv, sv, ea, ec, ca, cc, ba, bc, rfl, h1.imp fun b hb _ => by simp at hb; omega, h2.imp fun b hb _ => by simp at hb; omega, by simpa using h3, h4, h5, l1, l2, l3⟩, hx⟩
end Go.Proofs.YtigalkobmfbdaaaGreatDoor
