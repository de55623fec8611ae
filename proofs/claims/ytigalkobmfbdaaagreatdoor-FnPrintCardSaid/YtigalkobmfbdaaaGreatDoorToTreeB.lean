/- The thin package's treeOf, second half. -/
import Derived.Test.YtigalkobmfbdaaaGreatDoorToTree
set_option linter.unusedVariables false
set_option linter.unusedSimpArgs false
namespace Go.Proofs.YtigalkobmfbdaaaGreatDoor
open Go.RowKit
theorem NodeAt.nul {X : Nat → Prop} {w : World} {v : Value} {n : PN} (h : NodeAt X w v n) : (n.isNul = true ∧ v = .nilIface) ∨ (n.isNul = false ∧ ∃ t x, v = .iface t x) := by
  cases n <;> rw [NodeAt] at h
  all_goals first
    | (exact .inl ⟨rfl, h⟩)
    | (exact .inr ⟨rfl, _, _, h⟩)
    | (obtain ⟨a, c, e, -⟩ := h; exact .inr ⟨rfl, _, _, e⟩)
    | (obtain ⟨nv, e, -⟩ := h; exact .inr ⟨rfl, _, _, e⟩)
set_option maxRecDepth 100000 in
set_option maxHeartbeats 1000000 in
theorem tree_bind {nm : ByteArray} {n : PN} {i : Int} (ih : TreeC n) : TreeC (.bind nm n i) := by
  intro X v w hv ht hcn
  rw [NodeAt] at hv
  obtain ⟨nv, rfl, hn⟩ := hv
  rw [toTree] at ht hcn ⊢
  have q1 := ta_nil.2.2.2.2.2.2.2.2.2.2.2
  rcases hn.nul with ⟨hnul, rfl⟩ | ⟨hnul, tt, xx, rfl⟩
  · rw [hnul, if_pos rfl] at ht hcn ⊢
    obtain ⟨-, hz, -⟩ := tame_parts ht
    clear ht hcn hnul hn
    obtain ⟨t1, t2, t3, t4, t5, t6, t7, t8, t9, t10, t11, t12⟩ := ta_138 (.agg #[.string nm, .nilIface, .int .i64 i])
    go_enter Tryz.func56, Tryz.ntmps56
    go_wp2_with fail
    refine bodyPost_ret (results_c rfl _ _ w.heap.size 24 #[.string ⟨#[66, 105, 110, 100, 105, 110, 103]⟩, .string nm, .slice none 0 0] rfl ?_ row24 size24) rfl ?_
    · exact ((Blk.new _ _ _).ext (Ext.alloc _ _)).ext (Ext.alloc _ _)
    exact ⟨⟨_, _, rfl, leafIn (by decide) (by omega)⟩, ((Ext.alloc _ _).trans (Ext.alloc _ _)).trans (Ext.alloc _ _)⟩
  · rw [hnul] at ht hcn ⊢
    simp only [Bool.false_eq_true, if_false] at ht hcn ⊢
    obtain ⟨-, hz, htk⟩ := tame_parts ht
    simp only [tameAll, Bool.and_true] at htk
    have hck : count (toTree n) ≤ 1000 := by simp only [count, countAll] at hcn; omega
    have HK := Lib.hid (And.intro hn (And.intro htk hck))
    have HZ := Lib.hid hz
    clear ht hcn hnul hn htk hck hz
    obtain ⟨t1, t2, t3, t4, t5, t6, t7, t8, t9, t10, t11, t12⟩ := ta_138 (.agg #[.string nm, .iface tt xx, .int .i64 i])
    have q2 : ∀ w : World, (binOp BinOp.neq 78 (.iface tt xx) .nilIface).run Tryz.prog w = .ok (.bool true) w := fun w => by kernel_rfl
    have HW : Hid (Ext w (((w.alloc (.cells #[.string ⟨#[]⟩, .string ⟨#[]⟩, .slice none 0 0] 24)).alloc (.cells #[.string nm, .iface tt xx, .int .i64 i] 138)).alloc (.cells #[.string ⟨#[66, 105, 110, 100, 105, 110, 103]⟩, .string nm, .slice none 0 0] 24))) := Lib.hid (((Ext.alloc _ _).trans (Ext.alloc _ _)).trans (Ext.alloc _ _))
    have HB : Hid (Blk (((w.alloc (.cells #[.string ⟨#[]⟩, .string ⟨#[]⟩, .slice none 0 0] 24)).alloc (.cells #[.string nm, .iface tt xx, .int .i64 i] 138)).alloc (.cells #[.string ⟨#[66, 105, 110, 100, 105, 110, 103]⟩, .string nm, .slice none 0 0] 24)) w.heap.size #[.string ⟨#[]⟩, .string ⟨#[]⟩, .slice none 0 0] 24) := Lib.hid (((Blk.new _ _ _).ext (Ext.alloc _ _)).ext (Ext.alloc _ _))
    have HC : Hid (Blk (((w.alloc (.cells #[.string ⟨#[]⟩, .string ⟨#[]⟩, .slice none 0 0] 24)).alloc (.cells #[.string nm, .iface tt xx, .int .i64 i] 138)).alloc (.cells #[.string ⟨#[66, 105, 110, 100, 105, 110, 103]⟩, .string nm, .slice none 0 0] 24)) (w.heap.size + 1 + 1) #[.string ⟨#[66, 105, 110, 100, 105, 110, 103]⟩, .string nm, .slice none 0 0] 24) := Lib.hid (by
      have := Blk.new ((w.alloc (.cells #[.string ⟨#[]⟩, .string ⟨#[]⟩, .slice none 0 0] 24)).alloc (.cells #[.string nm, .iface tt xx, .int .i64 i] 138)) #[.string ⟨#[66, 105, 110, 100, 105, 110, 103]⟩, .string nm, .slice none 0 0] 24
      simpa using this)
    have HS : Hid ((((w.alloc (.cells #[.string ⟨#[]⟩, .string ⟨#[]⟩, .slice none 0 0] 24)).alloc (.cells #[.string nm, .iface tt xx, .int .i64 i] 138)).alloc (.cells #[.string ⟨#[66, 105, 110, 100, 105, 110, 103]⟩, .string nm, .slice none 0 0] 24)).heap.size = w.heap.size + 3) := Lib.hid (by simp)
    go_enter Tryz.func56, Tryz.ntmps56
    go_wp2_with fail
    refine (ih X _ _ (HK.out.1.mono (HW.out.keeps X)) HK.out.2.1 HK.out.2.2).mono ?_
    rintro e w1 ⟨⟨a1, c1, rfl, hT1⟩, hE1⟩
    have HB1 := HB.out.ext hE1
    have HC1 := HC.out.ext hE1
    have fb := HB1.frozen
    have lb := HB1.lt
    have cb := Blk3 HB1
    have fc := HC1.frozen
    have lc := HC1.lt
    have cc := Blk3 HC1
    have HF := Lib.hid (And.intro (HW.out.trans hE1) (And.intro HB1 (And.intro HC1 hT1)))
    have HE1 := Lib.hid hE1.size
    clear hE1 HB1 HC1 hT1
    go_wp2_with fail
    have hX : ExtM (fun b => b = w.heap.size ∨ b = w.heap.size + 1 + 1) w1 ((((w1.setCell ⟨w.heap.size + 1 + 1, 2, none⟩ (.slice (some ⟨w1.heap.size, 0, none⟩) 1 1)).setCell ⟨w.heap.size, 0, none⟩ (.string ⟨#[66, 105, 110, 100, 105, 110, 103]⟩)).setCell ⟨w.heap.size, 1, none⟩ (.string nm)).setCell ⟨w.heap.size, 2, none⟩ (.slice (some ⟨w1.heap.size, 0, none⟩) 1 1)) :=
      ((((ExtM.refl _ w1).setCell (p := ⟨w.heap.size + 1 + 1, 2, none⟩) (.inl (.inr rfl)) _).setCell (p := ⟨w.heap.size, 0, none⟩) (.inl (.inl rfl)) _).setCell (p := ⟨w.heap.size, 1, none⟩) (.inl (.inl rfl)) _).setCell (p := ⟨w.heap.size, 2, none⟩) (.inl (.inl rfl)) _
    refine bodyPost_ret (results_c rfl _ _ w.heap.size 24 #[.string ⟨#[66, 105, 110, 100, 105, 110, 103]⟩, .string nm, .slice (some ⟨w1.heap.size, 0, none⟩) 1 1] rfl ?_ row24 size24) rfl ?_
    · exact ((((HF.out.2.1.set_other (by simp only; omega) _).set 0 _).set 1 _).set 2 _).ext (Ext.alloc _ _)
    have hnew : Blk (((((w1.setCell ⟨w.heap.size + 1 + 1, 2, none⟩ (.slice (some ⟨w1.heap.size, 0, none⟩) 1 1)).setCell ⟨w.heap.size, 0, none⟩ (.string ⟨#[66, 105, 110, 100, 105, 110, 103]⟩)).setCell ⟨w.heap.size, 1, none⟩ (.string nm)).setCell ⟨w.heap.size, 2, none⟩ (.slice (some ⟨w1.heap.size, 0, none⟩) 1 1)).alloc (.cells #[.string (toTree n).kind, .string (toTree n).text, .slice a1 (toTree n).kids.length c1] 24)) w1.heap.size #[.string (toTree n).kind, .string (toTree n).text, .slice a1 (toTree n).kids.length c1] 24 := by
      have := Blk.new ((((w1.setCell ⟨w.heap.size + 1 + 1, 2, none⟩ (.slice (some ⟨w1.heap.size, 0, none⟩) 1 1)).setCell ⟨w.heap.size, 0, none⟩ (.string ⟨#[66, 105, 110, 100, 105, 110, 103]⟩)).setCell ⟨w.heap.size, 1, none⟩ (.string nm)).setCell ⟨w.heap.size, 2, none⟩ (.slice (some ⟨w1.heap.size, 0, none⟩) 1 1)) #[.string (toTree n).kind, .string (toTree n).text, .slice a1 (toTree n).kids.length c1] 24
      simpa using this
    have hT := HF.out.2.2.2.turn (Y := fun b => w.heap.size ≤ b) (w' := ((((w1.setCell ⟨w.heap.size + 1 + 1, 2, none⟩ (.slice (some ⟨w1.heap.size, 0, none⟩) 1 1)).setCell ⟨w.heap.size, 0, none⟩ (.string ⟨#[66, 105, 110, 100, 105, 110, 103]⟩)).setCell ⟨w.heap.size, 1, none⟩ (.string nm)).setCell ⟨w.heap.size, 2, none⟩ (.slice (some ⟨w1.heap.size, 0, none⟩) 1 1))) (fun b o v hb hv => ⟨by rw [HS.out] at hb; omega, hX.keep (by rw [HS.out] at hb; simp only; omega) hv⟩)
    refine ⟨⟨some ⟨w1.heap.size, 0, none⟩, 1, rfl, ⟨⟨by decide, by have := HZ.out; omega⟩, Nat.le_refl _, ?_⟩⟩, ?_⟩
    · exact kidsIn_of_blk (l := [(toTree n, a1, c1)]) (by omega) hnew (by intro x hx; obtain rfl := List.mem_singleton.1 hx; exact hT.mono (Ext.alloc _ _))
    · exact ((((HF.out.1.setCell (by simp only; omega) _).setCell (Nat.le_refl _) _).setCell (Nat.le_refl _) _).setCell (Nat.le_refl _) _).trans (Ext.alloc _ _)
set_option maxRecDepth 100000 in
set_option maxHeartbeats 1000000 in
theorem tree_nil_list : TreeC (.list .nul .nul) := by
  intro X v w hv ht hcn
  rw [NodeAt] at hv
  obtain ⟨p, q, rfl, hp, hq⟩ := hv
  rw [NodeAt] at hp hq
  subst hp; subst hq
  clear ht hcn
  rw [toTree]
  have q1 := ta_nil.2.2.2.2.2.2.2.2.2.2.1
  obtain ⟨t1, t2, t3, t4, t5, t6, t7, t8, t9, t10, t11, t12⟩ := ta_136 (.agg #[.nilIface, .nilIface])
  go_enter Tryz.func56, Tryz.ntmps56
  go_wp2_with fail
  refine bodyPost_ret (results_c rfl _ _ w.heap.size 24 #[.string ⟨#[76, 105, 115, 116]⟩, .string ⟨#[]⟩, .slice none 0 0] rfl ?_ row24 size24) rfl ?_
  · exact (Blk.new _ _ _).ext (Ext.alloc _ _)
  exact ⟨⟨_, _, rfl, leafIn (by decide) (by decide)⟩, (Ext.alloc _ _).trans (Ext.alloc _ _)⟩
set_option maxRecDepth 100000 in
set_option maxHeartbeats 4000000 in
theorem tree_list {h t : PN} (ih1 : TreeC h) (ih2 : TreeC t) (hh : h.isNul = false) (htn : t.isNul = false) : TreeC (.list h t) := by
  intro X v w hv ht hcn
  rw [NodeAt] at hv
  obtain ⟨p, q, rfl, hp, hq⟩ := hv
  rw [toTree, hh] at ht hcn ⊢
  simp only [Bool.false_and, Bool.false_eq_true, if_false] at ht hcn ⊢
  obtain ⟨-, -, htk⟩ := tame_parts ht
  simp only [tameAll, Bool.and_true, Bool.and_eq_true] at htk
  have hck : count (toTree h) ≤ 1000 ∧ count (toTree t) ≤ 1000 := by simp only [count, countAll] at hcn; omega
  rcases hp.nul with ⟨e, -⟩ | ⟨-, tt, xx, rfl⟩
  · rw [hh] at e; cases e
  rcases hq.nul with ⟨e, -⟩ | ⟨-, tt2, xx2, rfl⟩
  · rw [htn] at e; cases e
  have HK := Lib.hid (And.intro hp (And.intro hq (And.intro htk hck)))
  clear hp hq htk hck ht hcn hh htn
  obtain ⟨t1, t2, t3, t4, t5, t6, t7, t8, t9, t10, t11, t12⟩ := ta_136 (.agg #[.iface tt xx, .iface tt2 xx2])
  have q2 : ∀ w : World, (binOp BinOp.eql 78 (.iface tt xx) .nilIface).run Tryz.prog w = .ok (.bool false) w := fun w => by kernel_rfl
  have HW : Hid (Ext w ((w.alloc (.cells #[.string ⟨#[]⟩, .string ⟨#[]⟩, .slice none 0 0] 24)).alloc (.cells #[.iface tt xx, .iface tt2 xx2] 136)).drew) := Lib.hid (((Ext.alloc _ _).trans (Ext.alloc _ _)).trans (Ext.drew _))
  have HB : Hid (Blk ((w.alloc (.cells #[.string ⟨#[]⟩, .string ⟨#[]⟩, .slice none 0 0] 24)).alloc (.cells #[.iface tt xx, .iface tt2 xx2] 136)).drew w.heap.size #[.string ⟨#[]⟩, .string ⟨#[]⟩, .slice none 0 0] 24) := Lib.hid (((Blk.new _ _ _).ext (Ext.alloc _ _)).ext (Ext.drew _))
  have HS : Hid (((w.alloc (.cells #[.string ⟨#[]⟩, .string ⟨#[]⟩, .slice none 0 0] 24)).alloc (.cells #[.iface tt xx, .iface tt2 xx2] 136)).drew.heap.size = w.heap.size + 2) := Lib.hid (by simp)
  obtain ⟨s0, s1⟩ := Blk2 (Blk.second w (.cells #[.string ⟨#[]⟩, .string ⟨#[]⟩, .slice none 0 0] 24) #[.iface tt xx, .iface tt2 xx2] 136)
  have n1 := HK.out.1.mono (HW.out.keeps X)
  have n2 := HK.out.2.1.mono (HW.out.keeps X)
  go_enter Tryz.func56, Tryz.ntmps56
  go_wp2_with fail
  go_region_held3 (fun w' => w'.cell? ⟨w.heap.size + 1, 0, none⟩ = some (.iface tt xx) ∧ w'.cell? ⟨w.heap.size + 1, 1, none⟩ = some (.iface tt2 xx2)) (go_keep)
    (first
      | (go_at_call 56; have h9 := HTa; refine (ih2 X _ _ n2a HK.out.2.2.1.2 HK.out.2.2.2.2).mono ?_; rintro e wb ⟨⟨a2, c2, rfl, hTb⟩, hEb⟩; have k0b := hEb.keep k0a; have k1b := hEb.keep k1a; have HB1 := HB.out.ext (HTa.out.2.trans hEb); have fb := HB1.frozen; have lb := HB1.lt; have cb := Blk3 HB1; have HTb := Lib.hid (And.intro hTb (And.intro hEb HB1)); clear hTb hEb HB1 h9)
      | (go_at_call 56; refine (ih1 X _ _ n1 HK.out.2.2.1.1 HK.out.2.2.2.1).mono ?_; rintro e wa ⟨⟨a1, c1, rfl, hTa⟩, hEa⟩; have n2a := NodeAt.mono (hEa.keeps X) n2; have k0a := hEa.keep ((Ext.drew _).keep s0); have k1a := hEa.keep ((Ext.drew _).keep s1); have HTa := Lib.hid (And.intro hTa hEa); clear hTa hEa))
  go_wp2_with fail
  have hX : ExtM (· = w.heap.size) wb (((wb.setCell ⟨w.heap.size, 0, none⟩ (.string ⟨#[76, 105, 115, 116]⟩)).setCell ⟨w.heap.size, 1, none⟩ (.string ⟨#[]⟩)).setCell ⟨w.heap.size, 2, none⟩ (.slice (some ⟨wb.heap.size, 0, none⟩) 2 2)) := (((ExtM.refl _ wb).set1 0 _).set1 1 _).set1 2 _
  refine bodyPost_ret (results_c rfl _ _ w.heap.size 24 #[.string ⟨#[76, 105, 115, 116]⟩, .string ⟨#[]⟩, .slice (some ⟨wb.heap.size, 0, none⟩) 2 2] rfl ?_ row24 size24) rfl ?_
  · exact (((HTb.out.2.2.set 0 _).set 1 _).set 2 _).ext (Ext.alloc _ _)
  have hnew : Blk ((((wb.setCell ⟨w.heap.size, 0, none⟩ (.string ⟨#[76, 105, 115, 116]⟩)).setCell ⟨w.heap.size, 1, none⟩ (.string ⟨#[]⟩)).setCell ⟨w.heap.size, 2, none⟩ (.slice (some ⟨wb.heap.size, 0, none⟩) 2 2)).alloc (.cells #[.string (toTree h).kind, .string (toTree h).text, .slice a1 (toTree h).kids.length c1, .string (toTree t).kind, .string (toTree t).text, .slice a2 (toTree t).kids.length c2] 24)) wb.heap.size #[.string (toTree h).kind, .string (toTree h).text, .slice a1 (toTree h).kids.length c1, .string (toTree t).kind, .string (toTree t).text, .slice a2 (toTree t).kids.length c2] 24 := by
    have := Blk.new (((wb.setCell ⟨w.heap.size, 0, none⟩ (.string ⟨#[76, 105, 115, 116]⟩)).setCell ⟨w.heap.size, 1, none⟩ (.string ⟨#[]⟩)).setCell ⟨w.heap.size, 2, none⟩ (.slice (some ⟨wb.heap.size, 0, none⟩) 2 2)) #[.string (toTree h).kind, .string (toTree h).text, .slice a1 (toTree h).kids.length c1, .string (toTree t).kind, .string (toTree t).text, .slice a2 (toTree t).kids.length c2] 24
    simpa using this
  have hsz := HTa.out.2.size
  have hTa := (HTa.out.1.mono HTb.out.2.1).turn (Y := fun b => w.heap.size ≤ b) (w' := (((wb.setCell ⟨w.heap.size, 0, none⟩ (.string ⟨#[76, 105, 115, 116]⟩)).setCell ⟨w.heap.size, 1, none⟩ (.string ⟨#[]⟩)).setCell ⟨w.heap.size, 2, none⟩ (.slice (some ⟨wb.heap.size, 0, none⟩) 2 2))) (fun b o v hb hv => ⟨by rw [HS.out] at hb; omega, hX.keep (by rw [HS.out] at hb; simp only; omega) hv⟩)
  have hTb := HTb.out.1.turn (Y := fun b => w.heap.size ≤ b) (w' := (((wb.setCell ⟨w.heap.size, 0, none⟩ (.string ⟨#[76, 105, 115, 116]⟩)).setCell ⟨w.heap.size, 1, none⟩ (.string ⟨#[]⟩)).setCell ⟨w.heap.size, 2, none⟩ (.slice (some ⟨wb.heap.size, 0, none⟩) 2 2))) (fun b o v hb hv => ⟨by rw [HS.out] at hsz; omega, hX.keep (by rw [HS.out] at hsz; simp only; omega) hv⟩)
  refine ⟨⟨some ⟨wb.heap.size, 0, none⟩, 2, rfl, ⟨⟨by decide, by decide⟩, Nat.le_refl _, ?_⟩⟩, ?_⟩
  · refine kidsIn_of_blk (l := [(toTree h, a1, c1), (toTree t, a2, c2)]) (by omega) hnew ?_
    intro x hx
    simp at hx
    rcases hx with rfl | rfl
    · exact hTa.mono (Ext.alloc _ _)
    · exact hTb.mono (Ext.alloc _ _)
  · exact ((((HW.out.trans (HTa.out.2.trans HTb.out.2.1)).setCell (Nat.le_refl _) _).setCell (Nat.le_refl _) _).setCell (Nat.le_refl _) _).trans (Ext.alloc _ _)
mutual
/-- Lists are empty, or have a head and a tail. -/
def okN : PN → Bool
  | .struct _ ks => okNs ks
  | .or ks => okNs ks
  | .list h t => (h.isNul && t.isNul) || (!h.isNul && !t.isNul && okN h && okN t)
  | .bind _ n _ => okN n
  | .and _ => false
  | .index _ _ _ => false
  | _ => true
def okNs : List PN → Bool
  | [] => true
  | n :: ns => okN n && okNs ns
end
theorem okNs_get : ∀ {ks : List PN} (_ : okNs ks = true) (j : Nat) (hj : j < ks.length), okN ks[j] = true
  | n :: ns, h, 0, _ => by rw [okNs, Bool.and_eq_true] at h; exact h.1
  | n :: ns, h, j + 1, hj => by rw [okNs, Bool.and_eq_true] at h; simpa using okNs_get h.2 j (by simpa using hj)
theorem isNul_eq {n : PN} (h : n.isNul = true) : n = .nul := by cases n <;> first | rfl | cases h
theorem tree_all : ∀ (k : Nat) (n : PN), n.cnt < k → okN n = true → TreeC n
  | 0, _, h, _ => by omega
  | k + 1, .nul, _, _ => tree_leaf (.inl rfl)
  | k + 1, .any, _, _ => tree_leaf (.inr (.inl rfl))
  | k + 1, .nil, _, _ => tree_leaf (.inr (.inr (.inl rfl)))
  | k + 1, .str s, _, _ => tree_leaf (.inr (.inr (.inr (.inl ⟨s, rfl⟩))))
  | k + 1, .tok s, _, _ => tree_leaf (.inr (.inr (.inr (.inr ⟨s, rfl⟩))))
  | k + 1, .bind nm n i, h, hp => by
    rw [PN.cnt] at h
    rw [okN] at hp
    exact tree_bind (tree_all k n (by omega) hp)
  | k + 1, .list x y, h, hp => by
    rw [PN.cnt] at h
    rw [okN] at hp
    simp only [Bool.or_eq_true, Bool.and_eq_true, Bool.not_eq_true'] at hp
    rcases hp with ⟨h1, h2⟩ | ⟨⟨⟨h1, h2⟩, h3⟩, h4⟩
    · rw [isNul_eq h1, isNul_eq h2]; exact tree_nil_list
    · exact tree_list (tree_all k x (by omega) h3) (tree_all k y (by omega) h4) h1 h2
  | k + 1, .or ks, h, hp => by
    rw [PN.cnt] at h
    rw [okN] at hp
    exact tree_or fun j hj => tree_all k _ (by have := cntAll_get j hj; omega) (okNs_get hp j hj)
  | k + 1, .struct nm ks, h, hp => by
    rw [PN.cnt] at h
    rw [okN] at hp
    exact tree_struct fun j hj => tree_all k _ (by have := cntAll_get j hj; omega) (okNs_get hp j hj)
  | k + 1, .and ks, _, hp => by rw [okN] at hp; cases hp
  | k + 1, .index _ _ _, _, hp => by rw [okN] at hp; cases hp
/-- treeOf. -/
theorem tree_calls {n : PN} (h : okN n = true) : TreeC n := tree_all (n.cnt + 1) n (Nat.lt_succ_self _) h
end Go.Proofs.YtigalkobmfbdaaaGreatDoor
