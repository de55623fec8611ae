/- The thin package's treeOf: a node as data. -/
import Derived.Test.YtigalkobmfbdaaaGreatDoorEntry1
import Derived.Test.YtigalkobmfbdaaaGreatDoorRoot1
import Derived.Deep.RegionHeld3
import Derived.Maps.AppendAt
set_option linter.unusedVariables false
set_option linter.unusedSimpArgs false
namespace Go.Proofs.YtigalkobmfbdaaaGreatDoor
open Go.RowKit
mutual
/-- The kids of a tree lie at 'a', all its data in blocks of X (nothing is said of how far the slice could grow). -/
def TreeIn (X : Nat → Prop) (w : World) : Option Addr → Nat → Tree → Prop
  | a, c, .mk k x ks => (k.size ≤ 140737488351232 ∧ x.size ≤ 140737488351232) ∧ ks.length ≤ c ∧ KidsIn X w a ks
def KidsIn (X : Nat → Prop) (w : World) : Option Addr → List Tree → Prop
  | _, [] => True
  | a, t :: ts => ∃ b o a' c', a = some ⟨b, o, none⟩ ∧ X b ∧ w.cell? ⟨b, o, none⟩ = some (.string t.kind) ∧ w.cell? ⟨b, o + 1, none⟩ = some (.string t.text) ∧ w.cell? ⟨b, o + 2, none⟩ = some (.slice a' t.kids.length c') ∧ TreeIn X w a' c' t ∧ KidsIn X w (some ⟨b, o + 3, none⟩) ts
end
mutual
theorem TreeIn.turn {X Y : Nat → Prop} {w w' : World} (h : ∀ b o v, X b → w.cell? ⟨b, o, none⟩ = some v → Y b ∧ w'.cell? ⟨b, o, none⟩ = some v) : ∀ {a : Option Addr} {c : Nat} {t : Tree}, TreeIn X w a c t → TreeIn Y w' a c t
  | _, _, .mk _ _ _, ⟨hs, hc, hk⟩ => ⟨hs, hc, KidsIn.turn h hk⟩
theorem KidsIn.turn {X Y : Nat → Prop} {w w' : World} (h : ∀ b o v, X b → w.cell? ⟨b, o, none⟩ = some v → Y b ∧ w'.cell? ⟨b, o, none⟩ = some v) : ∀ {a : Option Addr} {ts : List Tree}, KidsIn X w a ts → KidsIn Y w' a ts
  | _, [], _ => trivial
  | _, _ :: _, ⟨b, o, a', c', ha, hb, h1, h2, h3, ht, hk⟩ => ⟨b, o, a', c', ha, (h _ _ _ hb h1).1, (h _ _ _ hb h1).2, (h _ _ _ hb h2).2, (h _ _ _ hb h3).2, TreeIn.turn h ht, KidsIn.turn h hk⟩
end
theorem TreeIn.mono {X : Nat → Prop} {w w' : World} (h : Ext w w') {a : Option Addr} {c : Nat} {t : Tree} (ht : TreeIn X w a c t) : TreeIn X w' a c t := ht.turn fun _ _ _ hb hc => ⟨hb, h.keep hc⟩
theorem TreeIn.imp {X Y : Nat → Prop} {w : World} (h : ∀ b, X b → b < w.heap.size → Y b) {a : Option Addr} {c : Nat} {t : Tree} (ht : TreeIn X w a c t) : TreeIn Y w a c t := ht.turn fun b _ _ hb hc => ⟨h b hb (by simpa using cell_lt hc), hc⟩
theorem KidsIn.get {X : Nat → Prop} {w : World} : ∀ {ts : List Tree} {a : Option Addr} (_ : KidsIn X w a ts) (j : Nat) (hj : j < ts.length),
    ∃ b o a' c', a = some ⟨b, o, none⟩ ∧ b < w.heap.size ∧ X b ∧ w.cell? ⟨b, o + j * 3, none⟩ = some (.string ts[j].kind) ∧ w.cell? ⟨b, o + j * 3 + 1, none⟩ = some (.string ts[j].text) ∧ w.cell? ⟨b, o + j * 3 + 2, none⟩ = some (.slice a' ts[j].kids.length c') ∧ TreeIn X w a' c' ts[j]
  | t :: ts, a, ⟨b, o, a', c', ha, hb, h1, h2, h3, ht, hk⟩, 0, _ => ⟨b, o, a', c', ha, cell_lt h1, hb, by simpa using h1, by simpa using h2, by simpa using h3, ht⟩
  | t :: ts, a, ⟨b, o, _, _, ha, hb, h1, h2, h3, ht, hk⟩, j + 1, hj => by
    obtain ⟨b', o', a', c', ha', hlt, hb', h1', h2', h3', ht'⟩ := KidsIn.get hk j (by simpa using hj)
    obtain ⟨rfl, rfl⟩ : b = b' ∧ o + 3 = o' := by simpa using ha'
    have e : o + 3 + j * 3 = o + (j + 1) * 3 := by omega
    rw [e] at h1' h2' h3'
    exact ⟨b, o, a', c', ha, hlt, hb', h1', h2', h3', ht'⟩
theorem TreeIn.kids {X : Nat → Prop} {w : World} {a : Option Addr} {c : Nat} {t : Tree} (h : TreeIn X w a c t) : t.kids.length ≤ c ∧ KidsIn X w a t.kids := by cases t; exact h.2
theorem TreeIn.sizes {X : Nat → Prop} {w : World} {a : Option Addr} {c : Nat} {t : Tree} (h : TreeIn X w a c t) : t.kind.size ≤ 140737488351232 ∧ t.text.size ≤ 140737488351232 := by cases t; exact h.1
theorem kidsIn_of_cells {X : Nat → Prop} {w : World} {b : Nat} (hb : X b) : ∀ (l : List (Tree × Option Addr × Nat)) (o : Nat), (∀ x ∈ l, TreeIn X w x.2.1 x.2.2 x.1) → (∀ j u, (rowV l)[j]? = some u → w.cell? ⟨b, o + j, none⟩ = some u) → KidsIn X w (some ⟨b, o, none⟩) (l.map (·.1))
  | [], _, _, _ => trivial
  | (t, a, c) :: l, o, hT, hc => by
    refine ⟨b, o, a, c, rfl, hb, hc 0 _ rfl, hc 1 _ rfl, hc 2 _ rfl, hT _ (List.mem_cons_self ..), ?_⟩
    refine kidsIn_of_cells hb l (o + 3) (fun x hx => hT x (List.mem_cons_of_mem _ hx)) (fun j u hu => ?_)
    have := hc (j + 3) u (by simpa [rowV] using hu)
    rw [show o + (j + 3) = o + 3 + j by omega] at this
    exact this
theorem kidsIn_of_owns {w : World} {base : Nat} {v : Value} {l : List (Tree × Option Addr × Nat)} (h : w.ownsRow base 24 3 v l.length (rowV l)) (hT : ∀ x ∈ l, TreeIn (fun b => base ≤ b) w x.2.1 x.2.2 x.1) :
    ∃ a c, v = .slice a l.length c ∧ l.length ≤ c ∧ KidsIn (fun b => base ≤ b) w a (l.map (·.1)) := by
  rcases h.2 with ⟨rfl, hn⟩ | ⟨g, cap, cur, rfl, hb, hg, hnc, -⟩
  · obtain rfl : l = [] := List.eq_nil_of_length_eq_zero hn
    exact ⟨none, 0, rfl, Nat.le_refl _, trivial⟩
  · refine ⟨_, _, rfl, hnc, kidsIn_of_cells hb l 0 hT (fun j u hu => ?_)⟩
    have := h.cells (g := g) rfl j u hu
    have hadd : (⟨g, 0, none⟩ : Addr).add j = ⟨g, 0 + j, none⟩ := by unfold Addr.add; split <;> simp_all
    rw [hadd] at this
    exact this
/-- A block of trees. -/
theorem kidsIn_of_blk {X : Nat → Prop} {w : World} {b : Nat} (hb : X b) {l : List (Tree × Option Addr × Nat)} {t : TypeId} (h : Blk w b (rowV l).toArray t) (hT : ∀ x ∈ l, TreeIn X w x.2.1 x.2.2 x.1) : KidsIn X w (some ⟨b, 0, none⟩) (l.map (·.1)) :=
  kidsIn_of_cells hb l 0 hT (fun j u hu => by rw [h.cell]; simpa using hu)
theorem cells_three_new (w : World) (p q r : Value) (t : TypeId) (j : Nat) (u : Value) (h : [p, q, r][j]? = some u) : (w.alloc (.cells #[p, q, r] t)).cell? ((⟨w.heap.size, 0, none⟩ : Addr).add j) = some u := by
  have hadd : (⟨w.heap.size, 0, none⟩ : Addr).add j = ⟨w.heap.size, 0 + j, none⟩ := by unfold Addr.add; split <;> simp_all
  rw [hadd, (Blk.new w #[p, q, r] t).cell, Nat.zero_add]
  simpa using h
theorem row24 : (Tryz.prog.underlying 24).map (fun d => match d with | .struct _ | .array _ _ => true | _ => false) = some true := by kernel_rfl
theorem size24 : (Tryz.prog.info? 24).map (·.size) = some 3 := by kernel_rfl
def TreeRes (base : Nat) (t : Tree) (e : Ending) (w' : World) : Prop := ∃ a c, e = .returned (treeV t a c) ∧ TreeIn (fun b => base ≤ b) w' a c t
def TreeC (n : PN) : Prop := ∀ (X : Nat → Prop) (v : Value) (w : World), NodeAt X w v n → tame (toTree n) = true → count (toTree n) ≤ 1000 → Calls Tryz.prog 56 #[v] w fun e w' => TreeRes w.heap.size (toTree n) e w' ∧ Ext w w'
set_option maxRecDepth 100000 in
set_option maxHeartbeats 1000000 in
theorem strT_calls (s : ByteArray) (hs : s.size ≤ 140737488351232) (w : World) : Calls Tryz.prog 75 #[.string s] w fun e w' => e = .returned (treeV (strT s) none 0) ∧ Ext w w' := by
  go_enter Tryz.func75, Tryz.ntmps75
  go_wp2_with fail
  refine bodyPost_ret (results_c rfl _ _ w.heap.size 24 #[.string ⟨#[83, 116, 114, 105, 110, 103]⟩, .string s, .slice none 0 0] rfl ?_ row24 size24) rfl ?_
  · exact Blk.new _ _ _
  exact ⟨rfl, Ext.alloc _ _⟩
theorem leafIn {X : Nat → Prop} {w : World} {k x : ByteArray} (hk : k.size ≤ 140737488351232) (hx : x.size ≤ 140737488351232) : TreeIn X w none 0 (.mk k x []) := ⟨⟨hk, hx⟩, Nat.le_refl _, trivial⟩
set_option maxRecDepth 100000 in
set_option maxHeartbeats 1000000 in
theorem tree_leaf {n : PN} (hn : n = .nul ∨ n = .any ∨ n = .nil ∨ (∃ s, n = .str s) ∨ (∃ s, n = .tok s)) : TreeC n := by
  intro X v w hv ht hcn
  clear hcn
  rcases hn with rfl | rfl | rfl | ⟨s, rfl⟩ | ⟨s, rfl⟩ <;> rw [NodeAt] at hv <;> subst hv <;> rw [toTree] at ht ⊢
  · obtain ⟨t1, t2, t3, t4, t5, t6, t7, t8, t9, t10, t11, t12⟩ := ta_nil
    go_enter Tryz.func56, Tryz.ntmps56
    go_wp2_with fail
    refine bodyPost_ret (results_c rfl _ _ w.heap.size 24 #[.string ⟨#[]⟩, .string ⟨#[]⟩, .slice none 0 0] rfl ?_ row24 size24) rfl ?_
    · exact Blk.new _ _ _
    exact ⟨⟨_, _, rfl, leafIn (by decide) (by decide)⟩, Ext.alloc _ _⟩
  · obtain ⟨t1, t2, t3, t4, t5, t6, t7, t8, t9, t10, t11, t12⟩ := ta_130 (.agg #[])
    go_enter Tryz.func56, Tryz.ntmps56
    go_wp2_with fail
    refine bodyPost_ret (results_c rfl _ _ w.heap.size 24 #[.string ⟨#[65, 110, 121]⟩, .string ⟨#[]⟩, .slice none 0 0] rfl ?_ row24 size24) rfl ?_
    · exact (Blk.new _ _ _).ext (Ext.alloc _ _)
    exact ⟨⟨_, _, rfl, leafIn (by decide) (by decide)⟩, (Ext.alloc _ _).trans (Ext.alloc _ _)⟩
  · obtain ⟨t1, t2, t3, t4, t5, t6, t7, t8, t9, t10, t11, t12⟩ := ta_131 (.agg #[])
    go_enter Tryz.func56, Tryz.ntmps56
    go_wp2_with fail
    refine bodyPost_ret (results_c rfl _ _ w.heap.size 24 #[.string ⟨#[78, 105, 108]⟩, .string ⟨#[]⟩, .slice none 0 0] rfl ?_ row24 size24) rfl ?_
    · exact (Blk.new _ _ _).ext (Ext.alloc _ _)
    exact ⟨⟨_, _, rfl, leafIn (by decide) (by decide)⟩, (Ext.alloc _ _).trans (Ext.alloc _ _)⟩
  · have hs : s.size ≤ 140737488351232 := by have := (tame_parts ht).2.1; omega
    clear ht
    obtain ⟨t1, t2, t3, t4, t5, t6, t7, t8, t9, t10, t11, t12⟩ := ta_132 (.string s)
    go_enter Tryz.func56, Tryz.ntmps56
    go_wp2_with fail
    refine (strT_calls s hs _).mono ?_
    rintro e w1 ⟨rfl, hE⟩
    have hB := (Blk.new w #[.string ⟨#[]⟩, .string ⟨#[]⟩, .slice none 0 0] 24).ext hE
    have hf := hB.frozen
    have hlt := hB.lt
    have hc := Blk3 hB
    have HB := Lib.hid hB
    have HE := Lib.hid hE
    clear hB hE
    go_wp2_with fail
    refine bodyPost_ret (results_c rfl _ _ w.heap.size 24 #[.string ⟨#[83, 116, 114, 105, 110, 103]⟩, .string s, .slice none 0 0] rfl ?_ row24 size24) rfl ?_
    · exact ((HB.out.set 0 _).set 1 _).set 2 _
    refine ⟨⟨_, _, rfl, leafIn (by decide) hs⟩, ?_⟩
    exact ((((Ext.alloc _ _).trans HE.out).setCell (Nat.le_refl _) _).setCell (Nat.le_refl _) _).setCell (Nat.le_refl _) _
  · have hs : s.size ≤ 140737488351232 := by have := (tame_parts ht).2.1; omega
    clear ht
    obtain ⟨t1, t2, t3, t4, t5, t6, t7, t8, t9, t10, t11, t12⟩ := ta_134 (.string s)
    go_enter Tryz.func56, Tryz.ntmps56
    go_wp2_with fail
    refine bodyPost_ret (results_c rfl _ _ w.heap.size 24 #[.string ⟨#[84, 111, 107, 101, 110]⟩, .string s, .slice none 0 0] rfl ?_ row24 size24) rfl ?_
    · exact Blk.new _ _ _
    exact ⟨⟨_, _, rfl, leafIn (by decide) hs⟩, Ext.alloc _ _⟩
theorem toTrees_take : ∀ (ks : List PN) (j : Nat) (h : j < ks.length), toTrees (ks.take (j + 1)) = toTrees (ks.take j) ++ [toTree ks[j]]
  | n :: ns, 0, _ => by simp [toTrees]
  | n :: ns, j + 1, h => by
    have := toTrees_take ns j (by simpa using h)
    simp only [List.take_succ_cons, toTrees, List.getElem_cons_succ, this, List.cons_append]
theorem toTrees_len : ∀ ks : List PN, (toTrees ks).length = ks.length
  | [] => by rw [toTrees]; rfl
  | n :: ns => by rw [toTrees, List.length_cons, toTrees_len ns]; rfl
theorem toTrees_count : ∀ {ks : List PN} (j : Nat) (hj : j < ks.length), count (toTree ks[j]) ≤ countAll (toTrees ks)
  | n :: ns, 0, _ => by rw [toTrees]; simp [countAll]
  | n :: ns, j + 1, hj => by have := toTrees_count (ks := ns) j (by simpa using hj); rw [toTrees]; simp only [countAll, List.getElem_cons_succ]; omega
def TreesRes (base : Nat) (ts : List Tree) (e : Ending) (w' : World) : Prop := ∃ a c, e = .returned (.slice a ts.length c) ∧ ts.length ≤ c ∧ KidsIn (fun b => base ≤ b) w' a ts
set_option maxRecDepth 100000 in
set_option maxHeartbeats 2000000 in
theorem trees_walk {ks : List PN} (ih : ∀ (j : Nat) (hj : j < ks.length), TreeC ks[j]) (X : Nat → Prop) (a : Option Addr) (c : Nat) (w : World) (hk : NodesAt X w a ks) (ht : tameAll (toTrees ks) = true) (hcn : countAll (toTrees ks) ≤ 1000) :
    Calls Tryz.prog 74 #[.slice a ks.length c] w fun e w' => TreesRes w.heap.size (toTrees ks) e w' ∧ Ext w w' := by
  obtain ⟨i0, hi, hz0, hz1, hz2⟩ := info_parts info24
  have hlen : ks.length ≤ 1000 := by have := countAll_len (toTrees ks); rw [toTrees_len] at this; omega
  have HK := Lib.hid (And.intro hk (And.intro ht hcn))
  clear hk ht hcn
  go_enter Tryz.func74, Tryz.ntmps74
  go_wp2_with fail
  go_loopw [3, 8] (fun v i wr => ∃ (j : Nat) (row : List (Tree × Option Addr × Nat)), i = .int .i64 j ∧ j ≤ ks.length ∧ row.map (·.1) = toTrees (ks.take j) ∧ row.length = j ∧ wr.ownsRow w.heap.size 24 3 v row.length (rowV row) ∧ (∀ x ∈ row, TreeIn (RX w.heap.size v) wr x.2.1 x.2.2 x.1) ∧ Ext w wr) (fun _ i _ => ks.length - (intOf i).toNat)
  case atStart => exact ⟨0, [], rfl, Nat.zero_le _, by simp [toTrees], rfl, World.ownsRow_nil _ _ _ _, by simp, Ext.refl _⟩
  case round =>
    obtain ⟨j, row, rfl, hj, hrow, hrl, hO, hT, hE⟩ := hrel
    have KR := Lib.hid (And.intro hrow (And.intro hT (And.intro hO hE)))
    have hrj : row.length ≤ 1000 := by omega
    have hws := hE.size
    have KL := Lib.hid hrl
    clear hrow hT hO hE hrl
    by_cases hlt : j < ks.length
    · obtain ⟨b, o, u, rfl, hb, hcell, hn⟩ := HK.out.1.get j hlt
      have hcw := KR.out.2.2.2.keep hcell
      have HN := Lib.hid (hn.mono (KR.out.2.2.2.keeps X))
      have hti := toTrees_tame HK.out.2.1 j hlt
      have hci : count (toTree ks[j]) ≤ 1000 := by have := toTrees_count j hlt; have := HK.out.2.2; omega
      have HTT := Lib.hid (And.intro hti hci)
      clear hcell hn hb hti hci
      rcases HN.out.shape with rfl | ⟨tt, xx, rfl⟩
      all_goals
        go_wp2_with fail
        refine (ih j hlt X _ _ HN.out HTT.out.1 HTT.out.2).mono ?_
        rintro e w1 ⟨⟨a1, c1, rfl, hT1⟩, hE1⟩
        have KT1 := Lib.hid (And.intro hT1 hE1)
        have hO1 := ownsRow_ext KR.out.2.2.1 hE1
        have hs1 := hE1.size
        clear hT1 hE1
        go_wp2_with (first
          | (at_builtin; refine wpList_append_own_at _ rfl _ _ 22 rfl w.heap.size 24 i0 _ 3 56 underlying22 hi hz0 hz1 hz2 rfl (by decide) _ _ _ rfl (hO1.alloc _) ⟨w1.heap.size, 0, none⟩ 1 1 [.string (toTree ks[j]).kind, .string (toTree ks[j]).text, .slice a1 (toTree ks[j]).kids.length c1] rfl rfl (cells_three_new _ _ _ _ _) (by intro u hu; simp at hu; rcases hu with rfl | rfl | rfl <;> rfl) (by unfold maxLen; omega) (by omega) (by simp; omega) ?_)
          | go_in)
        intro v' w2 hO2 hG hnil hloc
        have hown : ∀ k, u3.ownBlock = some k → w.heap.size ≤ k := fun k hk => (hO1.lt k hk).1
        have hown2 : ∀ k, u3.ownBlock = some k → k < wr.heap.size := fun k hk => (KR.out.2.2.1.lt k hk).2
        have hE2 : Ext w w2 := (((KR.out.2.2.2.trans KT1.out.2).trans (Ext.alloc _ _)).grown hG (fun k hk => hown k hk))
        have hnew : ∀ b, RX w.heap.size u3 b → b < w1.heap.size → RX w.heap.size v' b := by
          rintro b ⟨q1, q2⟩ hb
          refine ⟨q1, fun e => ?_⟩
          rcases hloc with h | h
          · exact q2 (h ▸ e)
          · rw [h] at e; cases e; exact absurd hb (by simp)
        have hturn : ∀ b o v, RX w.heap.size u3 b → w1.cell? ⟨b, o, none⟩ = some v → RX w.heap.size v' b ∧ w2.cell? ⟨b, o, none⟩ = some v := fun b o v hb hc => ⟨hnew b hb (cell_lt hc), hG.cell ((Ext.alloc _ _).keep hc) (fun e => hb.2 e.symm)⟩
        have HF := Lib.hid (And.intro hO2 (And.intro hturn (And.intro hE2 hown2)))
        clear hO2 hG hE2 hnil hO1 hloc hturn hnew hown hown2
        go_wp2_with fail
        refine ⟨⟨j + 1, row ++ [(toTree ks[j], a1, c1)], by go_num, by omega, ?_, by simp [KL.out], ?_, ?_, HF.out.2.2.1⟩, by simp [intOf]; omega⟩
        · rw [List.map_append, KR.out.1, toTrees_take ks j hlt]; rfl
        · rw [rowV_append, List.length_append]; exact HF.out.1
        · intro x hx
          rcases List.mem_append.1 hx with hx | hx
          · exact ((KR.out.2.1 x hx).mono KT1.out.2).turn HF.out.2.1
          · obtain rfl := List.mem_singleton.1 hx
            refine (KT1.out.1.imp (Y := RX w.heap.size u3) fun b hb _ => ⟨Nat.le_trans hws hb, fun e => ?_⟩).turn HF.out.2.1
            have := HF.out.2.2.2 b e
            omega
    · obtain rfl : j = ks.length := by omega
      go_wp2_with fail
      go_ret
      obtain ⟨ra, rc, rfl, hrc, hrk⟩ := kidsIn_of_owns KR.out.2.2.1 (fun x hx => (KR.out.2.1 x hx).imp fun b hb _ => hb.1)
      rw [KR.out.1, List.take_length] at hrk
      exact ⟨⟨ra, rc, ret_slice (by rw [toTrees_len, KL.out]), by rw [toTrees_len]; have := KL.out; omega, hrk⟩, KR.out.2.2.2⟩
theorem KidsIn.len_le {X : Nat → Prop} {w : World} {a : Option Addr} {c : Nat} {ts : List Tree} (h : ts.length ≤ c) : ts.length ≤ c := h
set_option maxRecDepth 100000 in
set_option maxHeartbeats 1000000 in
theorem tree_struct {nm : ByteArray} {ks : List PN} (ih : ∀ (j : Nat) (hj : j < ks.length), TreeC ks[j]) : TreeC (.struct nm ks) := by
  intro X v w hv ht hcn
  rw [NodeAt] at hv
  obtain ⟨a, c, rfl, hc, hk⟩ := hv
  rw [toTree] at ht hcn ⊢
  obtain ⟨hz, -, htk⟩ := tame_parts ht
  have hck : countAll (toTrees ks) ≤ 1000 := by simp only [count] at hcn; omega
  have HK := Lib.hid (And.intro hk (And.intro htk hck))
  have HZ := Lib.hid hz
  clear hk ht hcn htk hck hz
  obtain ⟨t1, t2, t3, t4, t5, t6, t7, t8, t9, t10, t11, t12⟩ := ta_127 (.agg #[.string nm, .slice a ks.length c])
  have HW : Hid (Ext w ((w.alloc (.cells #[.string ⟨#[]⟩, .string ⟨#[]⟩, .slice none 0 0] 24)).alloc (.cells #[.string nm, .slice a ks.length c] 127)).drew) := Lib.hid (((Ext.alloc _ _).trans (Ext.alloc _ _)).trans (Ext.drew _))
  have HB : Hid (Blk ((w.alloc (.cells #[.string ⟨#[]⟩, .string ⟨#[]⟩, .slice none 0 0] 24)).alloc (.cells #[.string nm, .slice a ks.length c] 127)).drew w.heap.size #[.string ⟨#[]⟩, .string ⟨#[]⟩, .slice none 0 0] 24) := Lib.hid (((Blk.new _ _ _).ext (Ext.alloc _ _)).ext (Ext.drew _))
  have HS : Hid (((w.alloc (.cells #[.string ⟨#[]⟩, .string ⟨#[]⟩, .slice none 0 0] 24)).alloc (.cells #[.string nm, .slice a ks.length c] 127)).drew.heap.size = w.heap.size + 2) := Lib.hid (by simp)
  obtain ⟨s0, s1⟩ := Blk2 (Blk.second w (.cells #[.string ⟨#[]⟩, .string ⟨#[]⟩, .slice none 0 0] 24) #[.string nm, .slice a ks.length c] 127)
  go_enter Tryz.func56, Tryz.ntmps56
  go_wp2_with fail
  go_region_held3 (fun w' => w'.cell? ⟨w.heap.size + 1, 0, none⟩ = some (.string nm) ∧ w'.cell? ⟨w.heap.size + 1, 1, none⟩ = some (.slice a ks.length c)) (go_keep)
    ((go_at_call 74; refine (trees_walk ih X a c _ (HK.out.1.mono (HW.out.keeps X)) HK.out.2.1 HK.out.2.2).mono ?_; rintro e w1 ⟨⟨a1, c1, rfl, hc1, hK1⟩, hE1⟩; have HB1 := HB.out.ext hE1; have fb := HB1.frozen; have lb := HB1.lt; have cb := Blk3 HB1; have j0 := hE1.keep ((Ext.drew _).keep s0); have j1 := hE1.keep ((Ext.drew _).keep s1); have HF := Lib.hid (And.intro (HW.out.trans hE1) (And.intro HB1 hK1)); have HC := Lib.hid hc1; clear hE1 HB1 hK1 hc1))
  go_wp2_with fail
  · have hX : ExtM (· = w.heap.size) w1 (((w1.setCell ⟨w.heap.size, 0, none⟩ (.string nm)).setCell ⟨w.heap.size, 1, none⟩ (.string ⟨#[]⟩)).setCell ⟨w.heap.size, 2, none⟩ (.slice a1 (toTrees ks).length c1)) := (((ExtM.refl _ w1).set1 0 _).set1 1 _).set1 2 _
    refine bodyPost_ret (results_c rfl _ _ w.heap.size 24 #[.string nm, .string ⟨#[]⟩, .slice a1 (toTrees ks).length c1] rfl ?_ row24 size24) rfl ?_
    · exact ((HF.out.2.1.set 0 _).set 1 _).set 2 _
    refine ⟨⟨a1, c1, rfl, ⟨⟨by have := HZ.out; omega, by decide⟩, HC.out, HF.out.2.2.turn fun b o v hb hv => ⟨by rw [HS.out] at hb; omega, hX.keep (by rw [HS.out] at hb; simp only; omega) hv⟩⟩⟩, ?_⟩
    exact ((HF.out.1.setCell (Nat.le_refl _) _).setCell (Nat.le_refl _) _).setCell (Nat.le_refl _) _
set_option maxRecDepth 100000 in
set_option maxHeartbeats 1000000 in
theorem tree_or {ks : List PN} (ih : ∀ (j : Nat) (hj : j < ks.length), TreeC ks[j]) : TreeC (.or ks) := by
  intro X v w hv ht hcn
  rw [NodeAt] at hv
  obtain ⟨a, c, rfl, hc, hk⟩ := hv
  rw [toTree] at ht hcn ⊢
  obtain ⟨hz, -, htk⟩ := tame_parts ht
  have hck : countAll (toTrees ks) ≤ 1000 := by simp only [count] at hcn; omega
  have HK := Lib.hid (And.intro hk (And.intro htk hck))
  clear hk ht hcn htk hck hz
  obtain ⟨t1, t2, t3, t4, t5, t6, t7, t8, t9, t10, t11, t12⟩ := ta_140 (.agg #[.slice a ks.length c])
  have HW : Hid (Ext w ((w.alloc (.cells #[.string ⟨#[]⟩, .string ⟨#[]⟩, .slice none 0 0] 24)).alloc (.cells #[.slice a ks.length c] 140))) := Lib.hid ((Ext.alloc _ _).trans (Ext.alloc _ _))
  have HB : Hid (Blk ((w.alloc (.cells #[.string ⟨#[]⟩, .string ⟨#[]⟩, .slice none 0 0] 24)).alloc (.cells #[.slice a ks.length c] 140)) w.heap.size #[.string ⟨#[]⟩, .string ⟨#[]⟩, .slice none 0 0] 24) := Lib.hid ((Blk.new _ _ _).ext (Ext.alloc _ _))
  have HS : Hid (((w.alloc (.cells #[.string ⟨#[]⟩, .string ⟨#[]⟩, .slice none 0 0] 24)).alloc (.cells #[.slice a ks.length c] 140)).heap.size = w.heap.size + 2) := Lib.hid (by simp)
  go_enter Tryz.func56, Tryz.ntmps56
  go_wp2_with fail
  refine (trees_walk ih X a c _ (HK.out.1.mono (HW.out.keeps X)) HK.out.2.1 HK.out.2.2).mono ?_
  rintro e w1 ⟨⟨a1, c1, rfl, hc1, hK1⟩, hE1⟩
  have HB1 := HB.out.ext hE1
  have fb := HB1.frozen
  have lb := HB1.lt
  have cb := Blk3 HB1
  have HF := Lib.hid (And.intro (HW.out.trans hE1) (And.intro HB1 hK1))
  have HC := Lib.hid hc1
  clear hE1 HB1 hK1 hc1
  go_wp2_with fail
  · have hX : ExtM (· = w.heap.size) w1 (((w1.setCell ⟨w.heap.size, 0, none⟩ (.string ⟨#[79, 114]⟩)).setCell ⟨w.heap.size, 1, none⟩ (.string ⟨#[]⟩)).setCell ⟨w.heap.size, 2, none⟩ (.slice a1 (toTrees ks).length c1)) := (((ExtM.refl _ w1).set1 0 _).set1 1 _).set1 2 _
    refine bodyPost_ret (results_c rfl _ _ w.heap.size 24 #[.string ⟨#[79, 114]⟩, .string ⟨#[]⟩, .slice a1 (toTrees ks).length c1] rfl ?_ row24 size24) rfl ?_
    · exact ((HF.out.2.1.set 0 _).set 1 _).set 2 _
    refine ⟨⟨a1, c1, rfl, ⟨⟨by decide, by decide⟩, HC.out, HF.out.2.2.turn fun b o v hb hv => ⟨by rw [HS.out] at hb; omega, hX.keep (by rw [HS.out] at hb; simp only; omega) hv⟩⟩⟩, ?_⟩
    exact ((HF.out.1.setCell (Nat.le_refl _) _).setCell (Nat.le_refl _) _).setCell (Nat.le_refl _) _
end Go.Proofs.YtigalkobmfbdaaaGreatDoor
