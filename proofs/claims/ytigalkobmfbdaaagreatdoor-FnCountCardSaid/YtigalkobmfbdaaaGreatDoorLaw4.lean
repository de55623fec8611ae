/- The law FnCount, walked: it answers true of every tree and choice. -/
import Derived.Test.YtigalkobmfbdaaaGreatDoorLaw6
import Derived.Maps.AppendAt
import Derived.Deep.AppendLies
set_option linter.unusedVariables false
set_option linter.unusedSimpArgs false
namespace Go.Proofs.YtigalkobmfbdaaaGreatDoor
open Go.RowKit Go.WideMaps Go.Sort
set_option maxRecDepth 100000 in
set_option maxHeartbeats 1000000 in
/-- spec.Text of a node, whatever its row of kids could grow to. -/
theorem text_struct2 (s : Int) (t : Tree) (hsp : special t.kind = false) (hm : tame t = true) (hn : count t ≤ 1000) (a : Option Addr) (c : Nat) (w : World) (hcc : t.kids.length ≤ c) (hT : KidsAt w a t.kids) : Calls Tryz.prog 23 #[treeV t a c, .int .i64 s] w fun e w' => e = .returned (.string (text s t)) ∧ Ext w w' := by
  have ih : ∀ (j : Nat) (hj : j < t.kids.length), TextC s t.kids[j] := fun j hj hm hn a c w hT => text_calls t.kids[j] s hm hn a c w hT
  have hl : t.kids.length ≤ 1000 := by obtain ⟨k, x, ks⟩ := t; have := countAll_len ks; simp only [count] at hn; simp only [kids_mk]; omega
  have HI := Lib.hid ih
  have HM := Lib.hid hm
  have hAll := tameAll_of hm
  have hcnt := countAll_of t
  have hb := textAll_take_bound s t.kids hAll
  have hg := gap_size s
  obtain ⟨hkz, -⟩ := tame_sizes hm
  simp only [special, Bool.or_eq_false_iff] at hsp
  obtain ⟨⟨⟨⟨h1, h2⟩, h3⟩, h4⟩, h5⟩ := hsp
  have HF := Lib.hid (show text s t = ⟨#[40]⟩ ++ t.kind ++ textAll s t.kids ++ ⟨#[41]⟩ by
    cases t; simp only [Tree.kind] at h1 h2 h3 h4 h5; rw [text_mk, h1, h2, h3, h4, h5]; rfl)
  have HA : Hid (∀ j, (textAll s (t.kids.take j)).size ≤ 60 * countAll t.kids) := Lib.hid hb
  clear ih hm hAll hb
  go_enter Tryz.func23, Tryz.ntmps23
  cases h8 : (bits BinOp.and IntKind.i64 s 8 != 0)
  all_goals
    have HG := Lib.hid (show gapOf s = _ by rw [gapOf, show bit s 8 = _ from h8])
    go_wp2_with fail
    go_loopw [12, 152] (fun v i w' => ∃ j : Nat, i = .int .i64 j ∧ j ≤ t.kids.length ∧ v = .string (⟨#[40]⟩ ++ t.kind ++ textAll s (t.kids.take j)) ∧ Ext (w.alloc (.cells #[.string t.kind, .string t.text, .slice a t.kids.length c] 24)) w') (fun _ i _ => t.kids.length - (intOf i).toNat)
    case atStart => exact ⟨0, rfl, Nat.zero_le _, by simp [textAll]; exact ByteArray.append_empty.symm, Ext.refl _⟩
    case round =>
      obtain ⟨j, rfl, hj, rfl, hE⟩ := hrel
      have hbj := HA.out j
      by_cases hlt : j < t.kids.length
      · obtain ⟨b, o, a', c', rfl, hbl, p0, p1, p2, ht⟩ := hT.get j hlt
        have hE2 := hE.of_alloc
        replace p0 := hE2.keep p0
        replace p1 := hE2.keep p1
        replace p2 := hE2.keep p2
        have hk := tame_kid HM.out j hlt
        have hck := count_kid t j hlt
        have hsz := (text_size s t.kids[j] hk).1
        have hTk := Lib.hid (textAll_take s t.kids j hlt)
        have hbl := Nat.lt_of_lt_of_le hbl hE2.size
        go_wp2_with fail
        refine (bracketed_of (HI.out j hlt) hk (by omega) a' c' _ (ht.mono (hE2.trans (Ext.alloc _ _)))).mono ?_
        rintro e w2 ⟨rfl, hE3⟩
        go_wp2_with fail
        exact ⟨⟨j + 1, by go_num, by omega, by rw [hTk.out, HG.out]; simp [ByteArray.append_assoc], hE.trans hE3.of_alloc⟩, by simp [intOf]; omega⟩
      · obtain rfl : j = t.kids.length := by omega
        rw [any_kids_take] at hbj
        go_wp2_with fail
        go_ret
        exact ⟨ret_string (by rw [HF.out]), hE.of_alloc⟩

/-- The kids of a tree as a row: each with where its own kids lie. -/
theorem KidsAt.row {w : World} {b : Nat} : ∀ {ts : List Tree} {o : Nat}, KidsAt w (some ⟨b, o, none⟩) ts → ∃ l : List (Tree × Option Addr × Nat), l.map (·.1) = ts ∧ (∀ x ∈ l, TreeAt w x.2.1 x.2.2 x.1) ∧ ∀ j u, (rowV l)[j]? = some u → w.cell? ⟨b, o + j, none⟩ = some u
  | [], o, _ => ⟨[], rfl, by simp, by intro j u h; simp [rowV] at h⟩
  | t :: ts, o, ⟨b', o', a', c', e, h1, h2, h3, ht, hk⟩ => by
    obtain ⟨rfl, rfl⟩ : b = b' ∧ o = o' := by simpa using e
    obtain ⟨l, hl, hT, hc⟩ := KidsAt.row hk
    refine ⟨(t, a', c') :: l, by rw [List.map_cons, hl], ?_, ?_⟩
    · intro x hx
      rcases List.mem_cons.1 hx with rfl | hx
      · exact ht
      · exact hT x hx
    · intro j u h
      rcases j with _ | _ | _ | j
      · simpa [rowV] using (by simpa [rowV] using h) ▸ h1
      · simpa [rowV] using (by simpa [rowV] using h) ▸ h2
      · simpa [rowV] using (by simpa [rowV] using h) ▸ h3
      · have := hc j u (by simpa [rowV] using h)
        rw [show o + (j + 1 + 1 + 1) = o + 3 + j by omega]
        exact this
theorem rowV_len (l : List (Tree × Option Addr × Nat)) : (rowV l).length = l.length * 3 := by
  induction l with
  | nil => rfl
  | cons x l ih => obtain ⟨t, a, c⟩ := x; simp only [rowV, List.length_cons, ih]; omega
theorem rowV_one (l : List (Tree × Option Addr × Nat)) : ∀ u ∈ rowV l, u.oneCell' = true := by
  induction l with
  | nil => intro u h; simp [rowV] at h
  | cons x l ih =>
    obtain ⟨t, a, c⟩ := x
    intro u h
    simp only [rowV, List.mem_cons] at h
    rcases h with rfl | rfl | rfl | h
    · rfl
    · rfl
    · rfl
    · exact ih u h
theorem any_good : good anyT 97 = true := by decide +kernel
/-- A node of a type with other kids. -/
theorem other_kids {t : Tree} (hg : good t 97 = true) (hf : fields t.kind ≠ []) (ks : List Tree) (hs : ∀ u ∈ ks, u ∈ t.kids ∨ u = anyT) (hc : countAll ks ≤ 100) :
    special t.kind = false ∧ tame (.mk t.kind noT ks) = true ∧ (ks.length ≠ t.kids.length → Reads true (text 0 (.mk t.kind noT ks)) none) := by
  obtain ⟨-, -, hn, -⟩ := entry_one hg hf [] []
  obtain ⟨k, x, kk⟩ := t
  simp only [kind_mk, kids_mk] at *
  obtain ⟨y, hy, rfl⟩ := fieldsT_key hf
  obtain ⟨z1, -, -, h6, h1, h2, h3, h7, h4, h5⟩ := named_facts y hy
  obtain ⟨hks, -, -⟩ := good_node hg h1 h2 h3 h4 h5
  have hall : ∀ u ∈ ks, ∃ c, good u c = true := fun u hu => by
    rcases hs u hu with h | rfl
    · exact hks u h
    · exact ⟨97, any_good⟩
  have hl : kk.length = (args y.1).length := by
    rcases good_node_kind hg h1 h2 h3 h4 h5 with ⟨e, -⟩ | ⟨e, -⟩ | ⟨-, e⟩
    · rw [e, toList_mk] at h6; exact absurd h6 (by decide)
    · rw [e, toList_mk] at h7; exact absurd h7 (by decide)
    · exact e
  refine ⟨by unfold special; rw [h1, h2, h3, h4, h5]; rfl, tame_of (by rw [h4]; rfl) z1 (by decide) (fun u hu => by obtain ⟨c, h⟩ := hall u hu; exact good_tame u c h), fun hne => reads_count true hn hall (by omega) (by omega)⟩
theorem q_set {w w5 : World} {g pb base n c2 : Nat} {s0 s1 u : Value} {pcs : Array Value} {a2 : Option Addr} {l : List (Tree × Option Addr × Nat)} (hE : Ext w w5) (hq : Blk w5 g #[s0, s1, u] 24) (hp : Blk w5 pb pcs 24) (hne : pb ≠ g) (hgw : w.heap.size ≤ g) (hln : l.length = n) (hO : w5.ownsRow base 24 3 (.slice a2 n c2) n (rowV l)) (hb : g < base) (hT : ∀ x ∈ l, TreeAt w x.2.1 x.2.2 x.1) :
    (n ≤ c2 ∧ KidsAt (w5.setCell ⟨g, 2, none⟩ (.slice a2 n c2)) a2 (l.map (·.1)) ∧ Blk (w5.setCell ⟨g, 2, none⟩ (.slice a2 n c2)) g #[s0, s1, .slice a2 n c2] 24 ∧ Blk (w5.setCell ⟨g, 2, none⟩ (.slice a2 n c2)) pb pcs 24 ∧ Ext w (w5.setCell ⟨g, 2, none⟩ (.slice a2 n c2))) ∧ (w5.setCell ⟨g, 2, none⟩ (.slice a2 n c2)).ownsRow base 24 3 (.slice a2 n c2) n (rowV l) := by
  subst hln
  have hX : ExtM (· = g) w5 (w5.setCell ⟨g, 2, none⟩ (.slice a2 l.length c2)) := (ExtM.refl _ w5).set1 2 _
  have hEW : Ext w (w5.setCell ⟨g, 2, none⟩ (.slice a2 l.length c2)) := hE.setCell hgw _
  have hOW := ownsRow_extM hO hX (fun k hk e => by omega)
  obtain ⟨a, c, e, hc, hk⟩ := kidsAt_of_owns hOW (fun x hx => (hT x hx).mono hEW)
  injection e with e1 e2 e3
  subst e1; subst e3
  exact ⟨⟨hc, hk, hq.set 2 _, hp.set_other (by exact fun h => hne h.symm) _, hEW⟩, hOW⟩
theorem countAll_app : ∀ (a b : List Tree), countAll (a ++ b) = countAll a + countAll b
  | [], b => by simp [countAll]
  | t :: a, b => by rw [List.cons_append, countAll, countAll, countAll_app a b]; omega
theorem text_struct3 (s : Int) (t : Tree) (hsp : special t.kind = false) (hm : tame t = true) (hn : count t ≤ 1000) (a : Option Addr) (c : Nat) (w : World) (hcc : t.kids.length ≤ c) (hT : KidsAt w a t.kids) (n : Nat) (e : t.kids.length = n) : Calls Tryz.prog 23 #[.agg #[.string t.kind, .string t.text, .slice a n c], .int .i64 s] w fun e w' => e = .returned (.string (text s t)) ∧ Ext w w' := by
  subst e; exact text_struct2 s t hsp hm hn a c w hcc hT
theorem Blk.set3 {w : World} {b : Nat} {p q r : Value} {t : TypeId} (h : Blk w b #[p, q, r] t) (v : Value) : Blk (w.setCell ⟨b, 2, none⟩ v) b #[p, q, v] t := h.set 2 v
theorem kids_tail {w : World} {b o : Nat} : ∀ {ts : List Tree}, KidsAt w (some ⟨b, o, none⟩) ts → KidsAt w (some ⟨b, o + 3, none⟩) ts.tail
  | [], _ => trivial
  | _ :: _, ⟨b', o', _, _, e, _, _, _, _, hk⟩ => by
    obtain ⟨rfl, rfl⟩ : b = b' ∧ o = o' := by simpa using e
    exact hk
theorem countAll_tail (ts : List Tree) : countAll ts.tail ≤ countAll ts := by
  cases ts with
  | nil => exact Nat.le_refl _
  | cons t ts => simp only [List.tail_cons, countAll]; omega
set_option maxRecDepth 100000 in
set_option maxHeartbeats 4000000 in
theorem count_A (t : Tree) (a : Option Addr) (c : Nat) (w : World) (hA : TreeAt w a c t) (hT : TabAt w) (hk0 : t.kids.length = 0) : Calls Tryz.prog 4 #[treeV t a c, .bool false] w fun e w' => e = .returned (.bool true) ∧ Ext w w' := by
  have HA := Lib.hid (And.intro hA hT)
  have HK0 := Lib.hid hk0
  clear hk0
  have hB := Blk.new w #[.string t.kind, .string t.text, .slice a t.kids.length c] 24
  have KB := Lib.hid hB
  have hbd := nodesF_bound t 1000 (by omega)
  clear hA hT hB
  go_enter Tryz.func4, Tryz.ntmps4
  go_wp2_with fail
  refine (fitsT_calls t a c _ (HA.out.1.mono (box_ext w t a c))).mono ?_
  rintro e w1 ⟨rfl, hE1⟩
  have HE1 := Lib.hid ((box_ext w t a c).trans hE1)
  have fb := (KB.out.ext hE1).frozen
  have lb := (KB.out.ext hE1).lt
  have cb := Blk3 (KB.out.ext hE1)
  have KB1 := Lib.hid (KB.out.ext hE1)
  clear hE1
  cases hf : fitsT t
  · go_wp2_with fail
    go_ret
    exact ⟨rfl, HE1.out⟩
  clear hf
  go_wp2_with fail
  refine (nodesOf_calls t a c _ (HA.out.1.mono HE1.out)).mono ?_
  rintro e w2 ⟨rfl, hE2⟩
  have HE2 := Lib.hid (HE1.out.trans hE2)
  have fb2 := (KB1.out.ext hE2).frozen
  have lb2 := (KB1.out.ext hE2).lt
  have cb2 := Blk3 (KB1.out.ext hE2)
  have KB2 := Lib.hid (KB1.out.ext hE2)
  clear hE2 fb lb cb
  have HC : Hid ((nodesOf t).1 ≤ 60 → count t ≤ 60) := Lib.hid fun h => by have := count_of_nodes h (by omega); omega
  have hnb : 0 ≤ (nodesOf t).1 ∧ (nodesOf t).1 ≤ 1000 ∧ 0 ≤ (nodesOf t).2 ∧ (nodesOf t).2 ≤ 1000 := by unfold nodesOf; simp only; omega
  generalize nodesOf t = p at *
  obtain ⟨n, d⟩ := p
  simp only at HC hnb ⊢
  by_cases h1 : n ≤ 60
  rotate_left
  · have h1' : (60 : Int) < n := by omega
    go_wp2_with fail
    go_ret
    exact ⟨rfl, HE2.out⟩
  by_cases h2 : d ≤ 10
  rotate_left
  · have h2' : (10 : Int) < d := by omega
    go_wp2_with fail
    go_ret
    exact ⟨rfl, HE2.out⟩
  have hc60 := HC.out h1
  go_wp2_with fail
  refine (good_calls t 97 a c _ (HA.out.1.mono HE2.out)).mono ?_
  rintro e w3 ⟨rfl, hE3⟩
  have HE3 := Lib.hid (HE2.out.trans hE3)
  have fb3 := (KB2.out.ext hE3).frozen
  have lb3 := (KB2.out.ext hE3).lt
  have cb3 := Blk3 (KB2.out.ext hE3)
  have KB3 := Lib.hid (KB2.out.ext hE3)
  clear hE3 fb2 lb2 cb2
  cases hg : good t 97
  · go_wp2_with fail
    go_ret
    exact ⟨rfl, HE3.out⟩
  have HG := Lib.hid hg
  clear hg
  go_wp2_with fail
  refine (fields_calls _ _).mono ?_
  rintro e w4 ⟨a1, c1, rfl, hl1, hl2, hs, hE4⟩
  have HE4 := Lib.hid (HE3.out.trans hE4)
  have fb4 := (KB3.out.ext hE4).frozen
  have lb4 := (KB3.out.ext hE4).lt
  have cb4 := Blk3 (KB3.out.ext hE4)
  have KB4 := Lib.hid (KB3.out.ext hE4)
  clear hE4 fb3 lb3 cb3 hs
  by_cases h0 : (fields t.kind).length = 0
  · have h0' : ((((fields t.kind).length : Nat) : Int) == 0) = true := by rw [h0]; rfl
    go_wp2_with fail
    go_ret
    exact ⟨rfl, HE4.out⟩
  have h0' : ((((fields t.kind).length : Nat) : Int) == 0) = false := beq_eq_false_iff_ne.2 (by omega)
  have hk := entry_one HG.out (fun e => h0 (by rw [e]; rfl)) [] []
  have htm := good_tame t 97 HG.out
  have HK := Lib.hid (And.intro hk htm)
  have hlk : t.kids.length ≤ 60 := by obtain ⟨k, x, ks⟩ := t; have := countAll_len ks; simp only [count] at hc60; simp only [kids_mk]; omega
  clear hk htm hl1 hl2
  obtain ⟨i0, hi, hz0, hz1, hz2⟩ := info_parts info24
  have hq := Blk.new w4 #[.string t.kind, .string ⟨#[]⟩, .slice none 0 0] 24
  have fq := hq.frozen
  have lq := hq.lt
  have cq := Blk3 hq
  have HQ := Lib.hid hq
  have HX4 := Lib.hid (HE4.out.trans (Ext.alloc w4 (.cells #[.string t.kind, .string ⟨#[]⟩, .slice none 0 0] 24)))
  have hk0 := HK0.out
  have hkn : t.kids = [] := List.eq_nil_of_length_eq_zero hk0
  have HZ : Hid ((0 : Nat) ≤ 0 ∧ KidsAt (w4.alloc (.cells #[.string t.kind, .string ⟨#[]⟩, .slice none 0 0] 24)) none [] ∧ Blk (w4.alloc (.cells #[.string t.kind, .string ⟨#[]⟩, .slice none 0 0] 24)) w4.heap.size #[.string t.kind, .string ⟨#[]⟩, .slice none 0 0] 24 ∧ Blk (w4.alloc (.cells #[.string t.kind, .string ⟨#[]⟩, .slice none 0 0] 24)) w.heap.size #[.string t.kind, .string t.text, .slice a t.kids.length c] 24 ∧ Ext w (w4.alloc (.cells #[.string t.kind, .string ⟨#[]⟩, .slice none 0 0] 24))) := Lib.hid ⟨Nat.le_refl _, trivial, HQ.out, KB4.out.ext (Ext.alloc _ _), HX4.out⟩
  have HCN : Hid (countAll ([] : List Tree) ≤ 100) := Lib.hid (by simp [countAll])
  cases a with
  | none =>
    go_wp2_with fail
    have hks := other_kids HG.out (fun e => h0 (by rw [e]; rfl)) ([] : List Tree) (by simp) HCN.out
    have HS := Lib.hid hks
    have hcnt : count (.mk t.kind noT ([] : List Tree)) ≤ 101 := by simp only [count]; have := HCN.out; omega
    have hsz9 := (text_size 0 _ hks.2.1).1
    clear hks
    refine (text_struct2 0 (.mk t.kind noT ([] : List Tree)) HS.out.1 HS.out.2.1 (by omega) _ _ _ HZ.out.1 HZ.out.2.1).mono ?_
    rintro e w9 ⟨rfl, hE9⟩
    have fp9 := (HZ.out.2.2.2.1.ext hE9).frozen
    have lp9 := (HZ.out.2.2.2.1.ext hE9).lt
    have cp9 := Blk3 (HZ.out.2.2.2.1.ext hE9)
    have fq9 := (HZ.out.2.2.1.ext hE9).frozen
    have lq9 := (HZ.out.2.2.1.ext hE9).lt
    have cq9 := Blk3 (HZ.out.2.2.1.ext hE9)
    have HE9 := Lib.hid (HZ.out.2.2.2.2.trans hE9)
    clear hE9
    by_cases h9 : (text 0 (.mk t.kind noT [])).size ≤ 900
    all_goals
      go_wp2_with fail
      go_ret
      exact ⟨rfl, HE9.out⟩
  | some p =>
    go_wp2_with fail
    have hks := other_kids HG.out (fun e => h0 (by rw [e]; rfl)) ([] : List Tree) (by simp) HCN.out
    have HS := Lib.hid hks
    have hcnt : count (.mk t.kind noT ([] : List Tree)) ≤ 101 := by simp only [count]; have := HCN.out; omega
    have hsz9 := (text_size 0 _ hks.2.1).1
    clear hks
    refine (text_struct2 0 (.mk t.kind noT ([] : List Tree)) HS.out.1 HS.out.2.1 (by omega) _ _ _ HZ.out.1 HZ.out.2.1).mono ?_
    rintro e w9 ⟨rfl, hE9⟩
    have fp9 := (HZ.out.2.2.2.1.ext hE9).frozen
    have lp9 := (HZ.out.2.2.2.1.ext hE9).lt
    have cp9 := Blk3 (HZ.out.2.2.2.1.ext hE9)
    have fq9 := (HZ.out.2.2.1.ext hE9).frozen
    have lq9 := (HZ.out.2.2.1.ext hE9).lt
    have cq9 := Blk3 (HZ.out.2.2.1.ext hE9)
    have HE9 := Lib.hid (HZ.out.2.2.2.2.trans hE9)
    clear hE9
    by_cases h9 : (text 0 (.mk t.kind noT [])).size ≤ 900
    all_goals
      go_wp2_with fail
      go_ret
      exact ⟨rfl, HE9.out⟩
set_option maxRecDepth 100000 in
set_option maxHeartbeats 4000000 in
theorem count_B (t : Tree) (a : Option Addr) (c : Nat) (w : World) (hA : TreeAt w a c t) (hT : TabAt w) (hk0 : t.kids.length = 0) : Calls Tryz.prog 4 #[treeV t a c, .bool true] w fun e w' => e = .returned (.bool true) ∧ Ext w w' := by
  have HA := Lib.hid (And.intro hA hT)
  have HK0 := Lib.hid hk0
  clear hk0
  have hB := Blk.new w #[.string t.kind, .string t.text, .slice a t.kids.length c] 24
  have KB := Lib.hid hB
  have hbd := nodesF_bound t 1000 (by omega)
  clear hA hT hB
  go_enter Tryz.func4, Tryz.ntmps4
  go_wp2_with fail
  refine (fitsT_calls t a c _ (HA.out.1.mono (box_ext w t a c))).mono ?_
  rintro e w1 ⟨rfl, hE1⟩
  have HE1 := Lib.hid ((box_ext w t a c).trans hE1)
  have fb := (KB.out.ext hE1).frozen
  have lb := (KB.out.ext hE1).lt
  have cb := Blk3 (KB.out.ext hE1)
  have KB1 := Lib.hid (KB.out.ext hE1)
  clear hE1
  cases hf : fitsT t
  · go_wp2_with fail
    go_ret
    exact ⟨rfl, HE1.out⟩
  clear hf
  go_wp2_with fail
  refine (nodesOf_calls t a c _ (HA.out.1.mono HE1.out)).mono ?_
  rintro e w2 ⟨rfl, hE2⟩
  have HE2 := Lib.hid (HE1.out.trans hE2)
  have fb2 := (KB1.out.ext hE2).frozen
  have lb2 := (KB1.out.ext hE2).lt
  have cb2 := Blk3 (KB1.out.ext hE2)
  have KB2 := Lib.hid (KB1.out.ext hE2)
  clear hE2 fb lb cb
  have HC : Hid ((nodesOf t).1 ≤ 60 → count t ≤ 60) := Lib.hid fun h => by have := count_of_nodes h (by omega); omega
  have hnb : 0 ≤ (nodesOf t).1 ∧ (nodesOf t).1 ≤ 1000 ∧ 0 ≤ (nodesOf t).2 ∧ (nodesOf t).2 ≤ 1000 := by unfold nodesOf; simp only; omega
  generalize nodesOf t = p at *
  obtain ⟨n, d⟩ := p
  simp only at HC hnb ⊢
  by_cases h1 : n ≤ 60
  rotate_left
  · have h1' : (60 : Int) < n := by omega
    go_wp2_with fail
    go_ret
    exact ⟨rfl, HE2.out⟩
  by_cases h2 : d ≤ 10
  rotate_left
  · have h2' : (10 : Int) < d := by omega
    go_wp2_with fail
    go_ret
    exact ⟨rfl, HE2.out⟩
  have hc60 := HC.out h1
  go_wp2_with fail
  refine (good_calls t 97 a c _ (HA.out.1.mono HE2.out)).mono ?_
  rintro e w3 ⟨rfl, hE3⟩
  have HE3 := Lib.hid (HE2.out.trans hE3)
  have fb3 := (KB2.out.ext hE3).frozen
  have lb3 := (KB2.out.ext hE3).lt
  have cb3 := Blk3 (KB2.out.ext hE3)
  have KB3 := Lib.hid (KB2.out.ext hE3)
  clear hE3 fb2 lb2 cb2
  cases hg : good t 97
  · go_wp2_with fail
    go_ret
    exact ⟨rfl, HE3.out⟩
  have HG := Lib.hid hg
  clear hg
  go_wp2_with fail
  refine (fields_calls _ _).mono ?_
  rintro e w4 ⟨a1, c1, rfl, hl1, hl2, hs, hE4⟩
  have HE4 := Lib.hid (HE3.out.trans hE4)
  have fb4 := (KB3.out.ext hE4).frozen
  have lb4 := (KB3.out.ext hE4).lt
  have cb4 := Blk3 (KB3.out.ext hE4)
  have KB4 := Lib.hid (KB3.out.ext hE4)
  clear hE4 fb3 lb3 cb3 hs
  by_cases h0 : (fields t.kind).length = 0
  · have h0' : ((((fields t.kind).length : Nat) : Int) == 0) = true := by rw [h0]; rfl
    go_wp2_with fail
    go_ret
    exact ⟨rfl, HE4.out⟩
  have h0' : ((((fields t.kind).length : Nat) : Int) == 0) = false := beq_eq_false_iff_ne.2 (by omega)
  have hk := entry_one HG.out (fun e => h0 (by rw [e]; rfl)) [] []
  have htm := good_tame t 97 HG.out
  have HK := Lib.hid (And.intro hk htm)
  have hlk : t.kids.length ≤ 60 := by obtain ⟨k, x, ks⟩ := t; have := countAll_len ks; simp only [count] at hc60; simp only [kids_mk]; omega
  clear hk htm hl1 hl2
  obtain ⟨i0, hi, hz0, hz1, hz2⟩ := info_parts info24
  have hq := Blk.new w4 #[.string t.kind, .string ⟨#[]⟩, .slice none 0 0] 24
  have fq := hq.frozen
  have lq := hq.lt
  have cq := Blk3 hq
  have HQ := Lib.hid hq
  have HX4 := Lib.hid (HE4.out.trans (Ext.alloc w4 (.cells #[.string t.kind, .string ⟨#[]⟩, .slice none 0 0] 24)))
  have hk0 := HK0.out
  have hkn : t.kids = [] := List.eq_nil_of_length_eq_zero hk0
  have HCN : Hid (countAll [anyT] ≤ 100) := Lib.hid (by decide)
  have HNE : Hid ([anyT].length ≠ t.kids.length) := Lib.hid (by rw [hk0]; decide)
  cases a with
  | none =>
    go_wp2_with (first
      | (at_builtin; refine wpList_append_own_at _ rfl _ _ 22 rfl (w4.heap.size + 1) 24 i0 _ 3 56 underlying22 hi hz0 hz1 hz2 rfl (by decide) (.slice none 0 0) 0 [] rfl (World.ownsRow_nil _ _ _ _) ⟨w4.heap.size + 1, 0, none⟩ 1 1 [.string ⟨#[65, 110, 121]⟩, .string ⟨#[]⟩, .slice none 0 0] rfl rfl ?c1 ?c2 ?c3 ?c4 ?c5 ?_)
      | go_in)
    case c1 => have := cells_three_new (w4.alloc (.cells #[.string t.kind, .string ⟨#[]⟩, .slice none 0 0] 24)) (.string ⟨#[65, 110, 121]⟩) (.string ⟨#[]⟩) (.slice none 0 0) 24; simpa using this
    case c2 => intro u hu; simp at hu; rcases hu with rfl | rfl | rfl <;> rfl
    case c3 => decide
    case c4 => decide
    case c5 => first | (simp; done) | (simp; omega)
    intro v' w5 hO5 hG5 hnil hloc
    obtain ⟨a', c', rfl⟩ := owns_slice hO5
    have hE5 := (HX4.out.trans (Ext.alloc (w4.alloc (.cells #[.string t.kind, .string ⟨#[]⟩, .slice none 0 0] 24)) (.cells #[.string ⟨#[65, 110, 121]⟩, .string ⟨#[]⟩, .slice none 0 0] 24))).grown hG5 (by simp [Value.ownBlock])
    have hB5 := ((HQ.out.ext (Ext.alloc (w4.alloc (.cells #[.string t.kind, .string ⟨#[]⟩, .slice none 0 0] 24)) (.cells #[.string ⟨#[65, 110, 121]⟩, .string ⟨#[]⟩, .slice none 0 0] 24))).grown hG5 (by simp [Value.ownBlock]))
    have hP5 := (((KB4.out.ext (Ext.alloc w4 (.cells #[.string t.kind, .string ⟨#[]⟩, .slice none 0 0] 24))).ext (Ext.alloc (w4.alloc (.cells #[.string t.kind, .string ⟨#[]⟩, .slice none 0 0] 24)) (.cells #[.string ⟨#[65, 110, 121]⟩, .string ⟨#[]⟩, .slice none 0 0] 24))).grown hG5 (by simp [Value.ownBlock]))
    have fz := hB5.frozen
    have lz := hB5.lt
    have cz := Blk3 hB5
    have HZ0 := q_set (l := [(anyT, none, 0)]) hE5 hB5 hP5 (by omega) (by have := HE4.out.size; omega) rfl hO5 (Nat.lt_succ_self _) (by intro x hx; rw [List.mem_singleton.1 hx]; exact ⟨⟨by decide, by decide⟩, Nat.le_refl _, by decide, trivial⟩)
    have HZ := Lib.hid HZ0.1
    clear HZ0 hE5 hB5 hP5 hO5 hG5 hnil hloc
    go_wp2_with fail
    have hks := other_kids HG.out (fun e => h0 (by rw [e]; rfl)) ([anyT]) (by simp) HCN.out
    have HS := Lib.hid hks
    have hcnt : count (.mk t.kind noT ([anyT])) ≤ 101 := by simp only [count]; have := HCN.out; omega
    have hsz9 := (text_size 0 _ hks.2.1).1
    clear hks
    refine (text_struct2 0 (.mk t.kind noT ([anyT])) HS.out.1 HS.out.2.1 (by omega) _ _ _ HZ.out.1 HZ.out.2.1).mono ?_
    rintro e w9 ⟨rfl, hE9⟩
    have fp9 := (HZ.out.2.2.2.1.ext hE9).frozen
    have lp9 := (HZ.out.2.2.2.1.ext hE9).lt
    have cp9 := Blk3 (HZ.out.2.2.2.1.ext hE9)
    have fq9 := (HZ.out.2.2.1.ext hE9).frozen
    have lq9 := (HZ.out.2.2.1.ext hE9).lt
    have cq9 := Blk3 (HZ.out.2.2.1.ext hE9)
    have HE9 := Lib.hid (HZ.out.2.2.2.2.trans hE9)
    clear hE9
    by_cases h9 : (text 0 (.mk t.kind noT ([anyT]))).size ≤ 900
    · go_wp2_with fail
      refine (parse_no (al := true) (.inr (HS.out.2.2 HNE.out)) (HA.out.2.toExt HE9.out)).mono ?_
      rintro e w10 ⟨rfl, hE10⟩
      have HE10 := Lib.hid ((HE9.out.trans hE10).trans (Ext.alloc _ (.cells zeros34 34)))
      clear hE10 fp9 lp9 cp9 fq9 lq9 cq9
      go_wp2_with fail
      refine (readsF_calls (HA.out.2.toExt HE10.out)).mono ?_
      rintro e w11 ⟨rfl, hE11⟩
      go_wp2_with fail
      go_ret
      exact ⟨rfl, HE10.out.trans hE11⟩
    · go_wp2_with fail
      go_ret
      exact ⟨rfl, HE9.out⟩
  | some p =>
    go_wp2_with (first
      | (at_builtin; refine wpList_append_own_at _ rfl _ _ 22 rfl (w4.heap.size + 1) 24 i0 _ 3 56 underlying22 hi hz0 hz1 hz2 rfl (by decide) (.slice none 0 0) 0 [] rfl (World.ownsRow_nil _ _ _ _) ⟨w4.heap.size + 1, 0, none⟩ 1 1 [.string ⟨#[65, 110, 121]⟩, .string ⟨#[]⟩, .slice none 0 0] rfl rfl ?c1 ?c2 ?c3 ?c4 ?c5 ?_)
      | go_in)
    case c1 => have := cells_three_new (w4.alloc (.cells #[.string t.kind, .string ⟨#[]⟩, .slice none 0 0] 24)) (.string ⟨#[65, 110, 121]⟩) (.string ⟨#[]⟩) (.slice none 0 0) 24; simpa using this
    case c2 => intro u hu; simp at hu; rcases hu with rfl | rfl | rfl <;> rfl
    case c3 => decide
    case c4 => decide
    case c5 => first | (simp; done) | (simp; omega)
    intro v' w5 hO5 hG5 hnil hloc
    obtain ⟨a', c', rfl⟩ := owns_slice hO5
    have hE5 := (HX4.out.trans (Ext.alloc (w4.alloc (.cells #[.string t.kind, .string ⟨#[]⟩, .slice none 0 0] 24)) (.cells #[.string ⟨#[65, 110, 121]⟩, .string ⟨#[]⟩, .slice none 0 0] 24))).grown hG5 (by simp [Value.ownBlock])
    have hB5 := ((HQ.out.ext (Ext.alloc (w4.alloc (.cells #[.string t.kind, .string ⟨#[]⟩, .slice none 0 0] 24)) (.cells #[.string ⟨#[65, 110, 121]⟩, .string ⟨#[]⟩, .slice none 0 0] 24))).grown hG5 (by simp [Value.ownBlock]))
    have hP5 := (((KB4.out.ext (Ext.alloc w4 (.cells #[.string t.kind, .string ⟨#[]⟩, .slice none 0 0] 24))).ext (Ext.alloc (w4.alloc (.cells #[.string t.kind, .string ⟨#[]⟩, .slice none 0 0] 24)) (.cells #[.string ⟨#[65, 110, 121]⟩, .string ⟨#[]⟩, .slice none 0 0] 24))).grown hG5 (by simp [Value.ownBlock]))
    have fz := hB5.frozen
    have lz := hB5.lt
    have cz := Blk3 hB5
    have HZ0 := q_set (l := [(anyT, none, 0)]) hE5 hB5 hP5 (by omega) (by have := HE4.out.size; omega) rfl hO5 (Nat.lt_succ_self _) (by intro x hx; rw [List.mem_singleton.1 hx]; exact ⟨⟨by decide, by decide⟩, Nat.le_refl _, by decide, trivial⟩)
    have HZ := Lib.hid HZ0.1
    clear HZ0 hE5 hB5 hP5 hO5 hG5 hnil hloc
    go_wp2_with fail
    have hks := other_kids HG.out (fun e => h0 (by rw [e]; rfl)) ([anyT]) (by simp) HCN.out
    have HS := Lib.hid hks
    have hcnt : count (.mk t.kind noT ([anyT])) ≤ 101 := by simp only [count]; have := HCN.out; omega
    have hsz9 := (text_size 0 _ hks.2.1).1
    clear hks
    refine (text_struct2 0 (.mk t.kind noT ([anyT])) HS.out.1 HS.out.2.1 (by omega) _ _ _ HZ.out.1 HZ.out.2.1).mono ?_
    rintro e w9 ⟨rfl, hE9⟩
    have fp9 := (HZ.out.2.2.2.1.ext hE9).frozen
    have lp9 := (HZ.out.2.2.2.1.ext hE9).lt
    have cp9 := Blk3 (HZ.out.2.2.2.1.ext hE9)
    have fq9 := (HZ.out.2.2.1.ext hE9).frozen
    have lq9 := (HZ.out.2.2.1.ext hE9).lt
    have cq9 := Blk3 (HZ.out.2.2.1.ext hE9)
    have HE9 := Lib.hid (HZ.out.2.2.2.2.trans hE9)
    clear hE9
    by_cases h9 : (text 0 (.mk t.kind noT ([anyT]))).size ≤ 900
    · go_wp2_with fail
      refine (parse_no (al := true) (.inr (HS.out.2.2 HNE.out)) (HA.out.2.toExt HE9.out)).mono ?_
      rintro e w10 ⟨rfl, hE10⟩
      have HE10 := Lib.hid ((HE9.out.trans hE10).trans (Ext.alloc _ (.cells zeros34 34)))
      clear hE10 fp9 lp9 cp9 fq9 lq9 cq9
      go_wp2_with fail
      refine (readsF_calls (HA.out.2.toExt HE10.out)).mono ?_
      rintro e w11 ⟨rfl, hE11⟩
      go_wp2_with fail
      go_ret
      exact ⟨rfl, HE10.out.trans hE11⟩
    · go_wp2_with fail
      go_ret
      exact ⟨rfl, HE9.out⟩
set_option maxRecDepth 100000 in
set_option maxHeartbeats 4000000 in
theorem count_C (t : Tree) (a : Option Addr) (c : Nat) (w : World) (hA : TreeAt w a c t) (hT : TabAt w) (hk0 : ¬ t.kids.length = 0) : Calls Tryz.prog 4 #[treeV t a c, .bool true] w fun e w' => e = .returned (.bool true) ∧ Ext w w' := by
  have HA := Lib.hid (And.intro hA hT)
  have HK0 := Lib.hid hk0
  clear hk0
  have hB := Blk.new w #[.string t.kind, .string t.text, .slice a t.kids.length c] 24
  have KB := Lib.hid hB
  have hbd := nodesF_bound t 1000 (by omega)
  clear hA hT hB
  go_enter Tryz.func4, Tryz.ntmps4
  go_wp2_with fail
  refine (fitsT_calls t a c _ (HA.out.1.mono (box_ext w t a c))).mono ?_
  rintro e w1 ⟨rfl, hE1⟩
  have HE1 := Lib.hid ((box_ext w t a c).trans hE1)
  have fb := (KB.out.ext hE1).frozen
  have lb := (KB.out.ext hE1).lt
  have cb := Blk3 (KB.out.ext hE1)
  have KB1 := Lib.hid (KB.out.ext hE1)
  clear hE1
  cases hf : fitsT t
  · go_wp2_with fail
    go_ret
    exact ⟨rfl, HE1.out⟩
  clear hf
  go_wp2_with fail
  refine (nodesOf_calls t a c _ (HA.out.1.mono HE1.out)).mono ?_
  rintro e w2 ⟨rfl, hE2⟩
  have HE2 := Lib.hid (HE1.out.trans hE2)
  have fb2 := (KB1.out.ext hE2).frozen
  have lb2 := (KB1.out.ext hE2).lt
  have cb2 := Blk3 (KB1.out.ext hE2)
  have KB2 := Lib.hid (KB1.out.ext hE2)
  clear hE2 fb lb cb
  have HC : Hid ((nodesOf t).1 ≤ 60 → count t ≤ 60) := Lib.hid fun h => by have := count_of_nodes h (by omega); omega
  have hnb : 0 ≤ (nodesOf t).1 ∧ (nodesOf t).1 ≤ 1000 ∧ 0 ≤ (nodesOf t).2 ∧ (nodesOf t).2 ≤ 1000 := by unfold nodesOf; simp only; omega
  generalize nodesOf t = p at *
  obtain ⟨n, d⟩ := p
  simp only at HC hnb ⊢
  by_cases h1 : n ≤ 60
  rotate_left
  · have h1' : (60 : Int) < n := by omega
    go_wp2_with fail
    go_ret
    exact ⟨rfl, HE2.out⟩
  by_cases h2 : d ≤ 10
  rotate_left
  · have h2' : (10 : Int) < d := by omega
    go_wp2_with fail
    go_ret
    exact ⟨rfl, HE2.out⟩
  have hc60 := HC.out h1
  go_wp2_with fail
  refine (good_calls t 97 a c _ (HA.out.1.mono HE2.out)).mono ?_
  rintro e w3 ⟨rfl, hE3⟩
  have HE3 := Lib.hid (HE2.out.trans hE3)
  have fb3 := (KB2.out.ext hE3).frozen
  have lb3 := (KB2.out.ext hE3).lt
  have cb3 := Blk3 (KB2.out.ext hE3)
  have KB3 := Lib.hid (KB2.out.ext hE3)
  clear hE3 fb2 lb2 cb2
  cases hg : good t 97
  · go_wp2_with fail
    go_ret
    exact ⟨rfl, HE3.out⟩
  have HG := Lib.hid hg
  clear hg
  go_wp2_with fail
  refine (fields_calls _ _).mono ?_
  rintro e w4 ⟨a1, c1, rfl, hl1, hl2, hs, hE4⟩
  have HE4 := Lib.hid (HE3.out.trans hE4)
  have fb4 := (KB3.out.ext hE4).frozen
  have lb4 := (KB3.out.ext hE4).lt
  have cb4 := Blk3 (KB3.out.ext hE4)
  have KB4 := Lib.hid (KB3.out.ext hE4)
  clear hE4 fb3 lb3 cb3 hs
  by_cases h0 : (fields t.kind).length = 0
  · have h0' : ((((fields t.kind).length : Nat) : Int) == 0) = true := by rw [h0]; rfl
    go_wp2_with fail
    go_ret
    exact ⟨rfl, HE4.out⟩
  have h0' : ((((fields t.kind).length : Nat) : Int) == 0) = false := beq_eq_false_iff_ne.2 (by omega)
  have hk := entry_one HG.out (fun e => h0 (by rw [e]; rfl)) [] []
  have htm := good_tame t 97 HG.out
  have HK := Lib.hid (And.intro hk htm)
  have hlk : t.kids.length ≤ 60 := by obtain ⟨k, x, ks⟩ := t; have := countAll_len ks; simp only [count] at hc60; simp only [kids_mk]; omega
  clear hk htm hl1 hl2
  obtain ⟨i0, hi, hz0, hz1, hz2⟩ := info_parts info24
  have hq := Blk.new w4 #[.string t.kind, .string ⟨#[]⟩, .slice none 0 0] 24
  have fq := hq.frozen
  have lq := hq.lt
  have cq := Blk3 hq
  have HQ := Lib.hid hq
  have HX4 := Lib.hid (HE4.out.trans (Ext.alloc w4 (.cells #[.string t.kind, .string ⟨#[]⟩, .slice none 0 0] 24)))
  have hk0 := HK0.out
  obtain ⟨b, o, ak, ck, rfl, -⟩ := HA.out.1.kids.2.2.get 0 (by omega)
  obtain ⟨l, hl, hTl, hcl⟩ := HA.out.1.kids.2.2.row
  have hll : l.length = t.kids.length := by rw [← hl, List.length_map]
  have HLr := Lib.hid (And.intro hl (And.intro hTl (And.intro (fun j u h => HX4.out.keep (hcl j u h)) hll)))
  clear hl hTl hcl hll
  go_wp2_with (first
    | (at_builtin; refine wpList_append_own _ rfl _ _ 22 rfl (w4.heap.size + 1) 24 i0 _ 3 56 underlying22 hi hz0 hz1 hz2 rfl (by decide) (.slice none 0 0) 0 [] rfl (World.ownsRow_nil _ _ _ _) ⟨b, o, none⟩ t.kids.length c (rowV l) rfl ?c0 ?c1 ?c2 ?c3 ?c4 ?c5 ?_)
    | go_in)
  case c0 => rw [rowV_len, HLr.out.2.2.2]
  case c1 => intro j u hu; rw [Go.WideShapes.add_plain]; exact HLr.out.2.2.1 j u hu
  case c2 => exact rowV_one l
  case c3 => unfold maxLen; omega
  case c4 => omega
  case c5 => simp
  intro v' w5 hO5 hG5 hnil
  have hO5' : w5.ownsRow (w4.heap.size + 1) 24 3 v' t.kids.length (rowV l) := by simpa using hO5
  obtain ⟨g5, cp5, rfl, hg5b, hg5l⟩ := hO5'.form (by omega)
  have hE5 := HX4.out.grown hG5 (by simp [Value.ownBlock])
  have hB5 := HQ.out.grown hG5 (by simp [Value.ownBlock])
  have hP5 := (KB4.out.ext (Ext.alloc w4 (.cells #[.string t.kind, .string ⟨#[]⟩, .slice none 0 0] 24))).grown hG5 (by simp [Value.ownBlock])
  have fz := hB5.frozen
  have lz := hB5.lt
  have cz := Blk3 hB5
  have HZ0 := q_set (l := l) hE5 hB5 hP5 (by omega) (by have := HE4.out.size; omega) HLr.out.2.2.2 hO5' (Nat.lt_succ_self _) HLr.out.2.1
  have HY := Lib.hid HZ0
  have hcap := HZ0.1.1
  clear HZ0 hE5 hB5 hP5 hO5 hO5' hG5 hnil
  go_wp2_with (first
    | (at_builtin; refine wpList_append_own_at _ rfl _ _ 22 rfl (w4.heap.size + 1) 24 i0 _ 3 56 underlying22 hi hz0 hz1 hz2 rfl (by decide) _ _ _ rfl (HY.out.2.alloc _) ⟨w5.heap.size, 0, none⟩ 1 1 [.string ⟨#[65, 110, 121]⟩, .string ⟨#[]⟩, .slice none 0 0] rfl rfl ?d1 ?d2 ?d3 ?d4 ?d5 ?_)
    | go_in)
  case d1 => have := cells_three_new (w5.setCell ⟨w4.heap.size, 2, none⟩ (.slice (some ⟨g5, 0, none⟩) t.kids.length cp5)) (.string ⟨#[65, 110, 121]⟩) (.string ⟨#[]⟩) (.slice none 0 0) 24; simpa using this
  case d2 => intro u hu; simp at hu; rcases hu with rfl | rfl | rfl <;> rfl
  case d3 => unfold maxLen; omega
  case d4 => omega
  case d5 => first | (simp; done) | (simp; omega)
  intro v2 w6 hO6 hG6 hnil2 hloc2
  obtain ⟨a6, c6, rfl⟩ := owns_slice hO6
  have hE6 := (HY.out.1.2.2.2.2.trans (Ext.alloc (w5.setCell ⟨w4.heap.size, 2, none⟩ (.slice (some ⟨g5, 0, none⟩) t.kids.length cp5)) (.cells #[.string ⟨#[65, 110, 121]⟩, .string ⟨#[]⟩, .slice none 0 0] 24))).grown hG6 (fun k hk => by have := (HY.out.2.lt k hk).1; have := HE4.out.size; omega)
  have hne6 : (some w4.heap.size : Option Nat) ≠ (Value.slice (some ⟨g5, 0, none⟩) t.kids.length cp5).ownBlock := fun e => by have := (HY.out.2.lt _ e.symm).1; omega
  have hne7 : (some w.heap.size : Option Nat) ≠ (Value.slice (some ⟨g5, 0, none⟩) t.kids.length cp5).ownBlock := fun e => by have := (HY.out.2.lt _ e.symm).1; omega
  have hB6 := (HY.out.1.2.2.1.ext (Ext.alloc (w5.setCell ⟨w4.heap.size, 2, none⟩ (.slice (some ⟨g5, 0, none⟩) t.kids.length cp5)) (.cells #[.string ⟨#[65, 110, 121]⟩, .string ⟨#[]⟩, .slice none 0 0] 24))).grown hG6 hne6
  have hP6 := (HY.out.1.2.2.2.1.ext (Ext.alloc (w5.setCell ⟨w4.heap.size, 2, none⟩ (.slice (some ⟨g5, 0, none⟩) t.kids.length cp5)) (.cells #[.string ⟨#[65, 110, 121]⟩, .string ⟨#[]⟩, .slice none 0 0] 24))).grown hG6 hne7
  have fy := hB6.frozen
  have ly := hB6.lt
  have cy := Blk3 hB6
  have hO6' : w6.ownsRow (w4.heap.size + 1) 24 3 (.slice a6 (t.kids.length + 1) c6) (t.kids.length + 1) (rowV (l ++ [(anyT, none, 0)])) := by rw [rowV_append]; exact hO6
  have HW0 := q_set (l := l ++ [(anyT, none, 0)]) hE6 hB6 hP6 (by omega) (by have := HE4.out.size; omega) (by rw [List.length_append, HLr.out.2.2.2]; rfl) hO6' (Nat.lt_succ_self _) (by
    intro x hx
    rcases List.mem_append.1 hx with hx | hx
    · exact HLr.out.2.1 x hx
    · rw [List.mem_singleton.1 hx]; exact ⟨⟨by decide, by decide⟩, Nat.le_refl _, by decide, trivial⟩)
  have hmap : (l ++ [((anyT, none, 0) : Tree × Option Addr × Nat)]).map (·.1) = t.kids ++ [anyT] := by rw [List.map_append, HLr.out.1]; rfl
  rw [hmap] at HW0
  have HL9 : Hid (t.kids.length + 1 = (t.kids ++ [anyT]).length) := Lib.hid (by simp)
  have HZ := Lib.hid (And.intro (show (t.kids ++ [anyT]).length ≤ c6 by rw [← HL9.out]; exact HW0.1.1) HW0.1.2)
  have hct := countAll_of t
  have HCN : Hid (countAll (t.kids ++ [anyT]) ≤ 100) := Lib.hid (by rw [countAll_app, show countAll [anyT] = 1 by decide]; omega)
  have HNE : Hid ((t.kids ++ [anyT]).length ≠ t.kids.length) := Lib.hid (by simp)
  have hneq : (((t.kids.length : Nat) : Int) + 1 == (t.kids.length : Nat)) = false := beq_eq_false_iff_ne.2 (by omega)
  clear HW0 hE6 hB6 hP6 hO6 hO6' hG6 hnil2 hloc2 hne6 hne7 hmap HY fz lz cz hct
  go_wp2_with fail
  have hks := other_kids HG.out (fun e => h0 (by rw [e]; rfl)) (t.kids ++ [anyT]) (by intro u hu; simpa using hu) HCN.out
  have HS := Lib.hid hks
  have hcnt : count (.mk t.kind noT (t.kids ++ [anyT])) ≤ 101 := by simp only [count]; have := HCN.out; omega
  have hsz9 := (text_size 0 _ hks.2.1).1
  clear hks
  refine (text_struct3 0 (.mk t.kind noT (t.kids ++ [anyT])) HS.out.1 HS.out.2.1 (by omega) _ _ _ HZ.out.1 HZ.out.2.1 _ HL9.out.symm).mono ?_
  rintro e w9 ⟨rfl, hE9⟩
  have fp9 := (HZ.out.2.2.2.1.ext hE9).frozen
  have lp9 := (HZ.out.2.2.2.1.ext hE9).lt
  have cp9 := Blk3 (HZ.out.2.2.2.1.ext hE9)
  have fq9 := (HZ.out.2.2.1.ext hE9).frozen
  have lq9 := (HZ.out.2.2.1.ext hE9).lt
  have cq9 := Blk3 (HZ.out.2.2.1.ext hE9)
  have HE9 := Lib.hid (HZ.out.2.2.2.2.trans hE9)
  clear hE9
  by_cases h9 : (text 0 (.mk t.kind noT (t.kids ++ [anyT]))).size ≤ 900
  · go_wp2_with fail
    refine (parse_no (al := true) (.inr (HS.out.2.2 HNE.out)) (HA.out.2.toExt HE9.out)).mono ?_
    rintro e w10 ⟨rfl, hE10⟩
    have HE10 := Lib.hid ((HE9.out.trans hE10).trans (Ext.alloc _ (.cells zeros34 34)))
    clear hE10 fp9 lp9 cp9 fq9 lq9 cq9
    go_wp2_with fail
    refine (readsF_calls (HA.out.2.toExt HE10.out)).mono ?_
    rintro e w11 ⟨rfl, hE11⟩
    go_wp2_with fail
    go_ret
    exact ⟨rfl, HE10.out.trans hE11⟩
  · go_wp2_with fail
    go_ret
    exact ⟨rfl, HE9.out⟩
set_option maxRecDepth 100000 in
set_option maxHeartbeats 4000000 in
theorem count_D (t : Tree) (a : Option Addr) (c : Nat) (w : World) (hA : TreeAt w a c t) (hT : TabAt w) (hk0 : ¬ t.kids.length = 0) : Calls Tryz.prog 4 #[treeV t a c, .bool false] w fun e w' => e = .returned (.bool true) ∧ Ext w w' := by
  have HA := Lib.hid (And.intro hA hT)
  have HK0 := Lib.hid hk0
  clear hk0
  have hB := Blk.new w #[.string t.kind, .string t.text, .slice a t.kids.length c] 24
  have KB := Lib.hid hB
  have hbd := nodesF_bound t 1000 (by omega)
  clear hA hT hB
  go_enter Tryz.func4, Tryz.ntmps4
  go_wp2_with fail
  refine (fitsT_calls t a c _ (HA.out.1.mono (box_ext w t a c))).mono ?_
  rintro e w1 ⟨rfl, hE1⟩
  have HE1 := Lib.hid ((box_ext w t a c).trans hE1)
  have fb := (KB.out.ext hE1).frozen
  have lb := (KB.out.ext hE1).lt
  have cb := Blk3 (KB.out.ext hE1)
  have KB1 := Lib.hid (KB.out.ext hE1)
  clear hE1
  cases hf : fitsT t
  · go_wp2_with fail
    go_ret
    exact ⟨rfl, HE1.out⟩
  clear hf
  go_wp2_with fail
  refine (nodesOf_calls t a c _ (HA.out.1.mono HE1.out)).mono ?_
  rintro e w2 ⟨rfl, hE2⟩
  have HE2 := Lib.hid (HE1.out.trans hE2)
  have fb2 := (KB1.out.ext hE2).frozen
  have lb2 := (KB1.out.ext hE2).lt
  have cb2 := Blk3 (KB1.out.ext hE2)
  have KB2 := Lib.hid (KB1.out.ext hE2)
  clear hE2 fb lb cb
  have HC : Hid ((nodesOf t).1 ≤ 60 → count t ≤ 60) := Lib.hid fun h => by have := count_of_nodes h (by omega); omega
  have hnb : 0 ≤ (nodesOf t).1 ∧ (nodesOf t).1 ≤ 1000 ∧ 0 ≤ (nodesOf t).2 ∧ (nodesOf t).2 ≤ 1000 := by unfold nodesOf; simp only; omega
  generalize nodesOf t = p at *
  obtain ⟨n, d⟩ := p
  simp only at HC hnb ⊢
  by_cases h1 : n ≤ 60
  rotate_left
  · have h1' : (60 : Int) < n := by omega
    go_wp2_with fail
    go_ret
    exact ⟨rfl, HE2.out⟩
  by_cases h2 : d ≤ 10
  rotate_left
  · have h2' : (10 : Int) < d := by omega
    go_wp2_with fail
    go_ret
    exact ⟨rfl, HE2.out⟩
  have hc60 := HC.out h1
  go_wp2_with fail
  refine (good_calls t 97 a c _ (HA.out.1.mono HE2.out)).mono ?_
  rintro e w3 ⟨rfl, hE3⟩
  have HE3 := Lib.hid (HE2.out.trans hE3)
  have fb3 := (KB2.out.ext hE3).frozen
  have lb3 := (KB2.out.ext hE3).lt
  have cb3 := Blk3 (KB2.out.ext hE3)
  have KB3 := Lib.hid (KB2.out.ext hE3)
  clear hE3 fb2 lb2 cb2
  cases hg : good t 97
  · go_wp2_with fail
    go_ret
    exact ⟨rfl, HE3.out⟩
  have HG := Lib.hid hg
  clear hg
  go_wp2_with fail
  refine (fields_calls _ _).mono ?_
  rintro e w4 ⟨a1, c1, rfl, hl1, hl2, hs, hE4⟩
  have HE4 := Lib.hid (HE3.out.trans hE4)
  have fb4 := (KB3.out.ext hE4).frozen
  have lb4 := (KB3.out.ext hE4).lt
  have cb4 := Blk3 (KB3.out.ext hE4)
  have KB4 := Lib.hid (KB3.out.ext hE4)
  clear hE4 fb3 lb3 cb3 hs
  by_cases h0 : (fields t.kind).length = 0
  · have h0' : ((((fields t.kind).length : Nat) : Int) == 0) = true := by rw [h0]; rfl
    go_wp2_with fail
    go_ret
    exact ⟨rfl, HE4.out⟩
  have h0' : ((((fields t.kind).length : Nat) : Int) == 0) = false := beq_eq_false_iff_ne.2 (by omega)
  have hk := entry_one HG.out (fun e => h0 (by rw [e]; rfl)) [] []
  have htm := good_tame t 97 HG.out
  have HK := Lib.hid (And.intro hk htm)
  have hlk : t.kids.length ≤ 60 := by obtain ⟨k, x, ks⟩ := t; have := countAll_len ks; simp only [count] at hc60; simp only [kids_mk]; omega
  clear hk htm hl1 hl2
  obtain ⟨i0, hi, hz0, hz1, hz2⟩ := info_parts info24
  have hq := Blk.new w4 #[.string t.kind, .string ⟨#[]⟩, .slice none 0 0] 24
  have fq := hq.frozen
  have lq := hq.lt
  have cq := Blk3 hq
  have HQ := Lib.hid hq
  have HX4 := Lib.hid (HE4.out.trans (Ext.alloc w4 (.cells #[.string t.kind, .string ⟨#[]⟩, .slice none 0 0] 24)))
  have hk0 := HK0.out
  obtain ⟨b, o, ak, ck, rfl, -⟩ := HA.out.1.kids.2.2.get 0 (by omega)
  obtain ⟨l, hl, hTl, hcl⟩ := HA.out.1.kids.2.2.row
  have hll : l.length = t.kids.length := by rw [← hl, List.length_map]
  have HLr := Lib.hid (And.intro hl (And.intro hTl (And.intro (fun j u h => HX4.out.keep (hcl j u h)) hll)))
  clear hl hTl hcl hll
  go_wp2_with (first
    | (at_builtin; refine wpList_append_own _ rfl _ _ 22 rfl (w4.heap.size + 1) 24 i0 _ 3 56 underlying22 hi hz0 hz1 hz2 rfl (by decide) (.slice none 0 0) 0 [] rfl (World.ownsRow_nil _ _ _ _) ⟨b, o, none⟩ t.kids.length c (rowV l) rfl ?c0 ?c1 ?c2 ?c3 ?c4 ?c5 ?_)
    | go_in)
  case c0 => rw [rowV_len, HLr.out.2.2.2]
  case c1 => intro j u hu; rw [Go.WideShapes.add_plain]; exact HLr.out.2.2.1 j u hu
  case c2 => exact rowV_one l
  case c3 => unfold maxLen; omega
  case c4 => omega
  case c5 => simp
  intro v' w5 hO5 hG5 hnil
  have hO5' : w5.ownsRow (w4.heap.size + 1) 24 3 v' t.kids.length (rowV l) := by simpa using hO5
  obtain ⟨g5, cp5, rfl, hg5b, hg5l⟩ := hO5'.form (by omega)
  have hE5 := HX4.out.grown hG5 (by simp [Value.ownBlock])
  have hB5 := HQ.out.grown hG5 (by simp [Value.ownBlock])
  have hP5 := (KB4.out.ext (Ext.alloc w4 (.cells #[.string t.kind, .string ⟨#[]⟩, .slice none 0 0] 24))).grown hG5 (by simp [Value.ownBlock])
  have fz := hB5.frozen
  have lz := hB5.lt
  have cz := Blk3 hB5
  have HZ0 := q_set (l := l) hE5 hB5 hP5 (by omega) (by have := HE4.out.size; omega) HLr.out.2.2.2 hO5' (Nat.lt_succ_self _) HLr.out.2.1
  have HY := Lib.hid HZ0
  have hcap := HZ0.1.1
  clear HZ0 hE5 hB5 hP5 hO5 hO5' hG5 hnil
  have HL9 : Hid (t.kids.length - 1 = t.kids.tail.length) := Lib.hid (by simp)
  have hct := countAll_of t
  have htl := countAll_tail t.kids
  have HCN : Hid (countAll t.kids.tail ≤ 100) := Lib.hid (by omega)
  have HNE : Hid (t.kids.tail.length ≠ t.kids.length) := Lib.hid (by simp; omega)
  have hkb : 0 < t.kids.length := by omega
  have hneq : (((t.kids.length - 1 : Nat) : Int) == (t.kids.length : Nat)) = false := beq_eq_false_iff_ne.2 (by omega)
  clear hct htl
  by_cases hc1 : cp5 = 1
  · subst hc1
    have HL9 : Hid ((0 : Nat) = t.kids.tail.length) := Lib.hid (by first | (simp; done) | (simp; omega))
    have hneq1 : ((0 : Int) == ((t.kids.length : Nat) : Int)) = false := beq_eq_false_iff_ne.2 (by omega)
    have hX9 : ExtM (· = w4.heap.size) (w5.setCell ⟨w4.heap.size, 2, none⟩ (.slice (some ⟨g5, 0, none⟩) t.kids.length 1)) ((w5.setCell ⟨w4.heap.size, 2, none⟩ (.slice (some ⟨g5, 0, none⟩) t.kids.length 1)).setCell ⟨w4.heap.size, 2, none⟩ (.slice (some ⟨g5, 0, none⟩) 0 (0))) := (ExtM.refl _ _).set1 2 _
    have hE9' : Ext w ((w5.setCell ⟨w4.heap.size, 2, none⟩ (.slice (some ⟨g5, 0, none⟩) t.kids.length 1)).setCell ⟨w4.heap.size, 2, none⟩ (.slice (some ⟨g5, 0, none⟩) 0 (0))) := HY.out.1.2.2.2.2.setCell (by have := HE4.out.size; simp only; omega) _
    have hOW := ownsRow_extM HY.out.2 hX9 (fun k hk e => by omega)
    have hOW2 : World.ownsRow ((w5.setCell ⟨w4.heap.size, 2, none⟩ (.slice (some ⟨g5, 0, none⟩) t.kids.length 1)).setCell ⟨w4.heap.size, 2, none⟩ (.slice (some ⟨g5, 0, none⟩) 0 (0))) (w4.heap.size + 1) 24 3 (.slice (some ⟨g5, 0, none⟩) t.kids.length 1) l.length (rowV l) := by rw [HLr.out.2.2.2]; exact hOW
    obtain ⟨aa, cc, eaa, hcc, hkk⟩ := kidsAt_of_owns hOW2 (fun x hx => (HLr.out.2.1 x hx).mono hE9')
    injection eaa with e1 e2 e3
    subst e1
    clear e2 e3 hcc
    rw [HLr.out.1] at hkk
    have hnil9 : t.kids.tail = [] := List.eq_nil_of_length_eq_zero HL9.out.symm
    have hkt : KidsAt ((w5.setCell ⟨w4.heap.size, 2, none⟩ (.slice (some ⟨g5, 0, none⟩) t.kids.length 1)).setCell ⟨w4.heap.size, 2, none⟩ (.slice (some ⟨g5, 0, none⟩) 0 (0))) (some ⟨g5, 0, none⟩) t.kids.tail := by rw [hnil9]; trivial
    clear hnil9
    have HZ := Lib.hid (And.intro (show t.kids.tail.length ≤ 0 by have := HL9.out; omega) (And.intro hkt (And.intro (HY.out.1.2.2.1.set3 (.slice (some ⟨g5, 0, none⟩) 0 (0))) (And.intro (HY.out.1.2.2.2.1.set_other (p := ⟨w4.heap.size, 2, none⟩) (by simp only; omega) (.slice (some ⟨g5, 0, none⟩) 0 (0))) hE9'))))
    have fy := HY.out.1.2.2.1.frozen
    have ly := HY.out.1.2.2.1.lt
    have cy := Blk3 HY.out.1.2.2.1
    clear hX9 hE9' hOW hOW2 hkk hkt fy ly cy
    go_wp2_with fail
    have hks := other_kids HG.out (fun e => h0 (by rw [e]; rfl)) (t.kids.tail) (fun u hu => .inl (List.mem_of_mem_tail hu)) HCN.out
    have HS := Lib.hid hks
    have hcnt : count (.mk t.kind noT (t.kids.tail)) ≤ 101 := by simp only [count]; have := HCN.out; omega
    have hsz9 := (text_size 0 _ hks.2.1).1
    clear hks
    refine (text_struct3 0 (.mk t.kind noT (t.kids.tail)) HS.out.1 HS.out.2.1 (by omega) _ _ _ HZ.out.1 HZ.out.2.1 _ HL9.out.symm).mono ?_
    rintro e w9 ⟨rfl, hE9⟩
    have fp9 := (HZ.out.2.2.2.1.ext hE9).frozen
    have lp9 := (HZ.out.2.2.2.1.ext hE9).lt
    have cp9 := Blk3 (HZ.out.2.2.2.1.ext hE9)
    have fq9 := (HZ.out.2.2.1.ext hE9).frozen
    have lq9 := (HZ.out.2.2.1.ext hE9).lt
    have cq9 := Blk3 (HZ.out.2.2.1.ext hE9)
    have HE9 := Lib.hid (HZ.out.2.2.2.2.trans hE9)
    clear hE9
    by_cases h9 : (text 0 (.mk t.kind noT (t.kids.tail))).size ≤ 900
    · go_wp2_with fail
      refine (parse_no (al := true) (.inr (HS.out.2.2 HNE.out)) (HA.out.2.toExt HE9.out)).mono ?_
      rintro e w10 ⟨rfl, hE10⟩
      have HE10 := Lib.hid ((HE9.out.trans hE10).trans (Ext.alloc _ (.cells zeros34 34)))
      clear hE10 fp9 lp9 cp9 fq9 lq9 cq9
      go_wp2_with fail
      refine (readsF_calls (HA.out.2.toExt HE10.out)).mono ?_
      rintro e w11 ⟨rfl, hE11⟩
      go_wp2_with fail
      go_ret
      exact ⟨rfl, HE10.out.trans hE11⟩
    · go_wp2_with fail
      go_ret
      exact ⟨rfl, HE9.out⟩
  · have hX9 : ExtM (· = w4.heap.size) (w5.setCell ⟨w4.heap.size, 2, none⟩ (.slice (some ⟨g5, 0, none⟩) t.kids.length cp5)) ((w5.setCell ⟨w4.heap.size, 2, none⟩ (.slice (some ⟨g5, 0, none⟩) t.kids.length cp5)).setCell ⟨w4.heap.size, 2, none⟩ (.slice (some ⟨g5, 3, none⟩) (t.kids.length - 1) (cp5 - 1))) := (ExtM.refl _ _).set1 2 _
    have hE9' : Ext w ((w5.setCell ⟨w4.heap.size, 2, none⟩ (.slice (some ⟨g5, 0, none⟩) t.kids.length cp5)).setCell ⟨w4.heap.size, 2, none⟩ (.slice (some ⟨g5, 3, none⟩) (t.kids.length - 1) (cp5 - 1))) := HY.out.1.2.2.2.2.setCell (by have := HE4.out.size; simp only; omega) _
    have hOW := ownsRow_extM HY.out.2 hX9 (fun k hk e => by omega)
    have hOW2 : World.ownsRow ((w5.setCell ⟨w4.heap.size, 2, none⟩ (.slice (some ⟨g5, 0, none⟩) t.kids.length cp5)).setCell ⟨w4.heap.size, 2, none⟩ (.slice (some ⟨g5, 3, none⟩) (t.kids.length - 1) (cp5 - 1))) (w4.heap.size + 1) 24 3 (.slice (some ⟨g5, 0, none⟩) t.kids.length cp5) l.length (rowV l) := by rw [HLr.out.2.2.2]; exact hOW
    obtain ⟨aa, cc, eaa, hcc, hkk⟩ := kidsAt_of_owns hOW2 (fun x hx => (HLr.out.2.1 x hx).mono hE9')
    injection eaa with e1 e2 e3
    subst e1
    clear e2 e3 hcc
    rw [HLr.out.1] at hkk
    have hkt := kids_tail hkk
    rw [Nat.zero_add] at hkt
    have HZ := Lib.hid (And.intro (show t.kids.tail.length ≤ cp5 - 1 by have := HL9.out; omega) (And.intro hkt (And.intro (HY.out.1.2.2.1.set3 (.slice (some ⟨g5, 3, none⟩) (t.kids.length - 1) (cp5 - 1))) (And.intro (HY.out.1.2.2.2.1.set_other (p := ⟨w4.heap.size, 2, none⟩) (by simp only; omega) (.slice (some ⟨g5, 3, none⟩) (t.kids.length - 1) (cp5 - 1))) hE9'))))
    have fy := HY.out.1.2.2.1.frozen
    have ly := HY.out.1.2.2.1.lt
    have cy := Blk3 HY.out.1.2.2.1
    clear hX9 hE9' hOW hOW2 hkk hkt fy ly cy
    go_wp2_with fail
    have hks := other_kids HG.out (fun e => h0 (by rw [e]; rfl)) (t.kids.tail) (fun u hu => .inl (List.mem_of_mem_tail hu)) HCN.out
    have HS := Lib.hid hks
    have hcnt : count (.mk t.kind noT (t.kids.tail)) ≤ 101 := by simp only [count]; have := HCN.out; omega
    have hsz9 := (text_size 0 _ hks.2.1).1
    clear hks
    refine (text_struct3 0 (.mk t.kind noT (t.kids.tail)) HS.out.1 HS.out.2.1 (by omega) _ _ _ HZ.out.1 HZ.out.2.1 _ HL9.out.symm).mono ?_
    rintro e w9 ⟨rfl, hE9⟩
    have fp9 := (HZ.out.2.2.2.1.ext hE9).frozen
    have lp9 := (HZ.out.2.2.2.1.ext hE9).lt
    have cp9 := Blk3 (HZ.out.2.2.2.1.ext hE9)
    have fq9 := (HZ.out.2.2.1.ext hE9).frozen
    have lq9 := (HZ.out.2.2.1.ext hE9).lt
    have cq9 := Blk3 (HZ.out.2.2.1.ext hE9)
    have HE9 := Lib.hid (HZ.out.2.2.2.2.trans hE9)
    clear hE9
    by_cases h9 : (text 0 (.mk t.kind noT (t.kids.tail))).size ≤ 900
    · go_wp2_with fail
      refine (parse_no (al := true) (.inr (HS.out.2.2 HNE.out)) (HA.out.2.toExt HE9.out)).mono ?_
      rintro e w10 ⟨rfl, hE10⟩
      have HE10 := Lib.hid ((HE9.out.trans hE10).trans (Ext.alloc _ (.cells zeros34 34)))
      clear hE10 fp9 lp9 cp9 fq9 lq9 cq9
      go_wp2_with fail
      refine (readsF_calls (HA.out.2.toExt HE10.out)).mono ?_
      rintro e w11 ⟨rfl, hE11⟩
      go_wp2_with fail
      go_ret
      exact ⟨rfl, HE10.out.trans hE11⟩
    · go_wp2_with fail
      go_ret
      exact ⟨rfl, HE9.out⟩
theorem count_law (t : Tree) (a : Option Addr) (c : Nat) (more : Bool) (w : World) (hA : TreeAt w a c t) (hT : TabAt w) : Calls Tryz.prog 4 #[treeV t a c, .bool more] w fun e w' => e = .returned (.bool true) ∧ Ext w w' := by
  by_cases hk0 : t.kids.length = 0
  · cases more
    · exact count_A t a c w hA hT hk0
    · exact count_B t a c w hA hT hk0
  · cases more
    · exact count_D t a c w hA hT hk0
    · exact count_C t a c w hA hT hk0
end Go.Proofs.YtigalkobmfbdaaaGreatDoor
