/- FnWrong: parts that are refused. -/
import Derived.Test.YtigalkobmfbdaaaGreatDoorMix1r
import Derived.Test.YtigalkobmfbdaaaGreatDoorMix1g
import Derived.Test.YtigalkobmfbdaaaGreatDoorTopSZ1
set_option linter.unusedVariables false
set_option linter.unusedSimpArgs false
namespace Go.Proofs.YtigalkobmfbdaaaGreatDoor
open Go.RowKit Go.WideMaps Go.Sort
theorem cells5B {w : World} {b : Nat} {v0 v1 v2 v3 v4 : Value} (h : Blk w b #[v0, v1, v2, v3, v4] 52) : ∀ j u, [v0, v1, v2, v3, v4][j]? = some u → w.cell? ((⟨b, 0, none⟩ : Addr).add j) = some u := by
  intro j u hu
  rw [Go.WideShapes.add_plain, Nat.zero_add, h.cell]
  simpa using hu
set_option maxRecDepth 100000 in
set_option maxHeartbeats 4000000 in
theorem wrong_law (t : Syn) (a : Option Addr) (c : Nat) (b : Bool) (W : World) (hS : SynIn (LiveIn W) W a c t) (hT : TabAt W) : Calls Tryz.prog 17 #[synV t a c, .bool b] W fun e w' => e = .returned (.bool true) ∧ Ext W w' := by
  obtain ⟨i0, hi, hz0, hz1, hz2⟩ := info_parts info52
  have HS := Lib.hid hS
  have HT := Lib.hid hT
  have hE0 := Ext.alloc W (.cells (synC t a c) 52)
  have hB0 := Blk.new W (synC t a c) 52
  have HB0 := Lib.hid (And.intro hB0 hE0)
  clear hS hT hE0 hB0
  go_enter Tryz.func17, Tryz.ntmps17
  go_wp2_with fail
  refine (fitsS_calls t _ _ _ (HS.out.mono HB0.out.2)).mono ?_
  rintro e w1 ⟨rfl, hE1⟩
  have K1 := Lib.hid (And.intro (HB0.out.1.ext hE1) (HB0.out.2.trans hE1))
  clear hE1
  obtain ⟨q0, q1, q2, q3, q4⟩ := Blk5 K1.out.1
  have ql := cell_lt q0
  generalize hft : fitsS t = ft
  clear hft
  cases ft with
  | false =>
    go_wp2_with fail
    go_ret
    exact ⟨rfl, K1.out.2⟩
  | true =>
  go_wp2_with fail
  refine (partsOf_calls t _ _ _ (HS.out.mono K1.out.2)).mono ?_
  rintro e w2 ⟨rfl, hE2⟩
  have K2 := Lib.hid (And.intro (K1.out.1.ext hE2) (K1.out.2.trans hE2))
  clear hE2 q0 q1 q2 q3 q4 ql
  obtain ⟨q0, q1, q2, q3, q4⟩ := Blk5 K2.out.1
  have ql := cell_lt q0
  generalize hp1 : (partsOf t).1 = p1 at *
  generalize hp2 : (partsOf t).2 = p2 at *
  have HPP := Lib.hid (And.intro hp1 hp2)
  clear hp1 hp2
  go_wp2_with fail
  refine (right_all t 101 (by decide) ⟨#[]⟩ _ _ _ _ (HS.out.mono K2.out.2)).mono ?_
  rintro e w3 ⟨⟨rb, rfl, hrb⟩, hE3⟩
  have HRB := Lib.hid hrb
  have K3 := Lib.hid (And.intro (K2.out.1.ext hE3) (K2.out.2.trans hE3))
  clear hE3 hrb q0 q1 q2 q3 q4 ql
  obtain ⟨q0, q1, q2, q3, q4⟩ := Blk5 K3.out.1
  have ql := cell_lt q0
  cases rb with
  | false =>
    go_wp2_with fail
    go_ret
    exact ⟨rfl, K3.out.2⟩
  | true =>
  by_cases h60 : (60 : Int) < p1
  · go_wp2_with fail
    go_ret
    exact ⟨rfl, K3.out.2⟩
  by_cases h14 : (14 : Int) < p2
  · go_wp2_with fail
    go_ret
    exact ⟨rfl, K3.out.2⟩
  have hr := HRB.out rfl
  obtain ⟨f1, f2, f3⟩ := parts_fit (t := t) (m := 60) (d := 14) (by have := HPP.out.1; omega) (by have := HPP.out.2; omega) (by omega)
  obtain ⟨okf, hfine⟩ := wrong_fine hr f1 f2 f3
  have hkl : t.kids.length = (asked t.kind).size := by
    obtain ⟨k, nl, x, n, ks⟩ := t
    exact eq_of_beq (rs_node (.inl rfl) hr).2.2.2.1
  have hk0 : 0 < t.kids.length := by
    have h := (kind_ok _ (right_kind (.inl rfl) hr)).2.2
    rw [hkl]
    exact Nat.pos_of_ne_zero fun h0 => h (by
      have : (asked t.kind).toList = [] := List.eq_nil_of_length_eq_zero (by rw [size_toList]; exact h0)
      exact nil_bytes this)
  have hnull : t.null = false := by
    obtain ⟨k, nl, x, n, ks⟩ := t
    exact (rs_node (.inl rfl) hr).1
  have hk5 : t.kids.length ≤ 5 := by rw [hkl]; exact asked_le t.kind
  have HFine := Lib.hid (fun (w : World) (hx : Ext W w) => hfine (HS.out.mono hx) (HT.out.toExt hx))
  have HNone := Lib.hid (fun (w : World) (hx : Ext W w) => imatch_no (t := t) (a := a) (c := c) (.inr readsW) (HT.out.toExt hx))
  have HR := Lib.hid (And.intro hr (And.intro hk0 (And.intro hnull hk5)))
  clear hr f1 f2 f3 hfine hkl hk0 hnull hk5
  cases b with
  | false =>
    go_wp2_with fail
    obtain ⟨w4, hw4⟩ : ∃ w4, w4 = (w3.alloc (.cells #[.string ⟨#[115, 116, 114, 105, 110, 103]⟩, .bool false, .string ⟨#[97]⟩, .int .i64 0, .slice none 0 0] 52)).alloc (.cells #[.string ⟨#[83, 116, 97, 114, 69, 120, 112, 114]⟩, .bool false, .string ⟨#[]⟩, .int .i64 0, .slice (some ⟨w3.heap.size, 0, none⟩) 1 1] 52) := ⟨_, rfl⟩
    rw [← hw4]
    have hE4 : Ext w3 w4 := hw4 ▸ (Ext.alloc _ _).trans (Ext.alloc _ _)
    have hI4 : SynIn (fun _ => True) w4 (some ⟨w3.heap.size, 0, none⟩) 1 badText := badText_in (hw4 ▸ Ext.alloc _ _)
    have HC := Lib.hid (wrong_text hI4 (HT.out.toExt (K3.out.2.trans hE4)))
    have K4 := Lib.hid (And.intro (K3.out.1.ext hE4) (K3.out.2.trans hE4))
    clear hw4 hE4 hI4 q0 q1 q2 q3 q4 ql
    obtain ⟨q0, q1, q2, q3, q4⟩ := Blk5 K4.out.1
    have ql := cell_lt q0
    refine HC.out.mono ?_
    rintro e w5 ⟨rfl, hE5⟩
    have K5 := Lib.hid (And.intro (K4.out.1.ext hE5) (K4.out.2.trans hE5))
    clear hE5 q0 q1 q2 q3 q4 ql
    obtain ⟨q0, q1, q2, q3, q4⟩ := Blk5 K5.out.1
    have ql := cell_lt q0
    go_wp2_with fail
    refine (HFine.out _ K5.out.2).mono ?_
    rintro e w6 ⟨⟨a6, c6, rfl, -, -, -⟩, hE6⟩
    rw [show ([] : SL).length = 0 from rfl]
    have K6 := Lib.hid (And.intro (K5.out.1.ext hE6) (K5.out.2.trans hE6))
    clear hE6 q0 q1 q2 q3 q4 ql
    obtain ⟨q0, q1, q2, q3, q4⟩ := Blk5 K6.out.1
    have ql := cell_lt q0
    go_wp2_with fail
    refine (HNone.out _ K6.out.2).mono ?_
    rintro e w7 ⟨rfl, hE7⟩
    have K7 := Lib.hid (K6.out.2.trans hE7)
    clear hE7 q0 q1 q2 q3 q4 ql
    go_wp2_with fail
    go_ret
    exact ⟨rfl, K7.out⟩
  | true =>
    obtain ⟨g, o, hg⟩ : ∃ g o, a = some ⟨g, o, none⟩ := by
      have h0 := HR.out.2.1
      have hk := HS.out.kids.2.2
      generalize t.kids = ks at *
      cases ks with
      | nil => simp at h0
      | cons y ys =>
        obtain ⟨b, o, a', c', e, -⟩ := hk
        exact ⟨b, o, e⟩
    subst hg
    obtain ⟨l, hl1, hl2, hl3⟩ := SynsIn.row HS.out.kids.2.2
    have hll : l.length = t.kids.length := by rw [← hl1, List.length_map]
    have HL := Lib.hid (And.intro hl1 (And.intro hl2 (And.intro hl3 hll)))
    have hcc := HS.out.kids
    have HCC := Lib.hid (And.intro hcc.1 hcc.2.1)
    clear hl1 hl2 hl3 hll hcc
    have hlen5 := HR.out.2.2.2
    have hk0 := HR.out.2.1
    go_upto_region 9 with fail
    obtain ⟨wx, hwx⟩ : ∃ wx, wx = (w3.alloc (.cells #[.string ⟨#[115, 116, 114, 105, 110, 103]⟩, .bool false, .string ⟨#[97]⟩, .int .i64 0, .slice none 0 0] 52)).alloc (.cells #[.string t.kind, .bool false, .string ⟨#[]⟩, .int .i64 0, .slice none 0 0] 52) := ⟨_, rfl⟩
    rw [← hwx]
    have hEx : Ext w3 wx := hwx ▸ (Ext.alloc _ _).trans (Ext.alloc _ _)
    have hBx : Blk wx (w3.heap.size + 1) #[.string t.kind, .bool false, .string ⟨#[]⟩, .int .i64 0, .slice none 0 0] 52 := by
      rw [hwx]
      exact Blk.second _ _ _ _
    have hsx : wx.heap.size = w3.heap.size + 2 := by rw [hwx]; simp
    have KX := Lib.hid (And.intro hEx (And.intro hBx (And.intro (K3.out.1.ext hEx) (K3.out.2.trans hEx))))
    clear hwx hEx hBx q0 q1 q2 q3 q4 ql
    obtain ⟨q0, q1, q2, q3, q4⟩ := Blk5 KX.out.2.2.1
    have ql := cell_lt q0
    obtain ⟨x0, x1, x2, x3, x4⟩ := Blk5 KX.out.2.1
    have xl := cell_lt x0
    have xf := KX.out.2.1.frozen
    have HCell : Hid (∀ (w' : World), Ext W w' → ∀ j u, (rowC l)[j]? = some u → w'.cell? ((⟨g, o, none⟩ : Addr).add j) = some u) := Lib.hid (fun w' hx j u hu => by rw [Go.WideShapes.add_plain]; exact hx.keep (HL.out.2.2.1 j u hu))
    have HLen : Hid ((rowC l).length = t.kids.length * 5) := Lib.hid (by rw [rowC_len, HL.out.2.2.2])
    have HSX := Lib.hid hsx
    clear hsx
    go_region_law (first
      | (refine step_append_lies _ rfl _ _ 50 rfl (w3.heap.size + 2) 52 i0 _ 5 72 underlying50 hi hz0 hz1 hz2 rfl (by decide) (.slice none 0 0) 0 [] rfl (World.ownsRow_nil _ _ _ _) ⟨g, o, none⟩ t.kids.length c (rowC l) rfl HLen.out (HCell.out _ (KX.out.2.2.2.trans (Ext.drew _))) (rowC_one l) (by omega) (by unfold maxLen; omega) (by omega) (by have := (Ext.drew wx).size; have := HSX.out; omega) _ rfl ?_; intro g1 cap1 w5 hown1 hgrow1 hat1 hlt1; have HOW1 : Hid (w5.ownsRow (w3.heap.size + 2) 52 5 (.slice (some ⟨g1, 0, none⟩) t.kids.length cap1) t.kids.length (rowC l)) := Lib.hid (by simpa using hown1); have HE5 := Lib.hid ((Ext.drew wx).grown hgrow1 (fun k hk => by cases hk)); have HS5 := Lib.hid HE5.out.size; have r0 := HE5.out.keep q0; have r1 := HE5.out.keep q1; have r2 := HE5.out.keep q2; have r3 := HE5.out.keep q3; have r4 := HE5.out.keep q4; have rl := cell_lt r0; have HAT1 := Lib.hid hat1; clear hown1 hgrow1 hat1 hlt1)
      | (refine step_append_lies _ rfl _ _ 50 rfl (w3.heap.size + 2) 52 i0 _ 5 72 underlying50 hi hz0 hz1 hz2 rfl (by decide) (.slice none 0 0) 0 [] rfl (World.ownsRow_nil _ _ _ _) ⟨g, o, none⟩ t.kids.length c (rowC l) rfl HLen.out (HCell.out _ ((KX.out.2.2.2.trans (Ext.alloc _ _)).trans (Ext.drew _))) (rowC_one l) (by omega) (by unfold maxLen; omega) (by omega) (by have := HSX.out; simp; omega) _ rfl ?_; intro g1 cap1 w5 hown1 hgrow1 hat1 hlt1; have HOW1 : Hid (w5.ownsRow (w3.heap.size + 2) 52 5 (.slice (some ⟨g1, 0, none⟩) t.kids.length cap1) t.kids.length (rowC l)) := Lib.hid (by simpa using hown1); have HE5 := Lib.hid (((Ext.alloc wx _).trans (Ext.drew _)).grown hgrow1 (fun k hk => by cases hk)); have HS5 := Lib.hid HE5.out.size; have r0 := HE5.out.keep q0; have r1 := HE5.out.keep q1; have r2 := HE5.out.keep q2; have r3 := HE5.out.keep q3; have r4 := HE5.out.keep q4; have rl := cell_lt r0; have HNB := Lib.hid ((by have := ((Blk.new wx #[.string t.kind, .bool t.null, .string t.text, .int .i64 t.num, .slice (some ⟨g, o, none⟩) t.kids.length c] 52).ext (Ext.drew _)).extM (ExtM.of_row' hgrow1) (fun e => by cases e); exact this : Blk w5 wx.heap.size #[.string t.kind, .bool t.null, .string t.text, .int .i64 t.num, .slice (some ⟨g, o, none⟩) t.kids.length c] 52)); clear hown1 hgrow1 hat1 hlt1)
      | (refine step_append_lies _ rfl _ _ 50 rfl (w3.heap.size + 2) 52 i0 _ 5 72 underlying50 hi hz0 hz1 hz2 rfl (by decide) _ _ _ rfl (HOW1.out.alloc _) ⟨w5.heap.size, 0, none⟩ 1 1 [.string t.kind, .bool t.null, .string t.text, .int .i64 t.num, .slice (some ⟨g, o, none⟩) t.kids.length c] rfl rfl (cells5 _ _ _ _ _ _) (one5 _ _ _ _ (some ⟨g, o, none⟩, t.kids.length, c)) (by decide) (by unfold maxLen; omega) (by omega) (by have := HS5.out; have := HSX.out; simp; omega) _ rfl ?_; intro g2 cap2 w6 hown2 hgrow2 hat2 hlt2; have KG := Lib.hid (And.intro hown2 (And.intro hgrow2 hat2)); have B6 := Lib.hid (((KX.out.2.1.ext HE5.out).ext (Ext.alloc _ _)).extM (ExtM.of_row' hgrow2) (fun e => by have := (HOW1.out.lt _ e).1; omega)); have E6 : Hid (Ext wx w6) := Lib.hid (((HE5.out.trans (Ext.alloc _ _))).grown hgrow2 (fun k hk => by have := (HOW1.out.lt _ hk).1; have := HSX.out; omega)); have y4 := (Blk5 B6.out).2.2.2.2; have f6 := B6.out.frozen 4; have l6 := B6.out.lt; clear hown2 hgrow2 hat2 hlt2)
      | (refine step_append_lies _ rfl _ _ 50 rfl (w3.heap.size + 2) 52 i0 _ 5 72 underlying50 hi hz0 hz1 hz2 rfl (by decide) _ _ _ rfl HOW1.out ⟨wx.heap.size, 0, none⟩ 1 1 [.string t.kind, .bool t.null, .string t.text, .int .i64 t.num, .slice (some ⟨g, o, none⟩) t.kids.length c] rfl rfl (cells5B HNB.out) (one5 _ _ _ _ (some ⟨g, o, none⟩, t.kids.length, c)) (by decide) (by unfold maxLen; omega) (by omega) (by have := HS5.out; have := HSX.out; omega) _ rfl ?_; intro g2 cap2 w6 hown2 hgrow2 hat2 hlt2; have KG := Lib.hid (And.intro hown2 (And.intro hgrow2 hat2)); have B6 := Lib.hid ((KX.out.2.1.ext HE5.out).extM (ExtM.of_row' hgrow2) (fun e => by have := (HOW1.out.lt _ e).1; omega)); have E6 : Hid (Ext wx w6) := Lib.hid (HE5.out.grown hgrow2 (fun k hk => by have := (HOW1.out.lt _ hk).1; have := HSX.out; omega)); have y4 := (Blk5 B6.out).2.2.2.2; have f6 := B6.out.frozen 4; have l6 := B6.out.lt; clear hown2 hgrow2 hat2 hlt2))
    all_goals
      have hx7 : Ext W (w6.setCell ⟨w3.heap.size + 1, 4, none⟩ (.slice (some ⟨g2, 0, none⟩) (t.kids.length + 1) cap2)) := (KX.out.2.2.2.trans E6.out).setCell (p := ⟨w3.heap.size + 1, 4, none⟩) (by have := K3.out.2.size; simp only; omega) _
      have hb7 : Blk (w6.setCell ⟨w3.heap.size + 1, 4, none⟩ (.slice (some ⟨g2, 0, none⟩) (t.kids.length + 1) cap2)) (w3.heap.size + 1) #[.string t.kind, .bool false, .string ⟨#[]⟩, .int .i64 0, .slice (some ⟨g2, 0, none⟩) (t.kids.length + 1) cap2] 52 := by simpa using B6.out.set 4 (.slice (some ⟨g2, 0, none⟩) (t.kids.length + 1) cap2)
      have hn7 : Blk (w6.setCell ⟨w3.heap.size + 1, 4, none⟩ (.slice (some ⟨g2, 0, none⟩) (t.kids.length + 1) cap2)) W.heap.size (synC t (some ⟨g, o, none⟩) c) 52 := (KX.out.2.2.1.ext E6.out).set_other (by have := K3.out.1.lt; simp only; omega) _
      generalize hw7 : w6.setCell ⟨w3.heap.size + 1, 4, none⟩ (.slice (some ⟨g2, 0, none⟩) (t.kids.length + 1) cap2) = w7
      rw [hw7] at hx7 hb7 hn7
      clear hw7 q0 q1 q2 q3 q4 ql x0 x1 x2 x3 x4 xl xf r0 r1 r2 r3 r4 rl y4 f6 l6
      have HC : Hid (Calls Tryz.prog 37 #[.string ⟨#[40, 83, 116, 97, 114, 69, 120, 112, 114, 32, 95, 41]⟩, .agg #[.string t.kind, .bool false, .string ⟨#[]⟩, .int .i64 0, .slice (some ⟨g2, 0, none⟩) (t.kids.length + 1) cap2]] w7 fun e w' => e = .returned (.tuple #[.bool false, .slice none 0 0, .int .i64 2]) ∧ Ext w7 w') := Lib.hid (by
        have := wrong_many HR.out.1 (some ⟨g2, 0, none⟩) cap2 (HT.out.toExt hx7)
        simpa only [synV, skind_mk, snull_mk, stext_mk, snum_mk, skids_mk, List.length_append, List.length_singleton] using this)
      have K7 := Lib.hid (And.intro hn7 hx7)
      obtain ⟨y0, y1, y2, y3, y4⟩ := Blk5 hb7
      have yl := cell_lt y0
      clear hn7 hx7 hb7
      obtain ⟨q0, q1, q2, q3, q4⟩ := Blk5 K7.out.1
      have ql := cell_lt q0
      go_wp2_with fail
      refine HC.out.mono ?_
      rintro e w8 ⟨rfl, hE8⟩
      have K8 := Lib.hid (And.intro (K7.out.1.ext hE8) (K7.out.2.trans hE8))
      clear hE8 q0 q1 q2 q3 q4 ql y0 y1 y2 y3 y4 yl
      obtain ⟨q0, q1, q2, q3, q4⟩ := Blk5 K8.out.1
      have ql := cell_lt q0
      go_wp2_with fail
      refine (HFine.out _ K8.out.2).mono ?_
      rintro e w9 ⟨⟨a9, c9, rfl, -, -, -⟩, hE9⟩
      rw [show ([] : SL).length = 0 from rfl]
      have K9 := Lib.hid (And.intro (K8.out.1.ext hE9) (K8.out.2.trans hE9))
      clear hE9 q0 q1 q2 q3 q4 ql
      obtain ⟨q0, q1, q2, q3, q4⟩ := Blk5 K9.out.1
      have ql := cell_lt q0
      go_wp2_with fail
      refine (HNone.out _ K9.out.2).mono ?_
      rintro e w10 ⟨rfl, hE10⟩
      have K10 := Lib.hid (K9.out.2.trans hE10)
      clear hE10 q0 q1 q2 q3 q4 ql
      go_wp2_with fail
      go_ret
      exact ⟨rfl, K10.out⟩
end Go.Proofs.YtigalkobmfbdaaaGreatDoor
