/- FnTwice: a name that has a node is given none again. -/
import Derived.Test.YtigalkobmfbdaaaGreatDoorMix1s
import Derived.Test.YtigalkobmfbdaaaGreatDoorMix1q
import Derived.Test.YtigalkobmfbdaaaGreatDoorMix1g
import Derived.Test.YtigalkobmfbdaaaGreatDoorTopSZ1
set_option linter.unusedVariables false
set_option linter.unusedSimpArgs false
namespace Go.Proofs.YtigalkobmfbdaaaGreatDoor
open Go.RowKit Go.WideMaps Go.Sort
theorem ixS_in {X Y : Nat → Prop} {w w' : World} {u v : Syn} {a1 a2 : Option Addr} {c1 c2 : Nat} (h1 : SynIn X w a1 c1 u) (h2 : SynIn Y w a2 c2 v) (hE : Ext (w.alloc (.cells #[.string u.kind, .bool u.null, .string u.text, .int .i64 u.num, .slice a1 u.kids.length c1, .string v.kind, .bool v.null, .string v.text, .int .i64 v.num, .slice a2 v.kids.length c2] 52)) w') :
    SynIn (fun _ => True) w' (some ⟨w.heap.size, 0, none⟩) 2 (ixS u v) := by
  have hB := (Blk.new w #[.string u.kind, .bool u.null, .string u.text, .int .i64 u.num, .slice a1 u.kids.length c1, .string v.kind, .bool v.null, .string v.text, .int .i64 v.num, .slice a2 v.kids.length c2] 52).ext hE
  have hw := (Ext.alloc w (.cells #[.string u.kind, .bool u.null, .string u.text, .int .i64 u.num, .slice a1 u.kids.length c1, .string v.kind, .bool v.null, .string v.text, .int .i64 v.num, .slice a2 v.kids.length c2] 52)).trans hE
  rw [SynIn]
  refine ⟨⟨by decide, by decide, by decide⟩, Nat.le_refl _, by decide, ?_⟩
  rw [SynsIn]
  refine ⟨_, _, a1, c1, rfl, trivial, by rw [hB.cell]; rfl, by rw [hB.cell]; rfl, by rw [hB.cell]; rfl, by rw [hB.cell]; rfl, by rw [hB.cell]; rfl, h1.turn fun _ _ _ _ hc => ⟨trivial, hw.keep hc⟩, ?_⟩
  rw [SynsIn]
  exact ⟨_, _, a2, c2, rfl, trivial, by rw [hB.cell]; rfl, by rw [hB.cell]; rfl, by rw [hB.cell]; rfl, by rw [hB.cell]; rfl, by rw [hB.cell]; rfl, h2.turn fun _ _ _ _ hc => ⟨trivial, hw.keep hc⟩, trivial⟩
set_option maxRecDepth 100000 in
set_option maxHeartbeats 4000000 in
theorem twice_law (s : ByteArray) (t : Syn) (a : Option Addr) (c : Nat) (W : World) (hs : s.size ≤ 140737488351232) (hS : SynIn (LiveIn W) W a c t) (hT : TabAt W) : Calls Tryz.prog 16 #[.string s, synV t a c] W fun e w' => e = .returned (.bool true) ∧ Ext W w' := by
  have HS := Lib.hid hS
  have HT := Lib.hid hT
  have hE0 := Ext.alloc W (.cells (synC t a c) 52)
  have hB0 := Blk.new W (synC t a c) 52
  have HB0 := Lib.hid (And.intro hB0 hE0)
  have HWd := Lib.hid (fun w1 => word_calls s w1 hs)
  have HId : Hid (∀ w1, Calls Tryz.prog 44 #[.string s] w1 fun e w' => (∃ a c, e = .returned (.agg #[.string ⟨#[73, 100, 101, 110, 116]⟩, .bool false, .string ⟨#[]⟩, .int .i64 0, .slice a 1 c]) ∧ SynIn (fun b => w1.heap.size ≤ b) w' a c (idS s)) ∧ Ext w1 w') := Lib.hid (fun w1 => by
    have := ident_calls s hs w1
    simpa only [synV, skind_mk, snull_mk, stext_mk, snum_mk, skids_mk, List.length_singleton] using this)
  clear hS hT hE0 hB0
  by_cases hbig : (2147483647 : Int) < s.size
  · go_enter Tryz.func16, Tryz.ntmps16
    go_wp2_with fail
    go_ret
    exact ⟨rfl, HB0.out.2⟩
  go_enter Tryz.func16, Tryz.ntmps16
  go_wp2_with fail
  refine (fitsS_calls t _ _ _ (HS.out.mono HB0.out.2)).mono ?_
  rintro e w1 ⟨rfl, hE1⟩
  have K1 := Lib.hid (And.intro (HB0.out.1.ext hE1) (HB0.out.2.trans hE1))
  clear hE1
  obtain ⟨q0, q1, q2, q3, q4⟩ := Blk5 K1.out.1
  have ql := cell_lt q0
  generalize hft : fitsS t = ft
  clear hft
  cases ft with
  | false =>
    go_wp2_with fail
    go_ret
    exact ⟨rfl, K1.out.2⟩
  | true =>
  go_wp2_with fail
  refine (partsOf_calls t _ _ _ (HS.out.mono K1.out.2)).mono ?_
  rintro e w2 ⟨rfl, hE2⟩
  have K2 := Lib.hid (And.intro (K1.out.1.ext hE2) (K1.out.2.trans hE2))
  clear hE2 q0 q1 q2 q3 q4 ql
  obtain ⟨q0, q1, q2, q3, q4⟩ := Blk5 K2.out.1
  have ql := cell_lt q0
  generalize hp1 : (partsOf t).1 = p1 at *
  generalize hp2 : (partsOf t).2 = p2 at *
  have HPP := Lib.hid (And.intro hp1 hp2)
  clear hp1 hp2
  go_wp2_with fail
  refine (HWd.out _).mono ?_
  rintro e w3' ⟨rfl, rfl⟩
  cases hwd : word s.toList with
  | false =>
    clear hwd
    go_wp2_with fail
    go_ret
    exact ⟨rfl, K2.out.2⟩
  | true =>
  have HWO := Lib.hid hwd
  clear hwd
  go_wp2_with fail
  refine (right_all t 101 (by decide) ⟨#[]⟩ _ _ _ _ (HS.out.mono K2.out.2)).mono ?_
  rintro e w3 ⟨⟨rb, rfl, hrb⟩, hE3⟩
  have HRB := Lib.hid hrb
  have K3 := Lib.hid (And.intro (K2.out.1.ext hE3) (K2.out.2.trans hE3))
  clear hE3 hrb q0 q1 q2 q3 q4 ql
  obtain ⟨q0, q1, q2, q3, q4⟩ := Blk5 K3.out.1
  have ql := cell_lt q0
  cases rb with
  | false =>
    go_wp2_with fail
    go_ret
    exact ⟨rfl, K3.out.2⟩
  | true =>
  by_cases h60 : (60 : Int) < p1
  · go_wp2_with fail
    go_ret
    exact ⟨rfl, K3.out.2⟩
  by_cases h14 : (14 : Int) < p2
  · go_wp2_with fail
    go_ret
    exact ⟨rfl, K3.out.2⟩
  have hr := HRB.out rfl
  obtain ⟨f1, f2, f3⟩ := parts_fit (t := t) (m := 60) (d := 14) (by have := HPP.out.1; omega) (by have := HPP.out.2; omega) (by omega)
  have HR := Lib.hid (And.intro hr (And.intro f1 f2))
  clear hr f1 f2 f3
  have HC1 : Hid (∀ (w4 : World) (ia : Option Addr) (ic : Nat) (X : Nat → Prop), SynIn X w4 ia ic (idS s) → Ext W w4 → Calls Tryz.prog 37 #[.string ⟨#[40, 73, 110, 100, 101, 120, 69, 120, 112, 114, 32, 120, 64, 40, 73, 100, 101, 110, 116, 32, 95, 41, 32, 120, 64, 40, 73, 100, 101, 110, 116, 32, 95, 41, 41]⟩, .agg #[.string ⟨#[73, 110, 100, 101, 120, 69, 120, 112, 114]⟩, .bool false, .string ⟨#[]⟩, .int .i64 0, .slice (some ⟨w4.heap.size, 0, none⟩) 2 2]] (w4.alloc (.cells #[.string ⟨#[73, 100, 101, 110, 116]⟩, .bool false, .string ⟨#[]⟩, .int .i64 0, .slice ia 1 ic, .string t.kind, .bool t.null, .string t.text, .int .i64 t.num, .slice a t.kids.length c] 52)) fun e w' => e = .returned (.tuple #[.bool false, .slice none 0 0, .int .i64 3]) ∧ Ext w4 w') := Lib.hid (fun w4 ia ic X hI hx => by
    have h1 := ixS_in hI (HS.out.mono hx) (Ext.refl _)
    have := twice_bad HWO.out HR.out.1 HR.out.2.1 HR.out.2.2 h1 (HT.out.toExt (hx.trans (Ext.alloc _ _)))
    simp only [synV, skind_mk, snull_mk, stext_mk, snum_mk, skids_mk, List.length_cons, List.length_nil, Nat.zero_add] at this
    exact this.mono fun e w' h => ⟨h.1, (Ext.alloc _ _).trans h.2⟩)
  have HC2 : Hid (∀ (w4 : World) (ia : Option Addr) (ic : Nat) (X : Nat → Prop), SynIn X w4 ia ic (idS s) → Ext W w4 → Calls Tryz.prog 37 #[.string ⟨#[40, 73, 110, 100, 101, 120, 69, 120, 112, 114, 32, 120, 64, 40, 73, 100, 101, 110, 116, 32, 95, 41, 32, 121, 64, 40, 73, 100, 101, 110, 116, 32, 95, 41, 41]⟩, .agg #[.string ⟨#[73, 110, 100, 101, 120, 69, 120, 112, 114]⟩, .bool false, .string ⟨#[]⟩, .int .i64 0, .slice (some ⟨w4.heap.size, 0, none⟩) 2 2]] (w4.alloc (.cells #[.string ⟨#[73, 100, 101, 110, 116]⟩, .bool false, .string ⟨#[]⟩, .int .i64 0, .slice ia 1 ic, .string t.kind, .bool t.null, .string t.text, .int .i64 t.num, .slice a t.kids.length c] 52)) fun e w' => (∃ ok n a' c', e = .returned (.tuple #[.bool ok, .slice a' n c', .int .i64 0])) ∧ Ext w4 w') := Lib.hid (fun w4 ia ic X hI hx => by
    have h1 := ixS_in hI (HS.out.mono hx) (Ext.refl _)
    obtain ⟨ok, S, this⟩ := twice_fine HWO.out HR.out.1 HR.out.2.1 HR.out.2.2 h1 (HT.out.toExt (hx.trans (Ext.alloc _ _)))
    simp only [synV, skind_mk, snull_mk, stext_mk, snum_mk, skids_mk, List.length_cons, List.length_nil, Nat.zero_add] at this
    refine this.mono fun e w' h => ?_
    obtain ⟨⟨a', c', e, -⟩, hE⟩ := h
    exact ⟨⟨ok, S.length, a', c', e⟩, (Ext.alloc _ _).trans hE⟩)
  go_wp2_with fail
  go_region_law (first
    | (go_simp; go_at_call 44; refine (HId.out _).mono ?_; rintro e w4 ⟨⟨ia, ic, rfl, hI⟩, hE4⟩; have K4 := Lib.hid (And.intro hI ((Ext.drew w3).trans hE4)); have r0 := K4.out.2.keep q0; have r1 := K4.out.2.keep q1; have r2 := K4.out.2.keep q2; have r3 := K4.out.2.keep q3; have r4 := K4.out.2.keep q4; have rl := cell_lt r0; clear hI hE4)
    | (go_simp; go_at_call 37; refine (HC1.out w4 ia ic _ K4.out.1 (K3.out.2.trans K4.out.2)).mono ?_; rintro e w5 ⟨rfl, hE5⟩; have K5 := Lib.hid (K4.out.2.trans hE5); clear hE5)
    | fail)
  all_goals
    have q0 := K5.out.keep q0
    have q1 := K5.out.keep q1
    have q2 := K5.out.keep q2
    have q3 := K5.out.keep q3
    have q4 := K5.out.keep q4
    have ql := cell_lt q0
    clear r0 r1 r2 r3 r4 rl
    go_wp2_with fail
    go_region_law (first
      | (go_simp; go_at_call 44; refine (HId.out _).mono ?_; rintro e w6 ⟨⟨ja, jc, rfl, hI⟩, hE6⟩; have K6 := Lib.hid (And.intro hI ((Ext.drew w5).trans hE6)); have r0 := K6.out.2.keep q0; have r1 := K6.out.2.keep q1; have r2 := K6.out.2.keep q2; have r3 := K6.out.2.keep q3; have r4 := K6.out.2.keep q4; have rl := cell_lt r0; clear hI hE6)
      | (go_simp; go_at_call 37; refine (HC2.out w6 ja jc _ K6.out.1 ((K3.out.2.trans K5.out).trans K6.out.2)).mono ?_; rintro e w7 ⟨⟨okf, nf, af, cf, rfl⟩, hE7⟩; have K7 := Lib.hid (K6.out.2.trans hE7); clear hE7)
      | fail)
    all_goals
      have HF := Lib.hid ((K3.out.2.trans K5.out).trans K7.out)
      go_wp2_with fail
      go_ret
      exact ⟨rfl, HF.out⟩
end Go.Proofs.YtigalkobmfbdaaaGreatDoor
