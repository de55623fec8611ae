/- FnItself: a name used twice. -/
import Derived.Test.YtigalkobmfbdaaaGreatDoorMix1t
import Derived.Test.YtigalkobmfbdaaaGreatDoorMix1q
import Derived.Test.YtigalkobmfbdaaaGreatDoorEq1Z1
import Derived.Test.YtigalkobmfbdaaaGreatDoorMix1g
import Derived.Test.YtigalkobmfbdaaaGreatDoorTopSZ1
set_option linter.unusedVariables false
set_option linter.unusedSimpArgs false
namespace Go.Proofs.YtigalkobmfbdaaaGreatDoor
open Go.RowKit Go.WideMaps Go.Sort
theorem ixS_in' {X Y : Nat → Prop} {w w' : World} {u v : Syn} {a1 a2 : Option Addr} {c1 c2 : Nat} (h1 : SynIn X w a1 c1 u) (h2 : SynIn Y w a2 c2 v) (hE : Ext (w.alloc (.cells #[.string u.kind, .bool u.null, .string u.text, .int .i64 u.num, .slice a1 u.kids.length c1, .string v.kind, .bool v.null, .string v.text, .int .i64 v.num, .slice a2 v.kids.length c2] 52)) w') :
    SynIn (fun _ => True) w' (some ⟨w.heap.size, 0, none⟩) 2 (ixS u v) := by
  have hB := (Blk.new w #[.string u.kind, .bool u.null, .string u.text, .int .i64 u.num, .slice a1 u.kids.length c1, .string v.kind, .bool v.null, .string v.text, .int .i64 v.num, .slice a2 v.kids.length c2] 52).ext hE
  have hw := (Ext.alloc w (.cells #[.string u.kind, .bool u.null, .string u.text, .int .i64 u.num, .slice a1 u.kids.length c1, .string v.kind, .bool v.null, .string v.text, .int .i64 v.num, .slice a2 v.kids.length c2] 52)).trans hE
  rw [SynIn]
  refine ⟨⟨by decide, by decide, by decide⟩, Nat.le_refl _, by decide, ?_⟩
  rw [SynsIn]
  refine ⟨_, _, a1, c1, rfl, trivial, by rw [hB.cell]; rfl, by rw [hB.cell]; rfl, by rw [hB.cell]; rfl, by rw [hB.cell]; rfl, by rw [hB.cell]; rfl, h1.turn fun _ _ _ _ hc => ⟨trivial, hw.keep hc⟩, ?_⟩
  rw [SynsIn]
  exact ⟨_, _, a2, c2, rfl, trivial, by rw [hB.cell]; rfl, by rw [hB.cell]; rfl, by rw [hB.cell]; rfl, by rw [hB.cell]; rfl, by rw [hB.cell]; rfl, h2.turn fun _ _ _ _ hc => ⟨trivial, hw.keep hc⟩, trivial⟩
theorem sort_one (s : List UInt8) (x : Syn) : sortS [(s, x)] = [(s, x)] := by
  unfold sortS
  rw [show ([(s, x)] : SL).map Prod.fst = [s] from rfl, List.mergeSort_singleton]
  simp [getB]
set_option maxRecDepth 100000 in
set_option maxHeartbeats 4000000 in
theorem itself_law (t : Syn) (a : Option Addr) (c : Nat) (u : Syn) (a' : Option Addr) (c' : Nat) (W : World) (hS : SynIn (LiveIn W) W a c t) (hU : SynIn (LiveIn W) W a' c' u) (hT : TabAt W) : Calls Tryz.prog 13 #[synV t a c, synV u a' c'] W fun e w' => e = .returned (.bool true) ∧ Ext W w' := by
  have HS := Lib.hid hS
  have HU := Lib.hid hU
  have HT := Lib.hid hT
  have hE1 := Ext.alloc W (.cells (synC t a c) 52)
  have hE2 := Ext.alloc (W.alloc (.cells (synC t a c) 52)) (.cells (synC u a' c') 52)
  have hB1 := (Blk.new W (synC t a c) 52).ext hE2
  have hB2 := Blk.second W (.cells (synC t a c) 52) (synC u a' c') 52
  have HB0 := Lib.hid (And.intro hB1 (And.intro hB2 (hE1.trans hE2)))
  clear hS hU hT hE1 hE2 hB1 hB2
  go_enter Tryz.func13, Tryz.ntmps13
  go_wp2_with fail
  refine (fitsS_calls t _ _ _ (HS.out.mono HB0.out.2.2)).mono ?_
  rintro e w1 ⟨rfl, hE1⟩
  have K1 := Lib.hid (And.intro (HB0.out.1.ext hE1) (And.intro (HB0.out.2.1.ext hE1) (HB0.out.2.2.trans hE1)))
  clear hE1
  obtain ⟨q0, q1, q2, q3, q4⟩ := Blk5 K1.out.1
  obtain ⟨r0, r1, r2, r3, r4⟩ := Blk5 K1.out.2.1
  have ql := cell_lt q0
  have rl := cell_lt r0
  generalize hft : fitsS t = ft
  clear hft
  cases ft with
  | false =>
    go_wp2_with fail
    go_ret
    exact ⟨rfl, K1.out.2.2⟩
  | true =>
  go_wp2_with fail
  refine (fitsS_calls u _ _ _ (HU.out.mono K1.out.2.2)).mono ?_
  rintro e w2 ⟨rfl, hE2⟩
  have K2 := Lib.hid (And.intro (K1.out.1.ext hE2) (And.intro (K1.out.2.1.ext hE2) (K1.out.2.2.trans hE2)))
  clear hE2 q0 q1 q2 q3 q4 ql r0 r1 r2 r3 r4 rl
  obtain ⟨q0, q1, q2, q3, q4⟩ := Blk5 K2.out.1
  obtain ⟨r0, r1, r2, r3, r4⟩ := Blk5 K2.out.2.1
  have ql := cell_lt q0
  have rl := cell_lt r0
  generalize hft : fitsS u = ft
  clear hft
  cases ft with
  | false =>
    go_wp2_with fail
    go_ret
    exact ⟨rfl, K2.out.2.2⟩
  | true =>
  go_wp2_with fail
  refine (right_all t 101 (by decide) ⟨#[]⟩ _ _ _ _ (HS.out.mono K2.out.2.2)).mono ?_
  rintro e w3 ⟨⟨rb, rfl, hrb⟩, hE3⟩
  have HRB := Lib.hid hrb
  have K3 := Lib.hid (And.intro (K2.out.1.ext hE3) (And.intro (K2.out.2.1.ext hE3) (K2.out.2.2.trans hE3)))
  clear hE3 hrb q0 q1 q2 q3 q4 ql r0 r1 r2 r3 r4 rl
  obtain ⟨q0, q1, q2, q3, q4⟩ := Blk5 K3.out.1
  obtain ⟨r0, r1, r2, r3, r4⟩ := Blk5 K3.out.2.1
  have ql := cell_lt q0
  have rl := cell_lt r0
  cases rb with
  | false =>
    go_wp2_with fail
    go_ret
    exact ⟨rfl, K3.out.2.2⟩
  | true =>
  have HRT := Lib.hid (HRB.out rfl)
  clear HRB
  go_wp2_with fail
  refine (right_all u 101 (by decide) ⟨#[]⟩ _ _ _ _ (HU.out.mono K3.out.2.2)).mono ?_
  rintro e w4 ⟨⟨rb, rfl, hrb⟩, hE4⟩
  have HRB := Lib.hid hrb
  have K4 := Lib.hid (And.intro (K3.out.1.ext hE4) (And.intro (K3.out.2.1.ext hE4) (K3.out.2.2.trans hE4)))
  clear hE4 hrb q0 q1 q2 q3 q4 ql r0 r1 r2 r3 r4 rl
  obtain ⟨q0, q1, q2, q3, q4⟩ := Blk5 K4.out.1
  obtain ⟨r0, r1, r2, r3, r4⟩ := Blk5 K4.out.2.1
  have ql := cell_lt q0
  have rl := cell_lt r0
  cases rb with
  | false =>
    go_wp2_with fail
    go_ret
    exact ⟨rfl, K4.out.2.2⟩
  | true =>
  have HRU := Lib.hid (HRB.out rfl)
  clear HRB
  go_wp2_with fail
  refine (partsOf_calls t _ _ _ (HS.out.mono K4.out.2.2)).mono ?_
  rintro e w5 ⟨rfl, hE5⟩
  have K5 := Lib.hid (And.intro (K4.out.1.ext hE5) (And.intro (K4.out.2.1.ext hE5) (K4.out.2.2.trans hE5)))
  clear hE5 q0 q1 q2 q3 q4 ql r0 r1 r2 r3 r4 rl
  obtain ⟨q0, q1, q2, q3, q4⟩ := Blk5 K5.out.1
  obtain ⟨r0, r1, r2, r3, r4⟩ := Blk5 K5.out.2.1
  have ql := cell_lt q0
  have rl := cell_lt r0
  generalize hp1 : (partsOf t).1 = p1 at *
  generalize hp2 : (partsOf t).2 = p2 at *
  have HPP := Lib.hid (And.intro hp1 hp2)
  clear hp1 hp2
  go_wp2_with fail
  refine (partsOf_calls u _ _ _ (HU.out.mono K5.out.2.2)).mono ?_
  rintro e w6 ⟨rfl, hE6⟩
  have K6 := Lib.hid (And.intro (K5.out.1.ext hE6) (And.intro (K5.out.2.1.ext hE6) (K5.out.2.2.trans hE6)))
  clear hE6 q0 q1 q2 q3 q4 ql r0 r1 r2 r3 r4 rl
  obtain ⟨q0, q1, q2, q3, q4⟩ := Blk5 K6.out.1
  obtain ⟨r0, r1, r2, r3, r4⟩ := Blk5 K6.out.2.1
  have ql := cell_lt q0
  have rl := cell_lt r0
  generalize hp1 : (partsOf u).1 = p3 at *
  generalize hp2 : (partsOf u).2 = p4 at *
  have HPQ := Lib.hid (And.intro hp1 hp2)
  clear hp1 hp2
  by_cases h1 : (60 : Int) < p1
  · go_wp2_with fail
    go_ret
    exact ⟨rfl, K6.out.2.2⟩
  by_cases h2 : (60 : Int) < p3
  · go_wp2_with fail
    go_ret
    exact ⟨rfl, K6.out.2.2⟩
  by_cases h3 : (14 : Int) < p2
  · go_wp2_with fail
    go_ret
    exact ⟨rfl, K6.out.2.2⟩
  by_cases h4 : (14 : Int) < p4
  · go_wp2_with fail
    go_ret
    exact ⟨rfl, K6.out.2.2⟩
  obtain ⟨f1, f2, f3⟩ := parts_fit (t := t) (m := 60) (d := 14) (by have := HPP.out.1; omega) (by have := HPP.out.2; omega) (by omega)
  obtain ⟨g1, g2, g3⟩ := parts_fit (t := u) (m := 60) (d := 14) (by have := HPQ.out.1; omega) (by have := HPQ.out.2; omega) (by omega)
  have hrt : RS t := ⟨101, by decide, _, HRT.out⟩
  have hru : RS u := ⟨101, by decide, _, HRU.out⟩
  have HEq := Lib.hid (fun (w' : World) (hx : Ext W w') => equal_calls hrt hru f3 (HS.out.mono hx).toX (HU.out.mono hx).toX)
  have HEq2 : Hid (∀ (w0 w' : World) (X : Nat → Prop) (b : Option Addr) (k : Nat), Ext W w' → SynX X w' b k (bareS t) → Calls Tryz.prog 38 #[synV (bareS t) b k, synV t a c] w' fun e w'' => e = .returned (.bool true) ∧ Ext w' w'') := Lib.hid (fun w0 w' X b k hx hb => by
    have := equal_calls hrt.bare.1 hrt (Nat.le_trans (bare_size t hrt) f3) hb (HS.out.mono hx).toX
    rwa [eqS_bareL _ _ hrt, eqS_refl t hrt] at this)
  have HAl := Lib.hid (fun (w' : World) (hx : Ext W w') => alive_calls (HT.out.toExt hx))
  have HM : Hid (Calls Tryz.prog 37 #[.string ⟨#[40, 73, 110, 100, 101, 120, 69, 120, 112, 114, 32, 115, 97, 109, 101, 32, 115, 97, 109, 101, 41]⟩, .agg #[.string ⟨#[73, 110, 100, 101, 120, 69, 120, 112, 114]⟩, .bool false, .string ⟨#[]⟩, .int .i64 0, .slice (some ⟨w6.heap.size, 0, none⟩) 2 2]] ((w6.alloc (.cells #[.string t.kind, .bool t.null, .string t.text, .int .i64 t.num, .slice a t.kids.length c, .string u.kind, .bool u.null, .string u.text, .int .i64 u.num, .slice a' u.kids.length c'] 52)).alloc (.cells #[.string ⟨#[73, 110, 100, 101, 120, 69, 120, 112, 114]⟩, .bool false, .string ⟨#[]⟩, .int .i64 0, .slice (some ⟨w6.heap.size, 0, none⟩) 2 2] 52)) (MatchRes ((w6.alloc (.cells #[.string t.kind, .bool t.null, .string t.text, .int .i64 t.num, .slice a t.kids.length c, .string u.kind, .bool u.null, .string u.text, .int .i64 u.num, .slice a' u.kids.length c'] 52)).alloc (.cells #[.string ⟨#[73, 110, 100, 101, 120, 69, 120, 112, 114]⟩, .bool false, .string ⟨#[]⟩, .int .i64 0, .slice (some ⟨w6.heap.size, 0, none⟩) 2 2] 52)) (eqS t u) [([115, 97, 109, 101], bareS t)])) := Lib.hid (by
    have h1 := ixS_in' (HS.out.mono K6.out.2.2) (HU.out.mono K6.out.2.2) (Ext.alloc _ (.cells #[.string ⟨#[73, 110, 100, 101, 120, 69, 120, 112, 114]⟩, .bool false, .string ⟨#[]⟩, .int .i64 0, .slice (some ⟨w6.heap.size, 0, none⟩) 2 2] 52))
    have := itself_match HRT.out HRU.out f1 f2 g1 g2 h1 (HT.out.toExt ((K6.out.2.2.trans (Ext.alloc _ _)).trans (Ext.alloc _ _)))
    simpa only [synV, skind_mk, snull_mk, stext_mk, snum_mk, skids_mk, List.length_cons, List.length_nil, Nat.zero_add] using this)
  have HE7 : Hid (Ext w6 ((w6.alloc (.cells #[.string t.kind, .bool t.null, .string t.text, .int .i64 t.num, .slice a t.kids.length c, .string u.kind, .bool u.null, .string u.text, .int .i64 u.num, .slice a' u.kids.length c'] 52)).alloc (.cells #[.string ⟨#[73, 110, 100, 101, 120, 69, 120, 112, 114]⟩, .bool false, .string ⟨#[]⟩, .int .i64 0, .slice (some ⟨w6.heap.size, 0, none⟩) 2 2] 52))) := Lib.hid ((Ext.alloc _ _).trans (Ext.alloc _ _))
  clear f1 f2 f3 g1 g2 g3 hrt hru
  go_wp2_with fail
  refine HM.out.mono ?_
  rintro e w8 ⟨⟨b, k, rfl, hk1, hk2, hbn⟩, hE8⟩
  rw [sort_one] at hbn
  obtain ⟨g, o, kk, ka, kc, hb0, -, -, -, n0, n1, n2, n3, n4, hx, -⟩ := hbn
  rw [show ([([115, 97, 109, 101], bareS t)] : SL).length = 1 from rfl]
  subst hb0
  have K8 := Lib.hid (And.intro (K6.out.1.ext (HE7.out.trans hE8)) (And.intro (K6.out.2.1.ext (HE7.out.trans hE8)) (K6.out.2.2.trans (HE7.out.trans hE8))))
  have HX8 := Lib.hid hx
  clear q0 q1 q2 q3 q4 ql r0 r1 r2 r3 r4 rl hx hE8
  obtain ⟨q0, q1, q2, q3, q4⟩ := Blk5 K8.out.1
  obtain ⟨r0, r1, r2, r3, r4⟩ := Blk5 K8.out.2.1
  generalize eqS t u = eq at *
  have H8 := Lib.hid K8.out.2.2
  replace q0 := Exts.cell q0
  replace q1 := Exts.cell q1
  replace q2 := Exts.cell q2
  replace q3 := Exts.cell q3
  replace q4 := Exts.cell q4
  replace r0 := Exts.cell r0
  replace r1 := Exts.cell r1
  replace r2 := Exts.cell r2
  replace r3 := Exts.cell r3
  replace r4 := Exts.cell r4
  replace n0 := Exts.cell n0
  replace n1 := Exts.cell n1
  replace n2 := Exts.cell n2
  replace n3 := Exts.cell n3
  replace n4 := Exts.cell n4
  cases eq with
  | false =>
    go_wp2_with fail
    refine wp_region_ext (by kernel_rfl) (by kernel_rfl) ?_
    iterate 6 (refine BigFrame.wpQuiet_want rfl (fun K hK => ?_); go_big_quiet_op; refine hK _ ?_; clear hK K)
    (refine BigFrame.wpQuiet_want rfl (fun K hK => ?_); go_big_quiet_op; refine ⟨_, fun e => Calls.ext_of (HEq.out e.val (H8.out.trans e.ext)), hK _ ?_⟩; clear hK K)
    iterate 6 (refine BigFrame.wpQuiet_want rfl (fun K hK => ?_); go_big_quiet_op; refine hK _ ?_; clear hK K)
    iterate 11 go_big_quiet_skip
    iterate 3 (refine BigFrame.wpQuiet_want rfl (fun K hK => ?_); go_big_quiet_op; refine hK _ ?_; clear hK K)
    (refine BigFrame.wpQuiet_want rfl (fun K hK => ?_); go_big_quiet_op; refine ⟨_, fun e => Calls.ext_of (HAl.out e.val (H8.out.trans e.ext)), hK _ ?_⟩; clear hK K)
    iterate 2 (refine BigFrame.wpQuiet_want rfl (fun K hK => ?_); go_big_quiet_op; refine hK _ ?_; clear hK K)
    refine wpQuiet_nil ?_
    intro e
    obtain ⟨w9, hE9⟩ := e
    clear q0 q1 q2 q3 q4 r0 r1 r2 r3 r4 n0 n1 n2 n3 n4
    have HF := Lib.hid (H8.out.trans hE9)
    go_wp2_with fail
    go_ret
    exact ⟨rfl, HF.out⟩
  | true =>
    go_wp2_with fail
    refine wp_region_ext (by kernel_rfl) (by kernel_rfl) ?_
    iterate 6 (refine BigFrame.wpQuiet_want rfl (fun K hK => ?_); go_big_quiet_op; refine hK _ ?_; clear hK K)
    (refine BigFrame.wpQuiet_want rfl (fun K hK => ?_); go_big_quiet_op; refine ⟨_, fun e => Calls.ext_of (HEq.out e.val (H8.out.trans e.ext)), hK _ ?_⟩; clear hK K)
    iterate 15 (refine BigFrame.wpQuiet_want rfl (fun K hK => ?_); go_big_quiet_op; refine hK _ ?_; clear hK K)
    (refine BigFrame.wpQuiet_want rfl (fun K hK => ?_); go_big_quiet_op; refine ⟨_, fun e => Calls.ext_of (HEq2.out W e.val _ ka kc (H8.out.trans e.ext) (HX8.out.mono e.ext)), hK _ ?_⟩; clear hK K)
    iterate 4 (refine BigFrame.wpQuiet_want rfl (fun K hK => ?_); go_big_quiet_op; refine hK _ ?_; clear hK K)
    (refine BigFrame.wpQuiet_want rfl (fun K hK => ?_); go_big_quiet_op; refine ⟨_, fun e => Calls.ext_of (HAl.out e.val (H8.out.trans e.ext)), hK _ ?_⟩; clear hK K)
    iterate 2 (refine BigFrame.wpQuiet_want rfl (fun K hK => ?_); go_big_quiet_op; refine hK _ ?_; clear hK K)
    refine wpQuiet_nil ?_
    intro e
    obtain ⟨w9, hE9⟩ := e
    clear q0 q1 q2 q3 q4 r0 r1 r2 r3 r4 n0 n1 n2 n3 n4
    have HF := Lib.hid (H8.out.trans hE9)
    go_wp2_with fail
    go_ret
    exact ⟨rfl, HF.out⟩
end Go.Proofs.YtigalkobmfbdaaaGreatDoor
