/- The thin package's part, where a part is refused: a text where an expression is asked, and a node of too many parts. -/
import Derived.Test.YtigalkobmfbdaaaGreatDoorMix1g
import Derived.Test.YtigalkobmfbdaaaGreatDoorMix1q
import Derived.Test.YtigalkobmfbdaaaGreatDoorMix1o
set_option linter.unusedVariables false
set_option linter.unusedSimpArgs false
namespace Go.Proofs.YtigalkobmfbdaaaGreatDoor
open Go.RowKit
/-- A part that is refused. -/
def PartNo (what : ByteArray) (t : Syn) : Prop := ∀ (a : Option Addr) (c : Nat) (dp m : Int) (lb : Nat) (w : World), Blk w lb #[.int .i64 m] 3 → 0 ≤ dp → dp ≤ 10 → 10 ≤ m → m ≤ 300 →
  Calls Tryz.prog 62 #[synV t a c, .string what, .int .i64 dp, .pointer (some ⟨lb, 0, none⟩)] w fun e w' => e = .returned (.tuple #[.pointer none, .bool false]) ∧ ExtM (· = lb) w w'
set_option maxRecDepth 100000 in
set_option maxHeartbeats 4000000 in
/-- A part of a kind that is not asked. -/
theorem part_not {what k x : ByteArray} {n : Int} (g1 : (what.toList == []) = false) (g2 : 0 < what.size) (g3' : ∀ h : 0 < what.size, ((what[0].toNat : Int) == 42) = false) (g4 : (2 : Int) < (what.size : Int)) (g5 : ((what.extract 0 2).toList == [91, 93]) = false) (g6 : (what.toList == [115, 116, 114, 105, 110, 103]) = false) (g7 : (what.toList == [84, 111, 107, 101, 110]) = false) (g8 : (what.toList == [67, 104, 97, 110, 68, 105, 114]) = false) (g9 : (what.toList == [98, 111, 111, 108]) = false) (hk1 : (k.toList == []) = false)
    (his : ∀ w, Calls Tryz.prog 82 #[.string k, .string what] w fun e w' => e = .returned (.bool false) ∧ w = w') : PartNo what (.mk k false x n []) := by
  intro a c dp m lb w hB hd0 hd hc hm
  simp only [synV, skind_mk, snull_mk, stext_mk, snum_mk, skids_mk, List.length_nil] at *
  have c0 : w.cell? ⟨lb, 0, none⟩ = some (.int .i64 m) := by rw [hB.cell]; rfl
  have f0 := hB.frozen 0
  have lt0 := hB.lt
  have hd30 : ¬ (30 : Int) < dp := by omega
  have hm0 : ¬ m - 1 < 0 := by omega
  have g3 := g3' g2
  have HIS := Lib.hid his
  have hism := iasked_small k
  have HC := Lib.hid (iasked_calls k)
  generalize iasked k = ik at *
  clear g3' his
  go_enter Tryz.func62, Tryz.ntmps62
  go_big_wp2_with fail
  obtain ⟨W, hW⟩ : ∃ W, W = ((w.setCell ⟨lb, 0, none⟩ (.int .i64 (m - 1))).alloc (.cells #[.string k, .bool false, .string x, .int .i64 n, .slice a 0 c] 52)).alloc (.cells #[.string k, .bool false, .string x, .int .i64 n, .slice none 0 0] 145) := ⟨_, rfl⟩
  have KB : Hid (Blk W lb #[.int .i64 (m - 1)] 3) := Lib.hid (by rw [hW]; exact ((hB.set 0 _).ext (Ext.alloc _ _)).ext (Ext.alloc _ _))
  have KX : Hid (Blk W w.heap.size #[.string k, .bool false, .string x, .int .i64 n, .slice a 0 c] 52) := Lib.hid (by rw [hW]; have := Blk.new (w.setCell ⟨lb, 0, none⟩ (.int .i64 (m - 1))) #[.string k, .bool false, .string x, .int .i64 n, .slice a 0 c] 52; rw [World.size_setCell] at this; exact this.ext (Ext.alloc _ _))
  have KO : Hid (Blk W (w.heap.size + 1) #[.string k, .bool false, .string x, .int .i64 n, .slice none 0 0] 145) := Lib.hid (by rw [hW]; have := Blk.second (w.setCell ⟨lb, 0, none⟩ (.int .i64 (m - 1))) (.cells #[.string k, .bool false, .string x, .int .i64 n, .slice a 0 c] 52) #[.string k, .bool false, .string x, .int .i64 n, .slice none 0 0] 145; rwa [World.size_setCell] at this)
  have KE : Hid (ExtM (· = lb) w W) := Lib.hid (by rw [hW]; exact (((ExtM.refl (· = lb) w).setCell (p := ⟨lb, 0, none⟩) (.inl rfl) _).ext (Ext.alloc _ _)).ext (Ext.alloc _ _))
  rw [← hW]
  clear hW hB c0 f0 lt0
  refine (HC.out _).mono ?_
  rintro e w1 ⟨rfl, rfl⟩
  go_big_wp2_with fail
  refine (words_calls ik (by omega) _).mono ?_
  rintro e w1 ⟨⟨wa, wc, rfl, hwc, hws⟩, hE1⟩
  have hbx := KX.out.ext hE1
  have b5 := Blk5 hbx
  have bl := hbx.lt
  have KF := Lib.hid (KE.out.ext hE1)
  clear hE1 hbx hws hwc
  go_big_wp2_with fail
  refine (HIS.out _).mono ?_
  rintro e w2 ⟨rfl, rfl⟩
  go_big_wp2_with fail
  go_ret2
  exact ⟨rfl, KF.out⟩
theorem part_text (x : ByteArray) (n : Int) : PartNo ⟨#[101, 120, 112, 114]⟩ (.mk ⟨#[115, 116, 114, 105, 110, 103]⟩ false x n []) :=
  part_not (by decide +kernel) (by decide) (by decide +kernel) (by decide) (by decide +kernel) (by decide +kernel) (by decide +kernel) (by decide +kernel) (by decide +kernel) (by decide +kernel) is_text
set_option maxRecDepth 100000 in
set_option maxHeartbeats 8000000 in
theorem part_many {what k x : ByteArray} {n : Int} {ks : List Syn} (hW : WhatOK what k) (hk1 : (k.toList == []) = false) (hia : ((iasked k).toList == []) = false) (hwl : ks.length ≠ (words (iasked k)).length) : PartNo what (.mk k false x n ks) := by
  intro a c dp m lb w hB hd0 hd hc hm
  simp only [synV, skind_mk, snull_mk, stext_mk, snum_mk, skids_mk] at *
  have c0 : w.cell? ⟨lb, 0, none⟩ = some (.int .i64 m) := by rw [hB.cell]; rfl
  have f0 := hB.frozen 0
  have lt0 := hB.lt
  have hd30 : ¬ (30 : Int) < dp := by omega
  have hm0 : ¬ m - 1 < 0 := by omega
  obtain ⟨g1, g2, g3', g4, g5, g6, g7, g8, g9, his⟩ := hW
  have g3 := g3' g2
  have HIS := Lib.hid his
  have hism := iasked_small k
  have HC := Lib.hid (iasked_calls k)
  have hlB : ((ks.length : Int) != ((words (iasked k)).length : Int)) = true := by simp only [bne_iff_ne, ne_eq]; omega
  generalize iasked k = ik at *
  clear g3' his hwl
  go_enter Tryz.func62, Tryz.ntmps62
  go_big_wp2_with fail
  obtain ⟨W, hW⟩ : ∃ W, W = ((w.setCell ⟨lb, 0, none⟩ (.int .i64 (m - 1))).alloc (.cells #[.string k, .bool false, .string x, .int .i64 n, .slice a ks.length c] 52)).alloc (.cells #[.string k, .bool false, .string x, .int .i64 n, .slice none 0 0] 145) := ⟨_, rfl⟩
  have KB : Hid (Blk W lb #[.int .i64 (m - 1)] 3) := Lib.hid (by rw [hW]; exact ((hB.set 0 _).ext (Ext.alloc _ _)).ext (Ext.alloc _ _))
  have KX : Hid (Blk W w.heap.size #[.string k, .bool false, .string x, .int .i64 n, .slice a ks.length c] 52) := Lib.hid (by rw [hW]; have := Blk.new (w.setCell ⟨lb, 0, none⟩ (.int .i64 (m - 1))) #[.string k, .bool false, .string x, .int .i64 n, .slice a ks.length c] 52; rw [World.size_setCell] at this; exact this.ext (Ext.alloc _ _))
  have KO : Hid (Blk W (w.heap.size + 1) #[.string k, .bool false, .string x, .int .i64 n, .slice none 0 0] 145) := Lib.hid (by rw [hW]; have := Blk.second (w.setCell ⟨lb, 0, none⟩ (.int .i64 (m - 1))) (.cells #[.string k, .bool false, .string x, .int .i64 n, .slice a ks.length c] 52) #[.string k, .bool false, .string x, .int .i64 n, .slice none 0 0] 145; rwa [World.size_setCell] at this)
  have KE : Hid (ExtM (· = lb) w W) := Lib.hid (by rw [hW]; exact (((ExtM.refl (· = lb) w).setCell (p := ⟨lb, 0, none⟩) (.inl rfl) _).ext (Ext.alloc _ _)).ext (Ext.alloc _ _))
  have hWz : W.heap.size = w.heap.size + 1 + 1 := by rw [hW]; simp
  rw [← hW]
  clear hW hB c0 f0
  refine (HC.out _).mono ?_
  rintro e w1 ⟨rfl, rfl⟩
  go_big_wp2_with fail
  refine (words_calls ik (by omega) _).mono ?_
  rintro e w1 ⟨⟨wa, wc, rfl, hwc, hws, hwf⟩, hE1⟩
  have hbx := KX.out.ext hE1
  have b5 := Blk5 hbx
  have bl := hbx.lt
  have KF := Lib.hid (KE.out.ext hE1)
  clear hE1 hbx hws hwf hwc
  generalize words ik = ws at *
  go_big_wp2_with fail
  refine (HIS.out _).mono ?_
  rintro e w2 ⟨rfl, rfl⟩
  go_big_wp2_with fail
  refine (HC.out _).mono ?_
  rintro e w2 ⟨rfl, rfl⟩
  go_big_wp2_with fail
  go_ret2
  exact ⟨rfl, KF.out⟩
set_option maxRecDepth 100000 in
set_option maxHeartbeats 8000000 in
/-- A node whose first part is refused. -/
theorem part_first {what k x : ByteArray} {n : Int} {ks : List Syn} (hW : WhatOK what k) (hk1 : (k.toList == []) = false) (hia : ((iasked k).toList == []) = false) (hwl : ks.length = (words (iasked k)).length) (h0 : 0 < ks.length) (ih : ∀ (hw : 0 < (words (iasked k)).length), PartNo (words (iasked k))[0] ks[0]) (hdp : True) : ∀ (X : Nat → Prop) (a : Option Addr) (c : Nat) (m : Int) (lb : Nat) (w0 w : World), SynIn X w0 a c (.mk k false x n ks) → Ext w0 w → w0.heap.size ≤ lb → Blk w lb #[.int .i64 m] 3 → 11 ≤ m → m ≤ 300 →
  Calls Tryz.prog 62 #[synV (.mk k false x n ks) a c, .string what, .int .i64 0, .pointer (some ⟨lb, 0, none⟩)] w fun e w' => e = .returned (.tuple #[.pointer none, .bool false]) ∧ ExtM (· = lb) w w' := by
  intro X a c m lb w0 w hT hE0 hlb hB hc hm
  obtain ⟨dp, hdp0⟩ : ∃ dp : Int, dp = 0 := ⟨_, rfl⟩
  rw [← hdp0]
  have hd0 : 0 ≤ dp := by omega
  have hd : dp ≤ 0 := by omega
  clear hdp0
  have hkk := hT.kids
  simp only [synV, skind_mk, snull_mk, stext_mk, snum_mk, skids_mk] at *
  have c0 : w.cell? ⟨lb, 0, none⟩ = some (.int .i64 m) := by rw [hB.cell]; rfl
  have f0 := hB.frozen 0
  have lt0 := hB.lt
  have hd30 : ¬ (30 : Int) < dp := by omega
  have hm0 : ¬ m - 1 < 0 := by omega
  obtain ⟨g1, g2, g3', g4, g5, g6, g7, g8, g9, his⟩ := hW
  have g3 := g3' g2
  have HIS := Lib.hid his
  have hism := iasked_small k
  have HC := Lib.hid (iasked_calls k)
  have hlB : ((ks.length : Int) != ((words (iasked k)).length : Int)) = false := by rw [hwl]; simp
  have HKs := Lib.hid (And.intro hkk.2.2 (And.intro hwl ih))
  generalize iasked k = ik at *
  clear g3' hT his hwl ih hkk
  go_enter Tryz.func62, Tryz.ntmps62
  go_big_wp2_with fail
  obtain ⟨W, hW⟩ : ∃ W, W = ((w.setCell ⟨lb, 0, none⟩ (.int .i64 (m - 1))).alloc (.cells #[.string k, .bool false, .string x, .int .i64 n, .slice a ks.length c] 52)).alloc (.cells #[.string k, .bool false, .string x, .int .i64 n, .slice none 0 0] 145) := ⟨_, rfl⟩
  have KB : Hid (Blk W lb #[.int .i64 (m - 1)] 3) := Lib.hid (by rw [hW]; exact ((hB.set 0 _).ext (Ext.alloc _ _)).ext (Ext.alloc _ _))
  have KX : Hid (Blk W w.heap.size #[.string k, .bool false, .string x, .int .i64 n, .slice a ks.length c] 52) := Lib.hid (by rw [hW]; have := Blk.new (w.setCell ⟨lb, 0, none⟩ (.int .i64 (m - 1))) #[.string k, .bool false, .string x, .int .i64 n, .slice a ks.length c] 52; rw [World.size_setCell] at this; exact this.ext (Ext.alloc _ _))
  have KO : Hid (Blk W (w.heap.size + 1) #[.string k, .bool false, .string x, .int .i64 n, .slice none 0 0] 145) := Lib.hid (by rw [hW]; have := Blk.second (w.setCell ⟨lb, 0, none⟩ (.int .i64 (m - 1))) (.cells #[.string k, .bool false, .string x, .int .i64 n, .slice a ks.length c] 52) #[.string k, .bool false, .string x, .int .i64 n, .slice none 0 0] 145; rwa [World.size_setCell] at this)
  have KE : Hid (ExtM (· = lb) w W) := Lib.hid (by rw [hW]; exact (((ExtM.refl (· = lb) w).setCell (p := ⟨lb, 0, none⟩) (.inl rfl) _).ext (Ext.alloc _ _)).ext (Ext.alloc _ _))
  have hWz : W.heap.size = w.heap.size + 1 + 1 := by rw [hW]; simp
  rw [← hW]
  clear hW hB c0 f0
  refine (HC.out _).mono ?_
  rintro e w1 ⟨rfl, rfl⟩
  go_big_wp2_with fail
  refine (words_calls ik (by omega) _).mono ?_
  rintro e w1 ⟨⟨wa, wc, rfl, hwc, hws, hwf⟩, hE1⟩
  have hbx := KX.out.ext hE1
  have b5 := Blk5 hbx
  have bl := hbx.lt
  have KF := Lib.hid (And.intro (KB.out.ext hE1) (KE.out.ext hE1))
  have HWS := Lib.hid hws
  have HWF : Hid (∀ b o, wa = some ⟨b, o, none⟩ → w.heap.size + 1 + 1 ≤ b) := Lib.hid (fun b o e => by have := hwf b o e; omega)
  clear hE1 hbx hws hwf
  generalize words ik = ws at *
  go_big_wp2_with fail
  refine (HIS.out _).mono ?_
  rintro e w2 ⟨rfl, rfl⟩
  go_big_wp2_with fail
  refine (HC.out _).mono ?_
  rintro e w2 ⟨rfl, rfl⟩
  go_big_wp2_with fail
  go_loopw [209] (fun i wr => i = .int .i64 0 ∧ wr = w1) (fun _ _ => 0)
  case atStart => exact ⟨rfl, rfl⟩
  case round =>
    obtain ⟨rfl, rfl⟩ := hrel
    have E0 := Lib.hid (KF.out.2.toExt hE0 (fun i hi h => by omega))
    have hlt : (0 : Nat) < ks.length := h0
    obtain ⟨b, o, a', c', e0, hbl, -, p0, p1, p2, p3, p4, hkt⟩ := HKs.out.1.get 0 hlt
    simp only [Nat.zero_mul, Nat.add_zero] at p0 p1 p2 p3 p4
    subst e0
    replace p0 := E0.out.keep p0
    replace p1 := E0.out.keep p1
    replace p2 := E0.out.keep p2
    replace p3 := E0.out.keep p3
    replace p4 := E0.out.keep p4
    have hbl1 := Nat.lt_of_lt_of_le hbl E0.out.size
    have hjw : 0 < ws.length := by have := HKs.out.2.1; omega
    obtain ⟨wb, wo, e0, hwb, hwcell⟩ := HWS.out 0 hjw
    rw [Nat.add_zero] at hwcell
    subst e0
    have HT := Lib.hid hkt
    have hnb := Blk.new wr #[.string ks[0].kind, .bool ks[0].null, .string ks[0].text, .int .i64 ks[0].num, .slice a' ks[0].kids.length c'] 52
    obtain ⟨q0, q1, q2, q3, q4⟩ := Blk5 hnb
    have HA1 := Lib.hid (Ext.alloc wr (.cells #[.string ks[0].kind, .bool ks[0].null, .string ks[0].text, .int .i64 ks[0].num, .slice a' ks[0].kids.length c'] 52))
    have qw := HA1.out.keep hwcell
    have hne2 : wb ≠ lb := fun e => by have := HWF.out wb wo rfl; omega
    have hwl1 : wr.heap.size ≠ lb := by have := KF.out.1.lt; omega
    have HWR2 : Hid (IntKind.i64.wrap (dp + 1) = dp + 1) := Lib.hid (by rw [IntKind.wrap_i64]; omega)
    clear hkt hnb
    go_big_wp2_with fail
    go_region_held3 (fun w' => w'.cell? ⟨wb, wo, none⟩ = some (.string ws[0]) ∧ w'.cell? ⟨wr.heap.size, 0, none⟩ = some (.string ks[0].kind) ∧ w'.cell? ⟨wr.heap.size, 1, none⟩ = some (.bool ks[0].null) ∧ w'.cell? ⟨wr.heap.size, 2, none⟩ = some (.string ks[0].text) ∧ w'.cell? ⟨wr.heap.size, 3, none⟩ = some (.int .i64 ks[0].num) ∧ w'.cell? ⟨wr.heap.size, 4, none⟩ = some (.slice a' ks[0].kids.length c')) (go_keep)
      ((go_at_call 62; rw [HWR2.out]; refine (HKs.out.2.2 hjw a' c' (dp + 1) (m - 1) lb _ (KF.out.1.ext (HA1.out.trans (Ext.drew _))) (by omega) (by omega) (by omega) (by omega)).mono ?_; rintro e w3 ⟨rfl, hE3⟩; have HE3 := Lib.hid hE3; have r0 := hE3.keep hwl1 ((Ext.drew _).keep q0); have r1 := hE3.keep hwl1 ((Ext.drew _).keep q1); have r2 := hE3.keep hwl1 ((Ext.drew _).keep q2); have r3 := hE3.keep hwl1 ((Ext.drew _).keep q3); have r4 := hE3.keep hwl1 ((Ext.drew _).keep q4); have rw5 := hE3.keep hne2 ((Ext.drew _).keep qw); clear hE3))
    have HEW := Lib.hid (KF.out.2.trans' ((HA1.out.trans (Ext.drew _)).extM HE3.out))
    go_big_wp2_with fail
    go_ret2
    exact ⟨rfl, HEW.out⟩
abbrev badText : Syn := .mk ⟨#[83, 116, 97, 114, 69, 120, 112, 114]⟩ false ⟨#[]⟩ 0 [.mk ⟨#[115, 116, 114, 105, 110, 103]⟩ false ⟨#[97]⟩ 0 []]
theorem words_star : words (iasked ⟨#[83, 116, 97, 114, 69, 120, 112, 114]⟩) = [⟨#[101, 120, 112, 114]⟩] := by decide +kernel
theorem star_in : (⟨#[83, 116, 97, 114, 69, 120, 112, 114]⟩ : ByteArray) ∈ expressions ++ statements := any_mem (by decide +kernel)
theorem bad_text : ∀ (X : Nat → Prop) (a : Option Addr) (c : Nat) (m : Int) (lb : Nat) (w0 w : World), SynIn X w0 a c badText → Ext w0 w → w0.heap.size ≤ lb → Blk w lb #[.int .i64 m] 3 → 11 ≤ m → m ≤ 300 →
  Calls Tryz.prog 62 #[synV badText a c, .string ⟨#[83, 116, 97, 114, 69, 120, 112, 114]⟩, .int .i64 0, .pointer (some ⟨lb, 0, none⟩)] w fun e w' => e = .returned (.tuple #[.pointer none, .bool false]) ∧ ExtM (· = lb) w w' := by
  have hK := kind_ok _ star_in
  refine part_first (what_self _ star_in) hK.1 hK.2.1 (by rw [words_star]; rfl) (by decide) (fun hw => ?_) trivial
  simp only [words_star, List.getElem_cons_zero]
  exact part_text _ _
/-- A node of one part too many. -/
theorem bad_many {k : ByteArray} {ks : List Syn} (hk : k ∈ expressions ++ statements) (t : Syn) (hl : ks.length = (asked k).size) : PartNo k (.mk k false ⟨#[]⟩ 0 (ks ++ [t])) := by
  have hK := kind_ok _ hk
  refine part_many (what_self _ hk) hK.1 hK.2.1 ?_
  rw [words_of hK.2.2, List.length_map, size_toList, List.length_append, hl]
  simp
end Go.Proofs.YtigalkobmfbdaaaGreatDoor
/- impl.Match where the part is refused; the plain facts of FnWrong. -/
set_option linter.unusedVariables false
set_option linter.unusedSimpArgs false
namespace Go.Proofs.YtigalkobmfbdaaaGreatDoor
open Go.RowKit Go.WideMaps Go.Sort
set_option maxRecDepth 100000 in
set_option maxHeartbeats 4000000 in
theorem imatch_two {s : ByteArray} {nm : Names} {n : PN} {t : Syn} {w : World} {a : Option Addr} {c : Nat}
    (hread : Calls Tryz.prog 55 #[.string s, .bool false] (w.alloc (.cells (synC t a c) 52)) (PatAt nm n (w.alloc (.cells (synC t a c) 52))))
    (hpart : ∀ (lb : Nat) (w1 : World), Ext w w1 → w.heap.size ≤ lb → Blk w1 lb #[.int .i64 300] 3 → Calls Tryz.prog 62 #[synV t a c, .string t.kind, .int .i64 0, .pointer (some ⟨lb, 0, none⟩)] w1 fun e w' => e = .returned (.tuple #[.pointer none, .bool false]) ∧ ExtM (· = lb) w1 w') :
    Calls Tryz.prog 37 #[.string s, synV t a c] w fun e w' => e = .returned (.tuple #[.bool false, .slice none 0 0, .int .i64 2]) ∧ Ext w w' := by
  have HR := Lib.hid hread
  have HPt := Lib.hid hpart
  have hB0 := Blk.new w (synC t a c) 52
  have HB0 := Lib.hid hB0
  have hs0 : (w.alloc (.cells (synC t a c) 52)).heap.size = w.heap.size + 1 := by simp
  have HS0 := Lib.hid hs0
  have HE0 := Lib.hid (Ext.alloc w (.cells (synC t a c) 52))
  clear hread hpart hB0 hs0
  obtain ⟨tk, tn, tx, tq, tks⟩ := t
  simp only [synC, synV, skind_mk, snull_mk, stext_mk, snum_mk, skids_mk] at *
  generalize tks.length = tl at *
  have hh := HB0.out.frozen
  obtain ⟨b0, b1, b2, b3, b4⟩ := Blk5 HB0.out
  go_enter Tryz.func37, Tryz.ntmps37
  go_wp2_with fail
  refine HR.out.mono ?_
  rintro e w1 ⟨⟨rv, sv, ea, en, ec, ca, cn, cc, ba, bc, rfl, hsv, hN, hb, hbl, hbc⟩, hE1⟩
  have hsh := hN.shape
  have h1l := hE1.size
  rw [HS0.out] at h1l
  have hT1 := Blk.new w1 #[.nilIface, .slice none 0 0, .nilIface, .slice none 0 0, .slice none 0 0] 81
  have hf1 := hT1.frozen
  have hl1 := hT1.lt
  obtain ⟨t0, t1, t2, t3, t4⟩ := Blk5 hT1
  have q0 := hE1.keep b0
  have q1 := hE1.keep b1
  have q2 := hE1.keep b2
  have q3 := hE1.keep b3
  have q4 := hE1.keep b4
  have ql := cell_lt q0
  have HK1 := Lib.hid hE1
  clear b0 b1 b2 b3 b4 hh hN hb hbl hbc hE1 hT1
  obtain ⟨C, hC⟩ : ∃ C, C = #[rv, .slice ea en ec, sv, .slice ca cn cc, .slice ba nm.length bc] := ⟨_, rfl⟩
  have HC := Lib.hid hC
  clear hC
  rcases hsh with rfl | ⟨rt, rx, rfl⟩ <;> rcases hsv with rfl | ⟨st, sx, rfl⟩
  all_goals
    go_wp2_with fail
    rw [← HC.out]
    obtain ⟨w2, hw2⟩ : ∃ w2, w2 = (w1.alloc (.cells C 81)).alloc (.cells #[.int .i64 300] 3) := ⟨_, rfl⟩
    rw [← hw2]
    have hE2 : Ext w1 w2 := hw2 ▸ (Ext.alloc _ _).trans (Ext.alloc _ _)
    have hL2 : Blk w2 (w1.heap.size + 1) #[.int .i64 300] 3 := by
      have := Blk.new (w1.alloc (.cells C 81)) #[.int .i64 300] 3
      rw [show (w1.alloc (.cells C 81)).heap.size = w1.heap.size + 1 by simp] at this
      exact hw2 ▸ this
    clear hw2 t0 t1 t2 t3 t4 hf1 hl1
    replace q0 := hE2.keep q0
    replace q1 := hE2.keep q1
    replace q2 := hE2.keep q2
    replace q3 := hE2.keep q3
    replace q4 := hE2.keep q4
    have hX2 := (HE0.out.trans HK1.out).trans hE2
    have HP2 := Lib.hid (HPt.out (w1.heap.size + 1) w2 hX2 (by omega) hL2)
    have HX2 := Lib.hid hX2
    clear hE2 hL2 hX2
    go_wp2_with fail
    refine HP2.out.mono ?_
    rintro e w3 ⟨rfl, hE3⟩
    have HX3 : Hid (Ext w w3) := Lib.hid (hE3.toExt HX2.out (fun i hi h => by omega))
    clear hE3
    go_wp2_with fail
    go_ret3
    exact ⟨rfl, HX3.out⟩
def pStar : Tree := .mk ⟨#[83, 116, 97, 114, 69, 120, 112, 114]⟩ ⟨#[]⟩ [.mk ⟨#[65, 110, 121]⟩ ⟨#[]⟩ []]
theorem pStar_facts : good pStar 97 = true ∧ nodeKind pStar = true ∧ count pStar ≤ 60 ∧ text 0 pStar = ⟨#[40, 83, 116, 97, 114, 69, 120, 112, 114, 32, 95, 41]⟩ ∧ namesT pStar = [] := by
  refine ⟨?_, ?_, ?_, ?_, ?_⟩ <;> decide +kernel
theorem pStar_pn : (toPN pStar []).1 = .struct ⟨#[83, 116, 97, 114, 69, 120, 112, 114]⟩ [.any] := by kernel_rfl
theorem pStar_entry : ∃ E, entryN (toPN pStar []).1 [] = some E := ⟨[[83, 116, 97, 114, 69, 120, 112, 114]], by kernel_rfl⟩
theorem expr_bare : ∀ k ∈ expressions, (k = ⟨#[80, 97, 114, 101, 110, 69, 120, 112, 114]⟩) ∨ (wrapIx k = none ∧ lisK k = false) := by decide +kernel
/-- What an expression is under its parentheses. -/
theorem peel_e (t : Syn) : ∀ of, right t 101 of = true → ∃ u, peelS t = some u ∧ bareS t = u ∧ (∃ of, right u 101 of = true) ∧ wrapIx u.kind = none ∧ sizeS u ≤ sizeS t := by
  induction t using Syn.ind with | h t ih => ?_
  intro of h
  obtain ⟨k, nl, x, n, ks⟩ := t
  obtain ⟨rfl, hf, -, hl, ha⟩ := rs_node (.inl rfl) h
  rcases expr_bare k (fits_101 hf) with rfl | ⟨hw, hk⟩
  · have hw : wrapIx ⟨#[80, 97, 114, 101, 110, 69, 120, 112, 114]⟩ = some 0 := by decide +kernel
    have e : (asked ⟨#[80, 97, 114, 101, 110, 69, 120, 112, 114]⟩).toList = [101] := by decide +kernel
    have hl' : ks.length = 1 := by rw [eq_of_beq hl]; decide +kernel
    match ks, hl' with
    | [y], _ =>
      rw [e, rightArgs, Bool.and_eq_true] at ha
      obtain ⟨u, h1, h2, h3, h4, h5⟩ := ih 0 (by simp [skids_mk]) _ ha.1
      simp only [skids_mk, List.getElem_cons_zero] at h1 h2 h5
      refine ⟨u, by rw [peelS_wrap hw (by simp)]; exact h1, by rw [bareS_wrap hw (by simp)]; exact h2, h3, h4, ?_⟩
      simp only [sizeS, sizeSs]
      omega
  · exact ⟨_, peelS_none hw hk, bareS_none hw, ⟨of, h⟩, hw, Nat.le_refl _⟩
theorem expr_bool : ∀ k ∈ expressions, (k.toList == [98, 111, 111, 108]) = false := by decide +kernel
/-- A node of one field, whatever that holds, is told of every expression. -/
theorem mt_one (nm : Names) {k : ByteArray} (h1 : (k.toList == [78, 111, 116]) = false) (hn : named k = true) (h1a : (args k).length = 1) (wi : Bool) (S : SL) {t : Syn} {of : ByteArray} (h : right t 101 of = true) : ∃ ok o, mt nm wi (.struct k [.any]) t S = some (ok, o, S) := by
  obtain ⟨u, hu, -, ⟨of', hr⟩, -⟩ := peel_e t of h
  obtain ⟨k', nl, x, n, ks⟩ := u
  obtain ⟨rfl, hf, -, hl, ha⟩ := rs_node (.inl rfl) hr
  have hb := expr_bool k' (fits_101 hf)
  rw [mt_struct h1, hn, h1a, hu]
  simp only [List.length_singleton, beq_self_eq_true, Bool.and_self, if_true]
  rw [show ((Syn.mk k' false x n ks).kind.toList == [98, 111, 111, 108]) = false from hb]
  simp only [Bool.false_eq_true, if_false]
  cases hk : (k'.toList == k.toList) with
  | false =>
    rw [show ((Syn.mk k' false x n ks).kind.toList == k.toList) = false from hk]
    simp only [Bool.false_eq_true, if_false]
    exact ⟨_, _, rfl⟩
  | true =>
    rw [show ((Syn.mk k' false x n ks).kind.toList == k.toList) = true from hk]
    obtain rfl := toList_inj (eq_of_beq hk)
    have h0 := args_asked k'
    rw [size_toList, h1a, ← eq_of_beq hl] at h0
    simp only [if_true, skids_mk]
    match ks, h0 with
    | y :: ys, _ =>
      simp only [mtArgs, mt]
      exact ⟨_, _, rfl⟩
theorem mt_star (nm : Names) {t : Syn} {of : ByteArray} (h : right t 101 of = true) : ∃ ok o, mt nm false (.struct ⟨#[83, 116, 97, 114, 69, 120, 112, 114]⟩ [.any]) t [] = some (ok, o, []) :=
  mt_one nm (by decide +kernel) (by decide +kernel) (by decide +kernel) false [] h
theorem lexW : lexM (ByteArray.toList ⟨#[40, 83, 116, 97, 114, 69, 120, 112, 114]⟩) .start = some [(1, [40]), (5, [83, 116, 97, 114, 69, 120, 112, 114]), (11, [])] := by
  decide +kernel
theorem parseW (p0 p1 p2 : Int) : parseM false [⟨1, ⟨([40]).toArray⟩, p0⟩, ⟨5, ⟨([83, 116, 97, 114, 69, 120, 112, 114]).toArray⟩, p1⟩, ⟨11, ⟨([] : List UInt8).toArray⟩, p2⟩] 90 = some none := by
  kernel_rfl
theorem readsW : Reads false ⟨#[40, 83, 116, 97, 114, 69, 120, 112, 114]⟩ none := by
  refine ⟨_, 90, by decide, lexW, fun S hS => ?_⟩
  obtain ⟨x0, S, rfl, h0, hS⟩ := List.map_eq_cons_iff.1 hS
  obtain ⟨x1, S, rfl, h1, hS⟩ := List.map_eq_cons_iff.1 hS
  obtain ⟨x2, S, rfl, h2, hS⟩ := List.map_eq_cons_iff.1 hS
  obtain rfl := List.map_eq_nil_iff.1 hS
  rw [item_of h0 (by decide), item_of h1 (by decide), item_of h2 (by decide)]
  exact parseW ..
/-- The pattern '(StarExpr _)' is read. -/
theorem pStar_read {w : World} (hT : TabAt w) : Calls Tryz.prog 55 #[.string ⟨#[40, 83, 116, 97, 114, 69, 120, 112, 114, 32, 95, 41]⟩, .bool false] w (PatAt [] (.struct ⟨#[83, 116, 97, 114, 69, 120, 112, 114]⟩ [.any]) w) := by
  obtain ⟨E, hE⟩ := pStar_entry
  have hR := reads_good (s := 0) false pStar_facts.1 pStar_facts.2.1 pStar_facts.2.2.1
  rw [pStar_facts.2.2.2.1, pStar_facts.2.2.2.2, pStar_pn] at hR
  rw [pStar_pn] at hE
  exact pat_read hR (by decide) (by decide +kernel) (by decide +kernel) hE List.nodup_nil (by decide +kernel) rfl (fun ks e => by cases e) hT
end Go.Proofs.YtigalkobmfbdaaaGreatDoor
/- FnWrong: the bad parts in memory. -/
set_option linter.unusedVariables false
set_option linter.unusedSimpArgs false
namespace Go.Proofs.YtigalkobmfbdaaaGreatDoor
open Go.RowKit Go.WideMaps Go.Sort
/-- Parts in memory, as a row of cells. -/
theorem SynsIn.row {X : Nat → Prop} {w : World} : ∀ {ts : List Syn} {b o : Nat}, SynsIn X w (some ⟨b, o, none⟩) ts → ∃ l : List (Syn × Option Addr × Nat), l.map (·.1) = ts ∧ (∀ x ∈ l, SynIn X w x.2.1 x.2.2 x.1) ∧ ∀ j u, (rowC l)[j]? = some u → w.cell? ⟨b, o + j, none⟩ = some u
  | [], b, o, _ => ⟨[], rfl, (fun x h => absurd h (by simp)), (fun j u h => absurd h (by simp [rowC]))⟩
  | t :: ts, b, o, ⟨b', o', a', c', e, hb, h0, h1, h2, h3, h4, ht, hr⟩ => by
    obtain ⟨rfl, rfl⟩ : b = b' ∧ o = o' := by simpa using e
    obtain ⟨l, e1, e2, e3⟩ := SynsIn.row hr
    refine ⟨(t, a', c') :: l, by rw [List.map_cons, e1], fun x hx => ?_, fun j u h => ?_⟩
    · rcases List.mem_cons.1 hx with rfl | hx
      · exact ht
      · exact e2 x hx
    · simp only [rowC, List.cons_append, List.nil_append] at h
      match j, h with
      | 0, h => simp at h; subst h; exact h0
      | 1, h => simp at h; subst h; exact h1
      | 2, h => simp at h; subst h; exact h2
      | 3, h => simp at h; subst h; exact h3
      | 4, h => simp at h; subst h; exact h4
      | j + 5, h =>
        have := e3 j u (by simpa using h)
        rw [show o + (j + 5) = o + 5 + j by omega]
        exact this
theorem rowC_one (l : List (Syn × Option Addr × Nat)) : ∀ u ∈ rowC l, u.oneCell' = true := by
  induction l with
  | nil => intro u h; simp [rowC] at h
  | cons x l ih =>
    intro u h
    simp only [rowC, List.cons_append, List.nil_append, List.mem_cons] at h
    rcases h with rfl | rfl | rfl | rfl | rfl | h
    · rfl
    · rfl
    · rfl
    · rfl
    · rfl
    · exact ih u h
theorem badText_in {w w' : World} (hE : Ext (w.alloc (.cells #[.string ⟨#[115, 116, 114, 105, 110, 103]⟩, .bool false, .string ⟨#[97]⟩, .int .i64 0, .slice none 0 0] 52)) w') : SynIn (fun _ => True) w' (some ⟨w.heap.size, 0, none⟩) 1 badText := by
  have hB := (Blk.new w #[.string ⟨#[115, 116, 114, 105, 110, 103]⟩, .bool false, .string ⟨#[97]⟩, .int .i64 0, .slice none 0 0] 52).ext hE
  rw [SynIn]
  refine ⟨⟨by decide, by decide, by decide⟩, Nat.le_refl _, by decide, ?_⟩
  rw [SynsIn]
  refine ⟨_, _, none, 0, rfl, trivial, by rw [hB.cell]; rfl, by rw [hB.cell]; rfl, by rw [hB.cell]; rfl, by rw [hB.cell]; rfl, by rw [hB.cell]; rfl, ?_, trivial⟩
  rw [SynIn]
  exact ⟨⟨by decide, by decide, by decide⟩, Nat.le_refl _, by decide, trivial⟩
/-- impl.Match of the first bad part. -/
theorem wrong_text {w : World} {a : Option Addr} {c : Nat} {X : Nat → Prop} (hT : SynIn X w a c badText) (hTab : TabAt w) :
    Calls Tryz.prog 37 #[.string ⟨#[40, 83, 116, 97, 114, 69, 120, 112, 114, 32, 95, 41]⟩, synV badText a c] w fun e w' => e = .returned (.tuple #[.bool false, .slice none 0 0, .int .i64 2]) ∧ Ext w w' :=
  imatch_two (pStar_read (hTab.toExt (Ext.alloc _ _))) (fun lb w1 hE hlb hB => bad_text X a c 300 lb w w1 hT hE hlb hB (by omega) (by omega))
/-- .. of the second one. -/
theorem wrong_many {t : Syn} {of : ByteArray} (hr : right t 101 of = true) {w : World} (a : Option Addr) (c : Nat) (hTab : TabAt w) :
    Calls Tryz.prog 37 #[.string ⟨#[40, 83, 116, 97, 114, 69, 120, 112, 114, 32, 95, 41]⟩, synV (.mk t.kind false ⟨#[]⟩ 0 (t.kids ++ [t])) a c] w fun e w' => e = .returned (.tuple #[.bool false, .slice none 0 0, .int .i64 2]) ∧ Ext w w' := by
  have hk := right_kind (.inl rfl) hr
  have hl : t.kids.length = (asked t.kind).size := by
    obtain ⟨k, nl, x, n, ks⟩ := t
    exact eq_of_beq (rs_node (.inl rfl) hr).2.2.2.1
  exact imatch_two (pStar_read (hTab.toExt (Ext.alloc _ _))) (fun lb w1 hE hlb hB => bad_many hk t hl a c 0 300 lb w1 hB (by omega) (by omega) (by omega) (by omega))
/-- .. of the part itself. -/
theorem wrong_fine {t : Syn} {of : ByteArray} (hr : right t 101 of = true) (hc : (countS t : Int) ≤ 60) (hd : (depthS t : Int) ≤ 14) (hz : sizeS t ≤ 40000) :
    ∃ ok, ∀ {w : World} {a : Option Addr} {c : Nat} {X : Nat → Prop}, SynIn X w a c t → TabAt w → Calls Tryz.prog 37 #[.string ⟨#[40, 83, 116, 97, 114, 69, 120, 112, 114, 32, 95, 41]⟩, synV t a c] w (MatchRes w ok []) := by
  obtain ⟨E, hE⟩ := pStar_entry
  obtain ⟨ok, o, hm⟩ := mt_star [] hr
  refine ⟨ok, fun {w a c X} hT hTab => ?_⟩
  rw [← pStar_facts.2.2.2.1]
  exact imatch_good pStar_facts.1 pStar_facts.2.1 pStar_facts.2.2.1 (by rw [pStar_facts.2.2.2.1]; decide) hE (by rw [pStar_facts.2.2.2.2]; intro s h; cases h) (.inl rfl) hr (by omega) (by omega) ⟨⟨101, by decide, _, hr⟩, hz⟩ (by rw [pStar_facts.2.2.2.2, pStar_pn]; exact hm) hT hTab
end Go.Proofs.YtigalkobmfbdaaaGreatDoor
