/- Where the package panics: a name that has a node is given another one. -/
import Derived.Test.YtigalkobmfbdaaaGreatDoorMix1p
import Derived.Test.YtigalkobmfbdaaaGreatDoorMix1r
import Derived.Test.YtigalkobmfbdaaaGreatDoorMix1q
set_option linter.unusedVariables false
set_option linter.unusedSimpArgs false
namespace Go.Proofs.YtigalkobmfbdaaaGreatDoor
open Go.RowKit Go.WideMaps Go.Sort
/-- The matcher has gone bad, with one set on its row. -/
def BadW (mb tb : Nat) (rv : Value) (w : World) (p : Option Addr) (b : Bool) (w' : World) : Prop :=
  b = false ∧ (∃ v0 v1 g c, Blk w' mb #[v0, v1, .slice (some ⟨g, 0, none⟩) 1 c, .bool true] 106 ∧ 1 ≤ c ∧ c ≤ maxLen) ∧ ExtM (fun b => b = mb ∨ b = tb ∨ rv.ownBlock = some b) w w'
theorem BadW.keep {mb tb : Nat} {rv : Value} {w : World} {p : Option Addr} {b : Bool} {w' : World} (h : BadW mb tb rv w p b w') : ∀ b o v, XB mb tb rv b → w.cell? ⟨b, o, none⟩ = some v → w'.cell? ⟨b, o, none⟩ = some v := by
  intro b o v hb hc
  refine h.2.2.keep (fun e => ?_) hc
  rcases e with e | e | e
  · exact hb.1 e
  · exact hb.2.1 e
  · exact hb.2.2 e
theorem BadW.ext {mb tb : Nat} {rv : Value} {w w1 : World} {p : Option Addr} {b : Bool} {w' : World} (hE : Ext w w1) (h : BadW mb tb rv w1 p b w') : BadW mb tb rv w p b w' := ⟨h.1, h.2.1, (hE.toM _).trans' h.2.2⟩
def BadC (nm : Names) (n : PN) (r : Syn) (S : SL) : Prop := ∀ (mb tb : Nat) (w : World) (rv : Value) (T : BitVec 64) (nv pv : Value), MAt nm mb tb w rv S ([] ++ [T]) → NodeAt (XB mb tb rv) w nv n → PtrIn (XB mb tb rv) w pv r →
  Calls Tryz.prog 95 #[.pointer (some ⟨mb, 0, none⟩), nv, .pointer none, pv] w (Two (BadW mb tb rv w))
set_option maxRecDepth 100000 in
set_option maxHeartbeats 1000000 in
theorem bad_calls {nm : Names} {mb tb : Nat} {w : World} {rv : Value} {S : SL} {T : BitVec 64} (h : MAt nm mb tb w rv S ([] ++ [T])) :
    Calls Tryz.prog 124 #[.pointer (some ⟨mb, 0, none⟩)] w (Two (fun p b w' => BadW mb tb rv w p b w' ∧ p = none)) := by
  obtain ⟨ba, bc, hB, -⟩ := h.blk
  have hlt := h.lt
  obtain ⟨g, cap, cur, rfl, -, hn, hm, -⟩ := row_shape h.row
  have hf := hB.frozen
  have c3 : w.cell? ⟨mb, 3, none⟩ = some (.bool false) := by rw [hB.cell]; rfl
  have HB := Lib.hid (And.intro hB (And.intro hn hm))
  clear hB h hn hm
  go_enter Tryz.func124, Tryz.ntmps124
  go_wp2_with fail
  go_ret2
  exact ⟨none, false, rfl, ⟨rfl, ⟨_, _, _, _, HB.out.1.set 3 _, by have := HB.out.2.1; simpa using this, HB.out.2.2⟩, (ExtM.refl _ w).setCell (p := ⟨mb, 3, none⟩) (.inl (.inl rfl)) _⟩, rfl⟩
set_option maxRecDepth 100000 in
set_option maxHeartbeats 4000000 in
/-- A name that has a node is given another one. -/
theorem bind_bad {nm : Names} {n : PN} {x : ByteArray} {old : Syn} {S : SL} (hnil : isNilN n = false) (hx : x.size ≤ 1000) (hg : getB S x.toList = some old) {mb tb : Nat} {w : World} {rv : Value} {T : BitVec 64} {nv : Value} {p : Option Addr} {i : Int} (hM : MAt nm mb tb w rv S ([] ++ [T])) (hN : NodeAt (XB mb tb rv) w nv n) :
    Calls Tryz.prog 243 #[.agg #[.string x, nv, .int .i64 i], .pointer (some ⟨mb, 0, none⟩), .pointer p] w (Two (BadW mb tb rv w)) := by
  obtain ⟨T0, X0, rfl⟩ := hN.iface (by cases n <;> first | rfl | cases hnil)
  obtain ⟨ba, bc, c0, c1, c2, c3, -⟩ := hM.cells
  obtain ⟨V, hV, hVS⟩ := hM.tab
  obtain ⟨ov, hv, hpo⟩ := (hVS.get x.toList).2 old hg
  obtain ⟨po, rfl⟩ := hpo.ptr
  have HL : ∀ (w2 : World), Ext w w2 → (Instr.lookup 103 (.map (some tb)) (.string x) true).run Tryz.prog w2 = .ok (.tuple #[.pointer po, .bool true]) w2 := fun w2 hE => by
    have := look_raw w2 (hV.ext hE) underlying103 (zero96 w2) (s := x) (by unfold maxLen; omega)
    rw [this, hv]
    rfl
  have HM := Lib.hid hM
  have HN := Lib.hid (fun w1 => isNil_calls hN w1)
  rw [hnil] at HN
  have KN := HN
  clear HN hM hV hVS hv hpo hg hN hnil c1 c2
  go_enter Tryz.func243, Tryz.ntmps243
  go_wp2_with fail
  refine (KN.out _).mono ?_
  rintro e w1 ⟨rfl, hE1⟩
  have hEw := (Ext.alloc w (.cells #[.string x, .iface T0 X0, .int .i64 i] 138)).trans hE1
  have j0 : w1.cell? ⟨w.heap.size, 0, none⟩ = some (.string x) := hE1.keep (by simp)
  have j1 : w1.cell? ⟨w.heap.size, 1, none⟩ = some (.iface T0 X0) := hE1.keep (by simp)
  have k0 := hEw.keep c0
  have lt0 := cell_lt k0
  have lt1 := cell_lt j0
  have KE := Lib.hid hEw
  have hl : ∀ n, (Instr.lookup 103 (.map (some tb)) (.string x) true).run Tryz.prog (w1.drewN n) = .ok (.tuple #[.pointer po, .bool true]) (w1.drewN n) := fun n => HL _ (KE.out.trans (Ext.drewN _ _))
  have hl0 := HL w1 KE.out
  clear hE1 hEw HL
  go_wp2_with fail
  go_quiet (fail)
  have KD := Lib.hid (Ext.drewN w1 nq)
  go_wp2_with fail
  refine (bad_calls (HM.out.ext (KE.out.trans KD.out))).mono ?_
  rintro e w3 ⟨p3, bb, rfl, hR, rfl⟩
  have HR := Lib.hid (hR.ext (KE.out.trans KD.out))
  obtain rfl := hR.1
  clear hR
  go_wp2_with fail
  go_ret2
  exact ⟨none, false, rfl, HR.out⟩
/-- .. by match itself, at whatever part. -/
theorem badC_bind {nm : Names} {n : PN} {x : ByteArray} {i : Int} {r old : Syn} {S : SL} (hnil : isNilN n = false) (hx : x.size ≤ 1000) (hg : getB S x.toList = some old) (hr : RS r) : BadC nm (.bind x n i) r S := by
  intro mb tb w rv T nv pv hM hN hP
  obtain ⟨ba, bc, c0, c1, c2, c3, -⟩ := hM.cells
  have hN0 := hN
  rw [NodeAt] at hN
  obtain ⟨kv, rfl, hk⟩ := hN
  refine mt_unwrap r hr w pv c3 hP (fun w' pv' hE hP' => ?_)
  obtain ⟨p', rfl⟩ := hP'.ptr
  refine disp_bind (hE.keep c3) (bare_in hr.bare.1 hr.bare.2 hP') ((bind_bad hnil hx hg (hM.ext hE) (hk.mono (hE.keeps _))).mono ?_)
  rintro e w2 ⟨p, b, rfl, hR⟩
  exact ⟨p, b, rfl, hR.ext hE⟩
end Go.Proofs.YtigalkobmfbdaaaGreatDoor
/- Where the package panics: a node whose second field is bad. -/
set_option linter.unusedVariables false
set_option linter.unusedSimpArgs false
namespace Go.Proofs.YtigalkobmfbdaaaGreatDoor
open Go.RowKit Go.WideMaps Go.Sort
/-- What comes of field number j: the first one holds, the second one is bad. -/
def FieldR (nm : Names) (mb tb : Nat) (S1 : SL) (j : Nat) (rv : Value) (w : World) (p : Option Addr) (b : Bool) (w' : World) : Prop :=
  (b = true ∧ j = 0 ∧ ∃ rv' T', MAt nm mb tb w' rv' S1 ([] ++ [T']) ∧ Trn mb tb rv rv' w w') ∨ (b = false ∧ BadW mb tb rv w p b w')
theorem FieldR.keep {nm : Names} {mb tb : Nat} {S1 : SL} {j : Nat} {rv : Value} {w : World} {p : Option Addr} {b : Bool} {w' : World} (h : FieldR nm mb tb S1 j rv w p b w') : ∀ b o v, XB mb tb rv b → w.cell? ⟨b, o, none⟩ = some v → w'.cell? ⟨b, o, none⟩ = some v := by
  rcases h with ⟨-, -, rv', T', -, hT⟩ | ⟨-, hB⟩
  · exact fun b o v hb hc => (hT.keep b o v hb hc).2
  · exact hB.keep
set_option maxRecDepth 100000 in
set_option maxHeartbeats 4000000 in
theorem node_bad {nm : Names} {k : ByteArray} {ks : List PN} {ys : List Syn} (h2k : 2 ≤ ks.length) (h2y : 2 ≤ ys.length) {S1 : SL} {o1 : Syn} (ih0 : MtC nm ks[0]) (hm0 : mt nm false ks[0] ys[0] [] = some (true, o1, S1)) (ih1 : BadC nm ks[1] ys[1] S1) (hnk : named k = true) (hkl : ks.length = (args k).length) (hr : RZ (.mk k false ⟨#[]⟩ 0 ys)) {mb tb : Nat} {w : World} {rv : Value} {T : BitVec 64} {b : Nat} {a : Option Addr} {c : Nat} (hc : ks[0].cnt ≤ 900) (hlc : ks.length ≤ c) (hM : MAt nm mb tb w rv [] ([] ++ [T])) (hN : NodesAt (XB mb tb rv) w a ks) (hP : PtrIn (XB mb tb rv) w (.pointer (some ⟨b, 0, none⟩)) (.mk k false ⟨#[]⟩ 0 ys)) :
    Calls Tryz.prog 126 #[.pointer (some ⟨mb, 0, none⟩), .iface 127 (.agg #[.string k, .slice a ks.length c]), .pointer (some ⟨b, 0, none⟩)] w (Two (BadW mb tb rv w)) := by
  obtain ⟨hp1, hp2, hp3, hke, -⟩ := pf_facts hnk
  have hne := node_ne k hke
  obtain ⟨b', ya, yc, e, hbX, -, h0, h1, -, -, h4, hyc, hPs⟩ := hP.blk (by rw [skind_mk]; exact hne)
  obtain rfl : b = b' := by simpa using e
  simp only [skind_mk, snull_mk, skids_mk] at h0 h1 h4 hyc hPs
  have hform : ys.length = (asked k).size ∧ rightArgs ys (asked k).toList k = true := by
    have hf := hr.1.form
    cases hf with
    | node k ks h h1 h2 => exact ⟨h1, h2⟩
    | nothing => exact absurd (nodeK_of hke) (by decide +kernel)
    | leaf k x n h => exact absurd (nodeK_of hke) (by rcases h with ⟨rfl | rfl, -⟩ | ⟨rfl, -⟩ <;> decide +kernel)
    | list k nl ks h => exact absurd (nodeK_of hke) (by rcases h with rfl | rfl <;> decide +kernel)
  have hyl : ys.length = (zfields k).length := by rw [hform.1, (zfields_ok k hke).1]
  have hz5 := zfields_small k
  have hRZ : ∀ (j : Nat) (hj : j < ys.length), RZ ys[j] := fun j hj => ⟨RS.args hform.1 hform.2 j hj, by
    have h1 := sizeS_kid ys j hj
    have h2 := hr.2
    rw [sizeS_mk] at h2
    omega⟩
  have HF := Lib.hid (fun j hj => field_at hnk j hj)
  have hfl : (pfields k).length = ks.length := by rw [hp1, hkl]
  have hky : ks.length ≤ ys.length := by omega
  have HZ := Lib.hid (fun w1 => pfields_val k w1)
  have HX := Lib.hid (And.intro hbX (fun (b : Nat) (hb : w.heap.size ≤ b) => XB.new hM hb))
  have HM := Lib.hid (And.intro hM (And.intro hN (And.intro hP hPs)))
  have hRZ0 := hRZ 0 (by omega)
  have HI : Hid (∀ (j : Nat) (hj : j < ks.length) (hjy : j < ys.length) (rv1 : Value) (T1 : BitVec 64) (S2 : SL) (w1 : World) (v pv : Value), (j = 0 ∧ S2 = [] ∨ j = 1 ∧ S2 = S1) → MAt nm mb tb w1 rv1 S2 ([] ++ [T1]) → NodeAt (XB mb tb rv1) w1 v ks[j] → PtrIn (XB mb tb rv1) w1 pv ys[j] → Calls Tryz.prog 95 #[.pointer (some ⟨mb, 0, none⟩), v, .pointer none, pv] w1 (Two (FieldR nm mb tb S1 j rv1 w1))) := Lib.hid (by
    rintro j hj hjy rv1 T1 S2 w1 v pv (⟨rfl, rfl⟩ | ⟨rfl, rfl⟩) g1 g2 g3
    · refine (ih0 false _ _ _ _ _ hRZ0 hm0 mb tb w1 rv1 [] T1 v pv (by simpa using Nat.le_trans hc (by decide)) g1 g2 g3).mono ?_
      rintro e w2 ⟨p, b, rfl, rfl, rv', T', -, q1, -, q2⟩
      exact ⟨p, true, rfl, .inl ⟨rfl, rfl, rv', T', q1, q2⟩⟩
    · refine (ih1 mb tb w1 rv1 T1 v pv g1 g2 g3).mono ?_
      rintro e w2 ⟨p, b, rfl, q⟩
      exact ⟨p, b, rfl, .inr ⟨q.1, q⟩⟩)
  have HK := Lib.hid hke
  have hself := beq_self_eq_true k.toList
  obtain ⟨m1, m2, m3⟩ := node_tests2 k hke
  obtain ⟨t1, t2, t3, t4, t5, t6, t7, t8, t9, t10, t11, t12⟩ := ta_127 (.agg #[.string k, .slice a ks.length c])
  have lt0 := cell_lt h0
  clear hc hp1 hp2 hp3 hke hform hRZ hRZ0 hr hm0 ih0 ih1 hM hN hP hPs hbX hkl e hnk
  generalize hfe : pfields k = fs at *
  clear hfe
  go_enter Tryz.func126, Tryz.ntmps126
  go_wp2_with fail
  refine (is_node_yes h0 HK.out).mono ?_
  rintro e w1 ⟨rfl, hE1⟩
  replace h0 := hE1.keep h0
  replace h1 := hE1.keep h1
  replace h4 := hE1.keep h4
  have lt1 := cell_lt h0
  have K1 := Lib.hid hE1
  clear hE1
  have hE2 := Ext.alloc w1 (.cells #[.string k, .slice a ks.length c] 127)
  have hB2 := Blk.new w1 #[.string k, .slice a ks.length c] 127
  have k0 := hE2.keep h0
  have k1 := hE2.keep h1
  have k4 := hE2.keep h4
  go_wp2_with fail
  go_quiet (fail)
  have hE3 := hE2.trans (Ext.drewN (w1.alloc (.cells #[.string k, .slice a ks.length c] 127)) nq)
  have hB3 := hB2.ext (Ext.drewN (w1.alloc (.cells #[.string k, .slice a ks.length c] 127)) nq)
  generalize (w1.alloc (.cells #[.string k, .slice a ks.length c] 127)).drewN nq = w3 at *
  have hbs : w.heap.size ≤ w1.heap.size := K1.out.size
  have KB := Lib.hid hB3
  have K3 := Lib.hid (K1.out.trans hE3)
  replace k0 := hE3.keep h0
  replace k4 := hE3.keep h4
  have n0 : w3.cell? ⟨w1.heap.size, 0, none⟩ = some (.string k) := by rw [hB3.cell]; rfl
  have n1 : w3.cell? ⟨w1.heap.size, 1, none⟩ = some (.slice a ks.length c) := by rw [hB3.cell]; rfl
  have ln0 := cell_lt n0
  clear hE2 hE3 hB2 hB3 h0 h1 h4 k1
  go_wp2_with fail
  refine (HZ.out _).mono ?_
  rintro e w4 ⟨rfl, rfl⟩
  cases fs with
  | nil =>
    exfalso
    have : ([] : List ByteArray).length = ks.length := hfl
    simp only [List.length_nil] at this
    omega
  | cons f0 fs' =>
    simp only [strsV]
    have hE4 := Ext.alloc w3 (.cells (((f0 :: fs').map Value.string).toArray) 9)
    have hB4 := Blk.new w3 (((f0 :: fs').map Value.string).toArray) 9
    have hfb : w.heap.size ≤ w3.heap.size := K3.out.size
    generalize w3.alloc (.cells (((f0 :: fs').map Value.string).toArray) 9) = w4 at *
    have HB4 := Lib.hid hB4
    have K4 := Lib.hid (K3.out.trans hE4)
    replace k0 := hE4.keep k0
    replace k4 := hE4.keep k4
    replace n1 := hE4.keep n1
    clear hE4 hB4 n0 ln0
    have hfl' : fs'.length + 1 = ks.length := by simpa using hfl
    go_wp2_with fail
    go_loopw [88] (fun iv wr => ∃ (j : Nat) (rv1 : Value) (T1 : BitVec 64) (S2 : SL), iv = .int .i64 j ∧ MAt nm mb tb wr rv1 S2 ([] ++ [T1]) ∧ Trn mb tb rv rv1 w4 wr ∧ Hid (j = 0 ∧ S2 = [] ∨ j = 1 ∧ S2 = S1)) (fun iv _ => 1 - (intOf iv).toNat)
    case atStart => exact ⟨0, rv, T, [], rfl, HM.out.1.ext K4.out, Trn.refl _ _ _ _, Lib.hid (.inl ⟨rfl, rfl⟩)⟩
    case round =>
      obtain ⟨j, rv1, T1, S2, rfl, hM1, hT1, hJ⟩ := hrel
      have KT := Lib.hid (And.intro hM1 hT1)
      clear hM1 hT1
      have hlt : j < ks.length := by rcases hJ.out with ⟨rfl, -⟩ | ⟨rfl, -⟩ <;> omega
      have hly : j < ys.length := by omega
      have hlf : j < (f0 :: fs').length := by rw [hfl]; exact hlt
      have hlf' : (j : Int) < (fs'.length : Int) + 1 := by omega
      have hJ1 : j ≤ 1 := by rcases hJ.out with ⟨rfl, -⟩ | ⟨rfl, -⟩ <;> omega
      obtain ⟨g, of, v, rfl, hgX, hgc, hnv⟩ := HM.out.2.1.get j hlt
      obtain ⟨yg, yo, pv, rfl, hyX, hyc0, hpy⟩ := HM.out.2.2.2.get j hly
      obtain ⟨p, rfl⟩ := hpy.ptr
      replace hgc := (KT.out.2.keep _ _ _ hgX (K4.out.keep hgc))
      replace hyc0 := (KT.out.2.keep _ _ _ hyX (K4.out.keep hyc0))
      have i0 := (KT.out.2.keep _ _ _ HX.out.1 k0)
      have i4 := (KT.out.2.keep _ _ _ HX.out.1 k4).2
      have in1 := (KT.out.2.keep _ _ _ (HX.out.2 _ hbs) n1)
      have hfj := (KT.out.2.keep _ _ _ (HX.out.2 _ hfb) (strs_cell HB4.out j hlf)).2
      have HXX := Lib.hid (And.intro hgc.1 (And.intro hyc0.1 (And.intro i0.1 in1.1)))
      replace hgc := hgc.2
      replace hyc0 := hyc0.2
      replace i0 := i0.2
      replace in1 := in1.2
      have l1 := cell_lt hgc
      have l2 := cell_lt hyc0
      have l3 := cell_lt i0
      have l4 := cell_lt in1
      have l5 := cell_lt hfj
      have hone := hnv.one
      have HFj := Lib.hid (HF.out j hlf)
      have HC2 := Lib.hid (fun (w5 : World) (hE5 : Ext wr w5) => HI.out j hlt hly rv1 T1 S2 w5 v (.pointer p) hJ.out (KT.out.1.ext hE5) (((hnv.mono (K4.out.keeps _)).trn KT.out.2).mono (hE5.keeps _)) (((hpy.mono (K4.out.keeps _)).trn KT.out.2).mono (hE5.keeps _)))
      clear hnv hpy
      generalize (f0 :: fs')[j] = nmj at *
      go_wp2_with fail
      go_region_held3 (fun w' => w'.cell? ⟨w1.heap.size, 1, none⟩ = some (.slice (some ⟨g, of, none⟩) ks.length c) ∧ w'.cell? ⟨g, of + j, none⟩ = some v ∧ w'.cell? ⟨b, 0, none⟩ = some (.string k) ∧ w'.cell? ⟨b, 4, none⟩ = some (.slice (some ⟨yg, yo, none⟩) ys.length yc) ∧ w'.cell? ⟨yg, yo + j, none⟩ = some (.pointer p)) (go_keep)
        (first
          | (go_at_call 95; refine (HC2.out _ KE.out).mono ?_; rintro e w6 ⟨p6, bb, rfl, hR6⟩; have hk6 := hR6.keep; have K6 := Lib.hid hR6; have r1 := hk6 _ _ _ HXX.out.2.2.2 e1; have r2 := hk6 _ _ _ HXX.out.1 e2; have r3 := hk6 _ _ _ HXX.out.2.2.1 e3; have r4 := hk6 _ _ _ HXX.out.2.2.1 e4; have r5 := hk6 _ _ _ HXX.out.2.1 e5; clear hR6 hk6)
          | (go_at_call 123; refine (zz_field ((Ext.drew _).keep i0) ((Ext.drew _).keep i4) hyc (by omega) hly ((Ext.drew _).keep hyc0) HFj.out.1 HFj.out.2).mono ?_; rintro e w5 ⟨rfl, hE5⟩; have KE := Lib.hid ((Ext.drew _).trans hE5); have e1 := KE.out.keep in1; have e2 := KE.out.keep hgc; have e3 := KE.out.keep i0; have e4 := KE.out.keep i4; have e5 := KE.out.keep hyc0; clear hE5))
      cases bb
      · go_wp2_with fail
        go_ret2
        have hB : BadW mb tb rv1 w5 p6 false w6 := by
          rcases K6.out with ⟨h, -⟩ | ⟨-, h⟩
          · cases h
          · exact h
        refine ⟨_, false, rfl, rfl, hB.2.1, ?_⟩
        exact (Trn.trans ((Trn.of_ext K4.out).trans KT.out.2) (rv'' := rv1) ⟨(KE.out.toM _).trans' hB.2.2, .inl rfl⟩).1
      · obtain ⟨rfl, rv2, T2, hM2, hT2⟩ : j = 0 ∧ ∃ rv2 T2, MAt nm mb tb w6 rv2 S1 ([] ++ [T2]) ∧ Trn mb tb rv1 rv2 w5 w6 := by
          rcases K6.out with ⟨-, h1, h2⟩ | ⟨h, -⟩
          · exact ⟨h1, h2⟩
          · cases h
        have K7 := Lib.hid (And.intro hM2 hT2)
        clear hM2 hT2
        go_wp2_with fail
        refine ⟨⟨_, _, _, _, _, _, .int .i64 ((0 + 1 : Nat) : Int), ⟨0 + 1, rfl, rv2, T2, S1, K7.out.1, KT.out.2.trans ((Trn.of_ext KE.out).trans K7.out.2), Lib.hid (.inr ⟨rfl, rfl⟩)⟩, rfl, rfl, rfl, rfl, rfl, rfl, by simp⟩, by simp [intOf]⟩
end Go.Proofs.YtigalkobmfbdaaaGreatDoor
/- Where the package panics: the matcher, the package's Match, and impl.Match. -/
set_option linter.unusedVariables false
set_option linter.unusedSimpArgs false
namespace Go.Proofs.YtigalkobmfbdaaaGreatDoor
open Go.RowKit Go.WideMaps Go.Sort
set_option maxRecDepth 100000 in
set_option maxHeartbeats 1000000 in
theorem merge_bad {w : World} {mb : Nat} {v0 v1 : Value} {g n c : Nat} (hB : Blk w mb #[v0, v1, .slice (some ⟨g, 0, none⟩) (n + 1) c, .bool true] 106) (hn : n + 1 ≤ c) (hm : c ≤ maxLen) (hst : n ≤ 1000) :
    Calls Tryz.prog 96 #[.pointer (some ⟨mb, 0, none⟩)] w fun e w' => e = .returned (.tuple #[]) ∧ Blk w' mb #[v0, v1, .slice (some ⟨g, 0, none⟩) n c, .bool true] 106 ∧ ExtM (· = mb) w w' := by
  have c2 : w.cell? ⟨mb, 2, none⟩ = some (.slice (some ⟨g, 0, none⟩) (n + 1) c) := by rw [hB.cell]; rfl
  have hlt := hB.lt
  have hf := hB.frozen
  have hw : IntKind.i64.wrap (n : Int) = (n : Int) := by rw [IntKind.wrap_i64]; omega
  have hb1 : (n : Int) ≤ (c : Int) := by omega
  have hb2 : n ≤ c := by omega
  have HB := Lib.hid hB
  clear hB
  go_enter Tryz.func96, Tryz.ntmps96
  go_wp2_with fail
  refine wp_region_still_tail 14 (by kernel_rfl) (by kernel_rfl) ?_
  simp only [List.take_succ_cons, List.take_zero, List.drop_succ_cons, List.drop_zero]
  change wpStill _ _ (World.drew _) (fun a' => wpList _ _ _ _ a' (World.drew _)) _ _
  repeat still_step
  refine wpStill_nil ?_
  go_wp2_with fail
  go_end0
  exact ⟨rfl, (HB.out.set 2 _).ext (Ext.drew _), ((ExtM.refl (· = mb) w).set1 2 _).ext (Ext.drew _)⟩
set_option maxRecDepth 100000 in
set_option maxHeartbeats 4000000 in
theorem matcher_bad {nm : Names} (hnm : nm.Nodup ∧ nm.length ≤ 64 ∧ ∀ s ∈ nm, s.length ≤ 100) {n : PN} (hnn : n.isNul = false) {r : Syn} (hbad : BadC nm n r []) {w : World} {mb en ec cn cc bc : Nat} {ea ca ba : Option Addr} {rv sv pv : Value} (hsv : NV sv)
    (hB : Blk w mb #[.map none, .slice none 0 0, .slice none 0 0, .bool false] 106) (hN : NodeAt (fun b => b < mb) w rv n) (hP : PtrIn (fun b => b < mb) w pv r) (hb : BsAt w ba nm) (hbm : nm ≠ [] → ∀ b o, ba = some ⟨b, o, none⟩ → b < mb) (hbc : nm.length ≤ bc) :
    Calls Tryz.prog 83 #[.pointer (some ⟨mb, 0, none⟩), patV rv ea en ec sv ca cn cc ba nm.length bc, pv] w fun e w' => e = .returned (.bool false) ∧ (∃ v0 v1 v2, Blk w' mb #[v0, v1, v2, .bool true] 106) ∧ ExtM (· = mb) w w' := by
  obtain ⟨p, rfl⟩ := hP.ptr
  have hml := hB.lt
  obtain ⟨tt, xx, rfl⟩ := hN.iface hnn
  have HW := Lib.hid (And.intro hN (And.intro hP (And.intro hb (And.intro hbm hbc))))
  have hf := hB.frozen
  have hB0 := Lib.hid hB
  have HBad := Lib.hid hbad
  have c0 : w.cell? ⟨mb, 0, none⟩ = some (.map none) := by rw [hB.cell]; rfl
  have c1 : w.cell? ⟨mb, 1, none⟩ = some (.slice none 0 0) := by rw [hB.cell]; rfl
  clear hN hP hb hbm hbc hB hbad
  obtain ⟨C, hC⟩ : ∃ C, C = #[.iface tt xx, .slice ea en ec, sv, .slice ca cn cc, .slice ba nm.length bc] := ⟨_, rfl⟩
  have HC0 := Lib.hid hC
  clear hC
  have hmm := @run_makeMap Tryz.prog
  rcases hsv with rfl | ⟨ts, xs, rfl⟩
  all_goals
    go_enter Tryz.func83, Tryz.ntmps83
    go_wp2_with fail
    rw [← HC0.out]
    obtain ⟨W, hW⟩ : ∃ W, W = (((w.setCell ⟨mb, 1, none⟩ (.slice ba nm.length bc)).setCell ⟨mb, 0, none⟩ (.map (some (w.heap.size + 1)))).alloc (.cells C 81)).alloc (.map #[] 0) := ⟨_, rfl⟩
    have hW2 := hW
    rw [HC0.out] at hW2
    have hSt := start_world hnm hB0.out HW.out.2.2.1 HW.out.2.2.2.1 HW.out.2.2.2.2 hW2
    rw [← hW]
    clear hW hW2
    have KS := Lib.hid hSt
    clear hSt c0 c1 hf
    refine (push_calls KS.out.1 (by simp)).mono ?_
    rintro e w2 ⟨rfl, rv2, hM2, hT2⟩
    have hb0 := KS.out.2.2
    have hbx : XB mb (w.heap.size + 1) (.slice none 0 0) w.heap.size := ⟨by omega, by omega, fun h => by cases h⟩
    have hb2 := (hT2.keep _ _ _ hbx hb0).2
    have hb2l := cell_lt hb2
    have K2 := Lib.hid (And.intro hM2 hT2)
    clear hM2 hT2 hb0
    have hin : ∀ b o v, b < mb → w.cell? ⟨b, o, none⟩ = some v → XB mb (w.heap.size + 1) rv2 b ∧ w2.cell? ⟨b, o, none⟩ = some v := fun b o v hb hc =>
      K2.out.2.keep b o v ⟨by omega, by omega, fun h => by cases h⟩ (KS.out.2.1.keep (by simp only; omega) hc)
    have HC := Lib.hid (HBad.out mb (w.heap.size + 1) w2 rv2 0#64 _ _ K2.out.1 (HW.out.1.turn hin) (HW.out.2.1.turn hin))
    clear hin
    go_wp2_with fail
    refine HC.out.mono ?_
    rintro e w3 ⟨p3, bb, rfl, rfl, ⟨v0, v1, g, c, hB3, hc1, hc2⟩, hX3⟩
    have K3 := Lib.hid (And.intro hB3 hX3)
    clear hB3 hX3
    go_wp2_with fail
    refine (merge_bad (n := 0) K3.out.1 hc1 hc2 (by omega)).mono ?_
    rintro e w4 ⟨rfl, hB4, hX4⟩
    have d2 : w4.cell? ⟨mb, 2, none⟩ = some (.slice (some ⟨g, 0, none⟩) 0 c) := by rw [hB4.cell]; rfl
    have dl := cell_lt d2
    have K4 := Lib.hid (And.intro hB4 hX4)
    clear hB4 hX4
    go_wp2_with fail
    go_ret
    refine ⟨rfl, ⟨_, _, _, K4.out.1⟩, ?_⟩
    have hT : Trn mb (w.heap.size + 1) (.slice none 0 0) rv2 _ w3 := K2.out.2.trans ⟨K3.out.2, .inl rfl⟩
    refine (KS.out.2.1.trans hT.1 (fun i hi e => by
      rcases e with e | e | e
      · exact e
      · omega
      · cases e)).trans' K4.out.2
set_option maxRecDepth 100000 in
set_option maxHeartbeats 4000000 in
theorem pattern_bad {nm : Names} (hnm : nm.Nodup ∧ nm.length ≤ 64 ∧ ∀ s ∈ nm, s.length ≤ 100) {n : PN} (hnn : n.isNul = false) {r : Syn} (hbad : BadC nm n r []) {w : World} {en ec cn cc bc : Nat} {ea ca ba : Option Addr} {rv sv pv : Value} (hsv : NV sv)
    {X Y : Nat → Prop} (hN : NodeAt X w rv n) (hP : PtrIn Y w pv r) (hb : BsAt w ba nm) (hbl : nm ≠ [] → ∀ b o, ba = some ⟨b, o, none⟩ → b < w.heap.size) (hbc : nm.length ≤ bc) :
    Calls Tryz.prog 64 #[patV rv ea en ec sv ca cn cc ba nm.length bc, pv] w fun e w' => (∃ mb v0 v1 v2, e = .returned (.tuple #[.pointer (some ⟨mb, 0, none⟩), .bool false]) ∧ Blk w' mb #[v0, v1, v2, .bool true] 106) ∧ Ext w w' := by
  have hE1 := Ext.alloc w (.cells #[rv, .slice ea en ec, sv, .slice ca cn cc, .slice ba nm.length bc] 81)
  have hs1 : (w.alloc (.cells #[rv, .slice ea en ec, sv, .slice ca cn cc, .slice ba nm.length bc] 81)).heap.size = w.heap.size + 1 := by simp
  have HP := Lib.hid (And.intro hP (And.intro hN (And.intro hb (And.intro hbl hbc))))
  have H1 := Lib.hid (And.intro hE1 hs1)
  obtain ⟨p, rfl⟩ := hP.ptr
  have hsh := hN.shape
  clear hE1 hs1 hP hN hb hbl hbc
  have hE2 := Ext.alloc (w.alloc (.cells #[rv, .slice ea en ec, sv, .slice ca cn cc, .slice ba nm.length bc] 81)) (.cells #[.map none, .slice none 0 0, .slice none 0 0, .bool false] 106)
  have hB2 := Blk.new (w.alloc (.cells #[rv, .slice ea en ec, sv, .slice ca cn cc, .slice ba nm.length bc] 81)) #[.map none, .slice none 0 0, .slice none 0 0, .bool false] 106
  rw [H1.out.2] at hB2
  have hEE := H1.out.1.trans hE2
  have HC := Lib.hid (matcher_bad hnm hnn hbad hsv hB2 ((HP.out.2.1.turn (Y := fun b => b < w.heap.size) fun b o v _ hc => ⟨cell_lt hc, hEE.keep hc⟩).imp (fun b hb _ => by omega)) ((HP.out.1.turn (Y := fun b => b < w.heap.size) fun b o v _ hc => ⟨cell_lt hc, hEE.keep hc⟩).imp (fun b hb _ => by omega)) (HP.out.2.2.1.extM (hEE.toM fun _ => False) (fun _ _ _ h => h)) (fun hn b o e => by have := HP.out.2.2.2.1 hn b o e; omega) HP.out.2.2.2.2 (ea := ea) (en := en) (ec := ec) (ca := ca) (cn := cn) (cc := cc))
  have HB := Lib.hid hEE
  clear hE2 hB2 hEE hbad
  rcases hsh with rfl | ⟨tt, xx, rfl⟩ <;> rcases hsv with rfl | ⟨ts, xs, rfl⟩
  all_goals
    go_enter Tryz.func64, Tryz.ntmps64
    go_wp2_with fail
    refine HC.out.mono ?_
    rintro e w2 ⟨rfl, ⟨v0, v1, v2, hM⟩, hX⟩
    have K := Lib.hid (And.intro hM hX)
    clear hM hX
    go_wp2_with fail
    have hsz := HB.out.size
    go_ret2
    exact ⟨⟨_, _, _, _, rfl, K.out.1⟩, K.out.2.toExt HB.out (fun i hi e => by omega)⟩
set_option maxRecDepth 100000 in
set_option maxHeartbeats 4000000 in
/-- impl.Match where the package panics. -/
theorem imatch_three {s : ByteArray} {nm : Names} (hnm : nm.Nodup ∧ nm.length ≤ 64 ∧ ∀ s ∈ nm, s.length ≤ 100) {n : PN} (hnn : n.isNul = false) {t : Syn} (hbad : BadC nm n t []) (hnl : t.null = false) (hask : ((iasked t.kind).toList == []) = false) {w : World} {a : Option Addr} {c : Nat}
    (hread : Calls Tryz.prog 55 #[.string s, .bool false] (w.alloc (.cells (synC t a c) 52)) (PatAt nm n (w.alloc (.cells (synC t a c) 52))))
    (hpart : ∀ (lb : Nat) (w1 : World), Ext w w1 → w.heap.size ≤ lb → Blk w1 lb #[.int .i64 300] 3 → Calls Tryz.prog 62 #[synV t a c, .string t.kind, .int .i64 0, .pointer (some ⟨lb, 0, none⟩)] w1 fun e w' => PartRes w1.heap.size t e w' ∧ ExtM (· = lb) w1 w') :
    Calls Tryz.prog 37 #[.string s, synV t a c] w fun e w' => e = .returned (.tuple #[.bool false, .slice none 0 0, .int .i64 3]) ∧ Ext w w' := by
  have HR := Lib.hid hread
  have HPt := Lib.hid hpart
  have hB0 := Blk.new w (synC t a c) 52
  have HB0 := Lib.hid hB0
  have HM := Lib.hid hbad
  have hs0 : (w.alloc (.cells (synC t a c) 52)).heap.size = w.heap.size + 1 := by simp
  have HS0 := Lib.hid hs0
  have HIC := Lib.hid (iasked_calls t.kind)
  have HE0 := Lib.hid (Ext.alloc w (.cells (synC t a c) 52))
  clear hread hpart hB0 hbad hs0
  obtain ⟨tk, tn, tx, tq, tks⟩ := t
  simp only [synC, synV, skind_mk, snull_mk, stext_mk, snum_mk, skids_mk] at *
  subst hnl
  generalize tks.length = tl at *
  have hh := HB0.out.frozen
  obtain ⟨b0, b1, b2, b3, b4⟩ := Blk5 HB0.out
  go_enter Tryz.func37, Tryz.ntmps37
  go_wp2_with fail
  refine HR.out.mono ?_
  rintro e w1 ⟨⟨rv, sv, ea, en, ec, ca, cn, cc, ba, bc, rfl, hsv, hN, hb, hbl, hbc⟩, hE1⟩
  have hsh := hN.shape
  have h1l := hE1.size
  rw [HS0.out] at h1l
  have hT1 := Blk.new w1 #[.nilIface, .slice none 0 0, .nilIface, .slice none 0 0, .slice none 0 0] 81
  have hf1 := hT1.frozen
  have hl1 := hT1.lt
  obtain ⟨t0, t1, t2, t3, t4⟩ := Blk5 hT1
  have q0 := hE1.keep b0
  have q1 := hE1.keep b1
  have q2 := hE1.keep b2
  have q3 := hE1.keep b3
  have q4 := hE1.keep b4
  have ql := cell_lt q0
  clear b0 b1 b2 b3 b4 hh
  have HK1 := Lib.hid (And.intro hN (And.intro hb (And.intro hbl (And.intro hbc hE1))))
  clear hN hb hbl hbc hE1 hT1
  have HNV : Hid (NV rv ∧ NV sv) := Lib.hid ⟨hsh, hsv⟩
  obtain ⟨C, hC⟩ : ∃ C, C = #[rv, .slice ea en ec, sv, .slice ca cn cc, .slice ba nm.length bc] := ⟨_, rfl⟩
  have HC := Lib.hid hC
  clear hC
  rcases hsh with rfl | ⟨rt, rx, rfl⟩ <;> rcases hsv with rfl | ⟨st, sx, rfl⟩
  all_goals
    go_wp2_with fail
    rw [← HC.out]
    obtain ⟨w2, hw2⟩ : ∃ w2, w2 = (w1.alloc (.cells C 81)).alloc (.cells #[.int .i64 300] 3) := ⟨_, rfl⟩
    rw [← hw2]
    have hE2 : Ext w1 w2 := hw2 ▸ (Ext.alloc _ _).trans (Ext.alloc _ _)
    have hB2 : Blk w2 w1.heap.size C 81 := hw2 ▸ (Blk.new _ _ _).ext (Ext.alloc _ _)
    have hL2 : Blk w2 (w1.heap.size + 1) #[.int .i64 300] 3 := by
      have := Blk.new (w1.alloc (.cells C 81)) #[.int .i64 300] 3
      rw [show (w1.alloc (.cells C 81)).heap.size = w1.heap.size + 1 by simp] at this
      exact hw2 ▸ this
    clear hw2 t0 t1 t2 t3 t4 hf1 hl1
    replace q0 := hE2.keep q0
    replace q1 := hE2.keep q1
    replace q2 := hE2.keep q2
    replace q3 := hE2.keep q3
    replace q4 := hE2.keep q4
    have hp := HPt.out (w1.heap.size + 1) w2 ((HE0.out.trans HK1.out.2.2.2.2).trans hE2) (by omega) hL2
    have HP2 := Lib.hid hp
    have HK2 := Lib.hid (And.intro hE2 (And.intro hB2 hL2))
    clear hE2 hB2 hL2 hp
    go_wp2_with fail
    refine HP2.out.mono ?_
    rintro e w3 ⟨⟨pv, rfl, hpv⟩, hE3⟩
    obtain ⟨p, rfl⟩ := hpv.ptr
    have hne : ∀ b, b < w1.heap.size + 1 → ¬ (b = w1.heap.size + 1) := fun b hb => by omega
    replace q0 := hE3.keep (by simp only; omega) q0
    replace q1 := hE3.keep (by simp only; omega) q1
    have hP3 : Blk w3 w1.heap.size C 81 := HK2.out.2.1.extM hE3 (by omega)
    rw [HC.out] at hP3
    obtain ⟨t0, t1, t2, t3, t4⟩ := Blk5 hP3
    have hl3 := hP3.lt
    have hE13 : ExtM (fun _ => False) w1 w3 := ((HK2.out.1.toM (fun _ => False)).trans hE3 (fun i hi e => by have := HK2.out.1.size; omega))
    have HK3 := Lib.hid (And.intro hP3 (And.intro hE13 hpv))
    have h3s := hE3.size
    clear q2 q3 q4 hE3 hpv hP3 hE13
    have h63 : Calls Tryz.prog 63 #[.string tk] w3 fun e w' => e = .returned (.string (iasked tk)) ∧ w3 = w' := HIC.out w3
    go_wp2_with fail
    refine h63.mono ?_
    rintro e w4 ⟨rfl, rfl⟩
    clear h63
    have HPC := Lib.hid (pattern_bad hnm hnn HM.out (ea := ea) (en := en) (ec := ec) (ca := ca) (cn := cn) (cc := cc) HNV.out.2 (HK1.out.1.turn (Y := fun b => b < w1.heap.size) fun b o v _ hc => ⟨cell_lt hc, HK3.out.2.1.keep (fun h => h) hc⟩) HK3.out.2.2 (HK1.out.2.1.extM HK3.out.2.1 (fun _ _ _ h => h)) (fun hn b o e => by have := HK1.out.2.2.1 hn b o e; omega) HK1.out.2.2.2.1)
    go_wp2_with fail
    refine HPC.out.mono ?_
    rintro e w4 ⟨⟨mb, v0, v1, v2, rfl, hB4⟩, hE4⟩
    have d3 : w4.cell? ⟨mb, 3, none⟩ = some (.bool true) := by rw [hB4.cell]; rfl
    have dl := cell_lt d3
    have HE4 : Hid (Ext w w4) := Lib.hid (((HE0.out.trans HK1.out.2.2.2.2).trans (HK3.out.2.1.toExt (Ext.refl _) (fun _ _ h => h))).trans hE4)
    clear hE4 hB4
    go_wp2_with fail
    go_ret3
    exact ⟨rfl, HE4.out⟩
end Go.Proofs.YtigalkobmfbdaaaGreatDoor
/- FnTwice in plain words: a name that has a node is given another one. -/
set_option linter.unusedVariables false
set_option linter.unusedSimpArgs false
namespace Go.Proofs.YtigalkobmfbdaaaGreatDoor
open Go.RowKit Go.WideMaps Go.Sort
abbrev strS (s : ByteArray) : Syn := .mk ⟨#[115, 116, 114, 105, 110, 103]⟩ false s 0 []
abbrev idS (s : ByteArray) : Syn := .mk ⟨#[73, 100, 101, 110, 116]⟩ false ⟨#[]⟩ 0 [strS s]
abbrev ixS (a b : Syn) : Syn := .mk ⟨#[73, 110, 100, 101, 120, 69, 120, 112, 114]⟩ false ⟨#[]⟩ 0 [a, b]
abbrev anyId : Tree := .mk ⟨#[73, 100, 101, 110, 116]⟩ ⟨#[]⟩ [.mk ⟨#[65, 110, 121]⟩ ⟨#[]⟩ []]
def pXX : Tree := .mk ⟨#[73, 110, 100, 101, 120, 69, 120, 112, 114]⟩ ⟨#[]⟩ [.mk ⟨#[66, 105, 110, 100, 105, 110, 103]⟩ ⟨#[120]⟩ [anyId], .mk ⟨#[66, 105, 110, 100, 105, 110, 103]⟩ ⟨#[120]⟩ [anyId]]
def pXY : Tree := .mk ⟨#[73, 110, 100, 101, 120, 69, 120, 112, 114]⟩ ⟨#[]⟩ [.mk ⟨#[66, 105, 110, 100, 105, 110, 103]⟩ ⟨#[120]⟩ [anyId], .mk ⟨#[66, 105, 110, 100, 105, 110, 103]⟩ ⟨#[121]⟩ [anyId]]
abbrev anyN : PN := .struct ⟨#[73, 100, 101, 110, 116]⟩ [.any]
theorem pXX_facts : good pXX 97 = true ∧ nodeKind pXX = true ∧ count pXX ≤ 60 ∧ text 0 pXX = ⟨#[40, 73, 110, 100, 101, 120, 69, 120, 112, 114, 32, 120, 64, 40, 73, 100, 101, 110, 116, 32, 95, 41, 32, 120, 64, 40, 73, 100, 101, 110, 116, 32, 95, 41, 41]⟩ ∧ namesT pXX = [[120]] := by
  refine ⟨?_, ?_, ?_, ?_, ?_⟩ <;> decide +kernel
theorem pXY_facts : good pXY 97 = true ∧ nodeKind pXY = true ∧ count pXY ≤ 60 ∧ text 0 pXY = ⟨#[40, 73, 110, 100, 101, 120, 69, 120, 112, 114, 32, 120, 64, 40, 73, 100, 101, 110, 116, 32, 95, 41, 32, 121, 64, 40, 73, 100, 101, 110, 116, 32, 95, 41, 41]⟩ ∧ namesT pXY = [[120], [121]] := by
  refine ⟨?_, ?_, ?_, ?_, ?_⟩ <;> decide +kernel
theorem pXX_pn : (toPN pXX []).1 = .struct ⟨#[73, 110, 100, 101, 120, 69, 120, 112, 114]⟩ [.bind ⟨#[120]⟩ anyN 0, .bind ⟨#[120]⟩ anyN 0] := by kernel_rfl
theorem pXY_pn : (toPN pXY []).1 = .struct ⟨#[73, 110, 100, 101, 120, 69, 120, 112, 114]⟩ [.bind ⟨#[120]⟩ anyN 0, .bind ⟨#[121]⟩ anyN 1] := by kernel_rfl
theorem pXX_entry : ∃ E, entryN (toPN pXX []).1 [] = some E := ⟨[[73, 110, 100, 101, 120, 69, 120, 112, 114]], by kernel_rfl⟩
theorem pXY_entry : ∃ E, entryN (toPN pXY []).1 [] = some E := ⟨[[73, 110, 100, 101, 120, 69, 120, 112, 114]], by kernel_rfl⟩
theorem right_of (t : Syn) (o1 o2 : ByteArray) : right t 101 o1 = right t 101 o2 := by
  obtain ⟨k, nl, x, n, ks⟩ := t
  rw [right_mk, right_mk]
  rfl
theorem right_ix (a b : Syn) : right (ixS a b) 101 ⟨#[]⟩ = (right a 101 ⟨#[73, 110, 100, 101, 120, 69, 120, 112, 114]⟩ && (right b 101 ⟨#[73, 110, 100, 101, 120, 69, 120, 112, 114]⟩ && true)) := by kernel_rfl
theorem ix_right {a b : Syn} (ha : right a 101 ⟨#[]⟩ = true) (hb : right b 101 ⟨#[]⟩ = true) : right (ixS a b) 101 ⟨#[]⟩ = true := by
  rw [right_ix, right_of a _ ⟨#[]⟩, right_of b _ ⟨#[]⟩, ha, hb]
  rfl
theorem right_id0 (s : ByteArray) : right (idS s) 101 ⟨#[]⟩ = (right (strS s) 110 ⟨#[73, 100, 101, 110, 116]⟩ && true) := by kernel_rfl
theorem right_id {s : ByteArray} (h : word s.toList = true) : right (idS s) 101 ⟨#[]⟩ = true := by
  rw [right_id0, right_mk, if_neg (by decide), if_pos (by decide), h]
  decide +kernel
theorem mt_x (nm0 : Names) (s : ByteArray) : mt [[120], [121]] false (.bind ⟨#[120]⟩ anyN 0) (idS s) [] = some (true, idS s, [([120], idS s)]) := by kernel_rfl
theorem mt_x1 (s : ByteArray) : mt [[120]] false (.bind ⟨#[120]⟩ anyN 0) (idS s) [] = some (true, idS s, [([120], idS s)]) := by kernel_rfl
theorem named_id : named ⟨#[73, 100, 101, 110, 116]⟩ = true ∧ (args ⟨#[73, 100, 101, 110, 116]⟩).length = 1 ∧ ((⟨#[73, 100, 101, 110, 116]⟩ : ByteArray).toList == [78, 111, 116]) = false := by decide +kernel
theorem named_ix : named ⟨#[73, 110, 100, 101, 120, 69, 120, 112, 114]⟩ = true ∧ (args ⟨#[73, 110, 100, 101, 120, 69, 120, 112, 114]⟩).length = 2 ∧ ((⟨#[73, 110, 100, 101, 120, 69, 120, 112, 114]⟩ : ByteArray).toList == [78, 111, 116]) = false ∧ wrapIx ⟨#[73, 110, 100, 101, 120, 69, 120, 112, 114]⟩ = none ∧ lisK ⟨#[73, 110, 100, 101, 120, 69, 120, 112, 114]⟩ = false ∧ ((⟨#[73, 110, 100, 101, 120, 69, 120, 112, 114]⟩ : ByteArray).toList == [98, 111, 111, 108]) = false := by decide +kernel
/-- The second pattern is told of every expression. -/
theorem mt_xy (s : ByteArray) {n : Syn} {of : ByteArray} (h : right n 101 of = true) : ∃ ok o S, mt [[120], [121]] false (.struct ⟨#[73, 110, 100, 101, 120, 69, 120, 112, 114]⟩ [.bind ⟨#[120]⟩ anyN 0, .bind ⟨#[121]⟩ anyN 1]) (ixS (idS s) n) [] = some (ok, o, S) := by
  obtain ⟨h1, h2, h3, h4, h5, h6⟩ := named_ix
  obtain ⟨ok, o, hm⟩ := mt_one [[120], [121]] named_id.2.2 named_id.1 named_id.2.1 false [([120], idS s)] h
  have hy : mt [[120], [121]] false (.bind ⟨#[121]⟩ anyN 1) n [([120], idS s)] = (match mt [[120], [121]] false anyN n [([120], idS s)] with
      | none => none
      | some (true, o, S') => some (true, o, setB S' (ByteArray.toList ⟨#[121]⟩) o)
      | some (false, o, S') => some (false, o, S')) := by
    have hg : getB [([120], idS s)] (ByteArray.toList ⟨#[121]⟩) = none := by kernel_rfl
    conv => lhs; unfold mt
    rw [if_pos (by decide +kernel), if_neg (by decide), if_neg (by decide), hg]
    rfl
  rw [mt_struct h3, h1, h2, peelS_none h4 h5]
  simp only [List.length_cons, List.length_nil, Nat.zero_add, beq_self_eq_true, Bool.and_self, if_true, skind_mk, skids_mk, h6, Bool.false_eq_true, if_false]
  rw [mtArgs, mt_x []]
  simp only
  rw [mtArgs, hy, hm]
  cases ok
  · exact ⟨_, _, _, rfl⟩
  · simp only [mtArgs]
    exact ⟨_, _, _, rfl⟩
theorem badC_struct {nm : Names} {k : ByteArray} {ks : List PN} {ys : List Syn} (h2k : 2 ≤ ks.length) (h2y : 2 ≤ ys.length) {S1 : SL} {o1 : Syn} (ih0 : MtC nm ks[0]) (hm0 : mt nm false ks[0] ys[0] [] = some (true, o1, S1)) (ih1 : BadC nm ks[1] ys[1] S1) (hnk : named k = true) (hkl : ks.length = (args k).length) (hr : RZ (.mk k false ⟨#[]⟩ 0 ys)) (hc : ks[0].cnt ≤ 900) (hnot : (k.toList == [78, 111, 116]) = false) (hw : wrapIx k = none) : BadC nm (.struct k ks) (.mk k false ⟨#[]⟩ 0 ys) [] := by
  intro mb tb w rv T nv pv hM hN hP
  obtain ⟨ba, bc, c0, c1, c2, c3, -⟩ := hM.cells
  obtain ⟨hp1, hp2, hp3, hke, -⟩ := pf_facts hnk
  have hne := node_ne k hke
  rw [NodeAt] at hN
  obtain ⟨a, c, rfl, hlc, hks⟩ := hN
  have hBare := bare_in hr.1 (by rw [skind_mk]; exact hw) hP
  obtain ⟨b, ya, yc, e, -⟩ := hP.blk (by rw [skind_mk]; exact hne)
  subst e
  refine disp_struct hnot c3 hBare (fun w' hE => (node_bad h2k h2y ih0 hm0 ih1 hnk hkl hr hc hlc (hM.ext hE) (hks.mono (hE.keeps _)) (hP.mono (hE.keeps _))).mono ?_)
  rintro e w2 ⟨p, b, rfl, hR⟩
  exact ⟨p, b, rfl, hR.ext hE⟩
theorem bad_twice (s : ByteArray) {n : Syn} (hn : RS n) (hz : RZ (ixS (idS s) n)) : BadC [[120]] (.struct ⟨#[73, 110, 100, 101, 120, 69, 120, 112, 114]⟩ [.bind ⟨#[120]⟩ anyN 0, .bind ⟨#[120]⟩ anyN 0]) (ixS (idS s) n) [] := by
  obtain ⟨h1, h2, h3, h4, -⟩ := named_ix
  exact badC_struct (S1 := [([120], idS s)]) (o1 := idS s) (by decide) (by simp) (mt_all _ _ _ (Nat.lt_succ_self _)) (mt_x1 s) (badC_bind rfl (by decide) (old := idS s) (by kernel_rfl) hn) h1 (by rw [h2]; rfl) hz (by show (PN.bind ⟨#[120]⟩ anyN 0).cnt ≤ 900; decide +kernel) h3 h4
/-- impl.Match of the first pattern. -/
theorem twice_bad {s : ByteArray} {n : Syn} (hs : word s.toList = true) (hn : right n 101 ⟨#[]⟩ = true) (hc : (countS n : Int) ≤ 60) (hd : (depthS n : Int) ≤ 14) {X : Nat → Prop} {w : World} {a : Option Addr} {c : Nat} (hT : SynIn X w a c (ixS (idS s) n)) (hTab : TabAt w) :
    Calls Tryz.prog 37 #[.string ⟨#[40, 73, 110, 100, 101, 120, 69, 120, 112, 114, 32, 120, 64, 40, 73, 100, 101, 110, 116, 32, 95, 41, 32, 120, 64, 40, 73, 100, 101, 110, 116, 32, 95, 41, 41]⟩, synV (ixS (idS s) n) a c] w fun e w' => e = .returned (.tuple #[.bool false, .slice none 0 0, .int .i64 3]) ∧ Ext w w' := by
  have hr := ix_right (right_id hs) hn
  have hcn : countS (ixS (idS s) n) = countS n + 3 := by simp only [countS_mk, countSs]; omega
  have hdn : depthS (ixS (idS s) n) ≤ depthS n + 3 := by simp only [depthS_mk, depthSs]; omega
  have hsz := sizeS_count (ixS (idS s) n)
  have hz : RZ (ixS (idS s) n) := ⟨⟨101, by decide, _, hr⟩, by omega⟩
  obtain ⟨E, hE⟩ := pXX_entry
  have hR := reads_good (s := 0) false pXX_facts.1 pXX_facts.2.1 pXX_facts.2.2.1
  rw [pXX_facts.2.2.2.1, pXX_facts.2.2.2.2, pXX_pn] at hR
  rw [pXX_pn] at hE
  have hTab2 : TabAt (w.alloc (.cells (synC (ixS (idS s) n) a c) 52)) := hTab.toExt (Ext.alloc _ _)
  exact imatch_three (nm := [[120]]) ⟨by decide +kernel, by decide, by decide⟩ rfl (bad_twice s ⟨101, by decide, _, hn⟩ hz) rfl (by rw [skind_mk]; decide +kernel) (pat_read hR (by decide) (by decide +kernel) (by decide +kernel) hE (by decide +kernel) (by decide +kernel) rfl (fun ks e => by cases e) hTab2)
    (fun lb w1 hE1 hlb hB => (part_top _ (.inl rfl) hr X a c 0 300 lb w w1 hT hE1 hlb hB (by omega) (by omega) (by omega) (by omega)).mono fun e w' h => ⟨h.1, h.2.2⟩)
/-- impl.Match of the second pattern. -/
theorem twice_fine {s : ByteArray} {n : Syn} (hs : word s.toList = true) (hn : right n 101 ⟨#[]⟩ = true) (hc : (countS n : Int) ≤ 60) (hd : (depthS n : Int) ≤ 14) {X : Nat → Prop} {w : World} {a : Option Addr} {c : Nat} (hT : SynIn X w a c (ixS (idS s) n)) (hTab : TabAt w) :
    ∃ ok S, Calls Tryz.prog 37 #[.string ⟨#[40, 73, 110, 100, 101, 120, 69, 120, 112, 114, 32, 120, 64, 40, 73, 100, 101, 110, 116, 32, 95, 41, 32, 121, 64, 40, 73, 100, 101, 110, 116, 32, 95, 41, 41]⟩, synV (ixS (idS s) n) a c] w (MatchRes w ok S) := by
  have hr := ix_right (right_id hs) hn
  have hcn : countS (ixS (idS s) n) = countS n + 3 := by simp only [countS_mk, countSs]; omega
  have hdn : depthS (ixS (idS s) n) ≤ depthS n + 3 := by simp only [depthS_mk, depthSs]; omega
  have hsz := sizeS_count (ixS (idS s) n)
  have hz : RZ (ixS (idS s) n) := ⟨⟨101, by decide, _, hr⟩, by omega⟩
  obtain ⟨E, hE⟩ := pXY_entry
  obtain ⟨ok, o, S, hm⟩ := mt_xy s hn
  refine ⟨ok, S, ?_⟩
  rw [← pXY_facts.2.2.2.1]
  exact imatch_good pXY_facts.1 pXY_facts.2.1 pXY_facts.2.2.1 (by rw [pXY_facts.2.2.2.1]; decide) hE (by rw [pXY_facts.2.2.2.2]; decide) (.inl rfl) hr (by omega) (by omega) hz (by rw [pXY_facts.2.2.2.2, pXY_pn]; exact hm) hT hTab
end Go.Proofs.YtigalkobmfbdaaaGreatDoor
