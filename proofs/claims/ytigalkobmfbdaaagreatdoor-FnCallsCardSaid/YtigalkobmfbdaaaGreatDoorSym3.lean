/- collectSymbols of a call of a symbol. -/
import Derived.Test.YtigalkobmfbdaaaGreatDoorSym1
import Derived.Test.YtigalkobmfbdaaaGreatDoorSym2
import Derived.Test.YtigalkobmfbdaaaGreatDoorNames1
import Derived.Deep.AppendLies
set_option linter.unusedVariables false
set_option linter.unusedSimpArgs false
namespace Go.Proofs.YtigalkobmfbdaaaGreatDoor
open Go.RowKit Go.WideMaps Go.Sort
abbrev idxV (p t i : ByteArray) : Value := .iface 87 (.agg #[.string p, .string t, .string i])
/-- What symbolToIndexSymbol makes of a text. -/
def SymI (s p t i : ByteArray) : Prop := ∀ w : World, Calls Tryz.prog 118 #[.string s] w fun e w' => e = .returned (.agg #[.string p, .string t, .string i]) ∧ Ext w w'
/-- The one row of an And that holds one node. -/
def AndOne (b : Nat) (x : Value) (w w' : World) : Prop := ∃ g c, Blk w' b #[.slice (some ⟨g, 0, none⟩) 1 c] 141 ∧ w'.cell? ⟨g, 0, none⟩ = some x ∧ w.heap.size ≤ g ∧ ExtM (fun k => k = b) w w'
set_option maxRecDepth 100000 in
set_option maxHeartbeats 1000000 in
theorem and_index (x : Value) (b : Nat) (w : World) (hb : Blk w b #[.slice none 0 0] 141) :
    Calls Tryz.prog 116 #[.iface 87 x, .pointer (some ⟨b, 0, none⟩)] w fun e w' => e = .returned (.tuple #[]) ∧ AndOne b (.iface 87 x) w w' := by
  obtain ⟨t1, t2, t3, t4, t5, t6, t7, t8, t9, t10, t11, t12⟩ := ta_87 x
  obtain ⟨i0, hi, hz0, hz1, hz2⟩ := info_parts info78
  have c0 := Blk1 hb
  have hf := hb.frozen
  have hlt := hb.lt
  have HB := Lib.hid hb
  clear hb
  go_enter Tryz.func116, Tryz.ntmps116
  go_wp2_with (first
    | (at_builtin; refine wpList_append_own _ rfl _ _ 125 rfl w.heap.size 78 i0 _ 1 16 underlying125 hi hz0 hz1 hz2 rfl (by decide) (.slice none 0 0) 0 [] rfl (World.ownsRow_nil _ _ _ _) ⟨w.heap.size, 0, none⟩ 1 1 [.iface 87 x] rfl rfl (cells_one_new _ _ _) ?c2 ?c3 ?c4 ?c5 ?_)
    | go_in)
  case c2 => intro u hu; simp at hu; subst hu; rfl
  case c3 => decide
  case c4 => decide
  case c5 => simp
  intro v' w2 hO2 hG hnil
  clear hnil
  obtain ⟨g, cp, rfl, hgb, hgl⟩ := hO2.form (by omega)
  have hg0 : w2.cell? ⟨g, 0, none⟩ = some (.iface 87 x) := by
    have := hO2.cells (g := g) rfl 0 _ rfl
    simpa [Addr.add] using this
  have hE2 : Ext w w2 := (Ext.alloc w (.cells #[.iface 87 x] 78)).grown hG (by simp [Value.ownBlock])
  have hgb' : w.heap.size ≤ g := by omega
  have hB2 := (HB.out.ext (Ext.alloc w (.cells #[.iface 87 x] 78))).grown' hG (by simp [Value.ownBlock])
  have hf2 := hB2.frozen
  have hc2 := Blk1 hB2
  have HF := Lib.hid (And.intro hB2 (And.intro hg0 (And.intro hgb' hE2)))
  clear hB2 hg0 hE2 hG hO2
  go_wp2_with fail
  go_end0
  refine ⟨rfl, g, cp, HF.out.1.set 0 _, ?_, HF.out.2.2.1, (HF.out.2.2.2.toM (fun k => k = b)).setCell (p := ⟨b, 0, none⟩) (.inl rfl) _⟩
  exact ((ExtM.refl (fun k => k = b) w2).setCell (p := ⟨b, 0, none⟩) (.inl rfl) _).keep (by show ¬ g = b; have := HF.out.2.2.1; omega) HF.out.2.1
set_option maxRecDepth 100000 in
set_option maxHeartbeats 1000000 in
theorem sym_name {s p t i : ByteArray} (hs : SymI s p t i) (w : World) : Calls Tryz.prog 90 #[.iface 132 (.string s), .bool true] w fun e w' => e = .returned (idxV p t i) ∧ Ext w w' := by
  obtain ⟨t1, t2, t3, t4, t5, t6, t7, t8, t9, t10, t11, t12⟩ := ta_132 (.string s)
  have HS := Lib.hid hs
  clear hs
  go_enter Tryz.func90, Tryz.ntmps90
  go_wp2_with fail
  refine (HS.out _).mono ?_
  rintro e w1 ⟨rfl, hE⟩
  go_wp2_with fail
  go_ret
  exact ⟨rfl, hE⟩
/-- The node (Symbol "s") in memory. -/
abbrev symN (s : ByteArray) : PN := .struct ⟨#[83, 121, 109, 98, 111, 108]⟩ [.str s]
set_option maxRecDepth 100000 in
set_option maxHeartbeats 1000000 in
theorem sym_symbol {s p t i : ByteArray} (hs : SymI s p t i) {X : Nat → Prop} {v : Value} {w : World} (hv : NodeAt X w v (symN s)) : Calls Tryz.prog 90 #[v, .bool false] w fun e w' => e = .returned (idxV p t i) ∧ Ext w w' := by
  rw [NodeAt] at hv
  obtain ⟨a, c, rfl, hc, hk⟩ := hv
  obtain ⟨b, o, u, rfl, hb, hcell, hn⟩ := hk.get 0 (by simp)
  rw [List.getElem_cons_zero, NodeAt] at hn
  subst hn
  rw [Nat.add_zero] at hcell
  have hbl := cell_lt hcell
  simp only at hbl
  have hne1 : b ≠ w.heap.size := by omega
  obtain ⟨t1, t2, t3, t4, t5, t6, t7, t8, t9, t10, t11, t12⟩ := ta_127 (.agg #[.string ⟨#[83, 121, 109, 98, 111, 108]⟩, .slice (some ⟨b, o, none⟩) 1 c])
  have HS := Lib.hid (And.intro hs hk)
  have hl1 : [PN.str s].length = 1 := rfl
  rw [hl1]
  clear hs hk hb hl1
  go_enter Tryz.func90, Tryz.ntmps90
  go_wp2_with fail
  refine (sym_name HS.out.1 _).mono ?_
  rintro e w1 ⟨rfl, hE⟩
  go_wp2_with fail
  go_ret
  exact ⟨rfl, hE.of_alloc⟩
theorem AndOne.ext {b : Nat} {x : Value} {w w1 w2 : World} (h : AndOne b x w w1) (hE : Ext w1 w2) : AndOne b x w w2 := by
  obtain ⟨g, c, h1, h2, h3, h4⟩ := h
  exact ⟨g, c, h1.ext hE, hE.keep h2, h3, h4.ext hE⟩
theorem AndOne.elder {b : Nat} {x : Value} {w0 w w1 : World} (h : AndOne b x w w1) (hE : Ext w0 w) : AndOne b x w0 w1 := by
  obtain ⟨g, c, h1, h2, h3, h4⟩ := h
  exact ⟨g, c, h1, h2, Nat.le_trans hE.size h3, hE.extM h4⟩
/-- Where the loop over a call's nodes stands. -/
def CallRel (W : World) (b : Nat) (x : Value) (len : Nat) (i : Value) (wr : World) : Prop := (i = .int .i64 (0 : Nat) ∧ wr = W) ∨ ∃ j : Nat, i = .int .i64 j ∧ 1 ≤ j ∧ j ≤ len ∧ AndOne b x W wr
set_option maxRecDepth 100000 in
set_option maxHeartbeats 1000000 in
theorem zz_call {s p t i : ByteArray} (hs : SymI s p t i) {ns : List PN} (X : Nat → Prop) (nm : ByteArray) (a : Option Addr) (c : Nat) (w : World) (hk : NodesAt X w a (symN s :: ns)) (hp : plainNs ns = true) (hcnt : cntAll ns ≤ 100000) (hlen : (symN s :: ns).length ≤ 100000) :
    Calls Tryz.prog 117 #[.agg #[.string nm, .slice a (symN s :: ns).length c], .bool false, .func (.func 116) #[] #[]] w fun e w' => e = .returned (idxV p t i) ∧ Ext w w' := by
  have HK := Lib.hid (And.intro hk (And.intro hp (And.intro hs hcnt)))
  have hl0 : 0 < (symN s :: ns).length := by simp
  clear hk hp hs hcnt
  generalize hks : (symN s :: ns) = ks at *
  have HKS := Lib.hid hks.symm
  clear hks
  have HA : Hid (Blk ((w.alloc (.cells #[.string nm, .slice a ks.length c] 127)).alloc (.cells #[.slice none 0 0] 141)) (w.heap.size + 1) #[.slice none 0 0] 141) := Lib.hid (Blk.second _ _ _ _)
  have HW : Hid (Ext w ((w.alloc (.cells #[.string nm, .slice a ks.length c] 127)).alloc (.cells #[.slice none 0 0] 141))) := Lib.hid ((Ext.alloc _ _).trans (Ext.alloc _ _))
  go_enter Tryz.func117, Tryz.ntmps117
  go_wp2_with fail
  go_loopw [14] (fun i' wr => CallRel ((w.alloc (.cells #[.string nm, .slice a ks.length c] 127)).alloc (.cells #[.slice none 0 0] 141)) (w.heap.size + 1) (idxV p t i) ks.length i' wr) (fun i' _ => ks.length - (intOf i').toNat)
  case atStart => exact .inl ⟨rfl, rfl⟩
  case round =>
    rcases hrel with ⟨rfl, rfl⟩ | ⟨j, rfl, hj1, hj, hE⟩
    · obtain ⟨b, o, u, rfl, hb, hcell, hn⟩ := HK.out.1.get 0 hl0
      have hcw := HW.out.keep hcell
      rw [Nat.add_zero] at hcw
      have hn' : NodeAt X w u (symN s) := by
        have := hn
        simp only [HKS.out, List.getElem_cons_zero] at this
        exact this
      have H := Lib.hid hn'
      clear hn hn' hcell hb
      rcases H.out.shape with rfl | ⟨tt, xx, rfl⟩
      all_goals
        go_wp2_with fail
        refine (sym_symbol HK.out.2.2.1 (H.out.mono (HW.out.keeps X))).mono ?_
        rintro e w1 ⟨rfl, hE1⟩
        have HE1 := Lib.hid hE1
        clear hE1
        go_wp2_with fail
        refine (and_index _ _ _ (HA.out.ext HE1.out)).mono ?_
        rintro e w2 ⟨rfl, hO⟩
        have HO := Lib.hid (hO.elder HE1.out)
        clear hO
        go_wp2_with fail
        exact ⟨.inr ⟨1, by go_num, Nat.le_refl _, by omega, HO.out⟩, by simp [intOf]; omega⟩
    · have KE := Lib.hid hE
      clear hE
      by_cases hlt : j < ks.length
      · obtain ⟨b, o, u, rfl, hb, hcell, hn⟩ := HK.out.1.get j hlt
        have hEw : Ext w wr := by
          obtain ⟨-, -, -, -, -, h4⟩ := KE.out
          exact h4.toExt HW.out (fun k hk e => by omega)
        have hcw := hEw.keep hcell
        have hpl : plainN ks[j] = true ∧ ks[j].cnt ≤ 100000 := by
          obtain ⟨j', rfl⟩ : ∃ j', j = j' + 1 := ⟨j - 1, by omega⟩
          have hj2 : j' < ns.length := by have := hlt; rw [HKS.out] at this; simpa using this
          have e1 : ks[j' + 1] = ns[j'] := by simp only [HKS.out, List.getElem_cons_succ]
          rw [e1]
          exact ⟨plainNs_get HK.out.2.1 j' hj2, Nat.le_trans (cntAll_get j' hj2) HK.out.2.2.2⟩
        have H := Lib.hid (And.intro hn (And.intro hpl hEw))
        clear hn hcell hb hpl hEw
        rcases H.out.1.shape with rfl | ⟨tt, xx, rfl⟩
        all_goals
          go_wp2_with fail
          refine (sym_calls H.out.2.1.1 H.out.2.1.2 X _ _ (H.out.1.mono (H.out.2.2.keeps X)) H.out.2.1.1).mono ?_
          rintro e w1 ⟨rfl, hE1⟩
          have HE1 := Lib.hid hE1
          clear hE1
          go_wp2_with fail
          refine (and_any _ _).mono ?_
          rintro e w2 ⟨rfl, hE2⟩
          have HO := Lib.hid (KE.out.ext (HE1.out.trans hE2))
          clear hE2
          go_wp2_with fail
          exact ⟨.inr ⟨j + 1, by go_num, by omega, by omega, HO.out⟩, by simp [intOf]; omega⟩
      · obtain rfl : j = ks.length := by omega
        obtain ⟨g, cp, h1, h2, h3, h4⟩ := KE.out
        have hEw : Ext w wr := h4.toExt HW.out (fun k hk e => by omega)
        have HX := Lib.hid hEw
        have c2 := Blk1 h1
        clear h1 h3 h4 hEw
        go_wp2_with fail
        go_ret
        exact ⟨rfl, HX.out⟩
set_option maxRecDepth 100000 in
set_option maxHeartbeats 1000000 in
/-- collectSymbols of a call of a symbol: the symbol. -/
theorem sym_callN {s p t i : ByteArray} (hs : SymI s p t i) {ns : List PN} {nm : ByteArray} (hn1 : (nm.toList == [78, 111, 116]) = false) (hn2 : (nm.toList == [83, 121, 109, 98, 111, 108]) = false) (hp : plainNs ns = true) (hcnt : cntAll ns ≤ 100000) (hlen : (symN s :: ns).length ≤ 100000)
    {X : Nat → Prop} {v : Value} {w : World} (hv : NodeAt X w v (.struct nm (symN s :: ns))) : Calls Tryz.prog 90 #[v, .bool false] w fun e w' => e = .returned (idxV p t i) ∧ Ext w w' := by
  rw [NodeAt] at hv
  obtain ⟨a, c, rfl, hc, hk⟩ := hv
  have HK := Lib.hid (And.intro hk (And.intro hp (And.intro hs (And.intro hcnt hlen))))
  clear hk hp hs hcnt hlen
  have HZ := Lib.hid (fun W hE => zz_call HK.out.2.2.1 X nm a c W (HK.out.1.mono hE) HK.out.2.1 HK.out.2.2.2.1 HK.out.2.2.2.2)
  clear hc HK
  generalize (symN s :: ns).length = len at *
  obtain ⟨t1, t2, t3, t4, t5, t6, t7, t8, t9, t10, t11, t12⟩ := ta_127 (.agg #[.string nm, .slice a len c])
  go_enter Tryz.func90, Tryz.ntmps90
  go_wp2_with fail
  refine (HZ.out _ ((Ext.alloc _ _).keeps X)).mono ?_
  rintro e w1 ⟨rfl, hE1⟩
  go_wp2_with fail
  go_ret
  exact ⟨rfl, hE1.of_alloc⟩
end Go.Proofs.YtigalkobmfbdaaaGreatDoor
