/- collectRootCallSymbols of a call of a symbol. -/
import Derived.Test.YtigalkobmfbdaaaGreatDoorSym3
import Derived.Test.YtigalkobmfbdaaaGreatDoorRoot1
import Derived.Test.YtigalkobmfbdaaaGreatDoorParse3
set_option linter.unusedVariables false
set_option linter.unusedSimpArgs false
namespace Go.Proofs.YtigalkobmfbdaaaGreatDoor
open Go.RowKit Go.WideMaps Go.Sort
theorem underlying191 : Tryz.prog.underlying 191 = some (.slice 132) := by kernel_rfl
theorem info132 : (Tryz.prog.info? 132).map (fun i => (i.zero, i.size, i.bytes)) = some (some (.string ⟨#[]⟩), 1, 16) := by kernel_rfl
/-- The one row of names that holds one name. -/
def NameOne (b : Nat) (s : ByteArray) (w w' : World) : Prop := ∃ g c, Blk w' b #[.slice (some ⟨g, 0, none⟩) 1 c] 191 ∧ w'.cell? ⟨g, 0, none⟩ = some (.string s) ∧ w.heap.size ≤ g ∧ ExtM (fun k => k = b) w w'
theorem NameOne.elder {b : Nat} {s : ByteArray} {w0 w w1 : World} (h : NameOne b s w w1) (hE : Ext w0 w) : NameOne b s w0 w1 := by
  obtain ⟨g, c, h1, h2, h3, h4⟩ := h
  exact ⟨g, c, h1, h2, Nat.le_trans hE.size h3, hE.extM h4⟩
theorem NameOne.keep {b : Nat} {s : ByteArray} {w w1 : World} (h : NameOne b s w w1) {p : Addr} {v : Value} (hp : p.block ≠ b) (hc : w.cell? p = some v) : w1.cell? p = some v := by
  obtain ⟨g, c, h1, h2, h3, h4⟩ := h
  exact h4.keep hp hc
set_option maxRecDepth 100000 in
set_option maxHeartbeats 1000000 in
theorem name_one (s : ByteArray) (p6 : Option Addr) (b : Nat) (w : World) (hb : Blk w b #[.slice none 0 0] 191) :
    Calls Tryz.prog 119 #[.iface 132 (.string s), .pointer (some ⟨b, 0, none⟩), .pointer p6] w fun e w' => e = .returned (.bool true) ∧ NameOne b s w w' := by
  obtain ⟨t1, t2, t3, t4, t5, t6, t7, t8, t9, t10, t11, t12⟩ := ta_132 (.string s)
  obtain ⟨i0, hi, hz0, hz1, hz2⟩ := info_parts info132
  have c0 := Blk1 hb
  have hf := hb.frozen
  have hlt := hb.lt
  have HB := Lib.hid hb
  clear hb
  go_enter Tryz.func119, Tryz.ntmps119
  go_wp2_with (first
    | (at_builtin; refine wpList_append_own _ rfl _ _ 191 rfl w.heap.size 132 i0 _ 1 16 underlying191 hi hz0 hz1 hz2 rfl (by decide) (.slice none 0 0) 0 [] rfl (World.ownsRow_nil _ _ _ _) ⟨w.heap.size, 0, none⟩ 1 1 [.string s] rfl rfl (cells_one_new _ _ _) ?c2 ?c3 ?c4 ?c5 ?_)
    | go_in)
  case c2 => intro u hu; simp at hu; subst hu; rfl
  case c3 => decide
  case c4 => decide
  case c5 => simp
  intro v' w2 hO2 hG hnil
  clear hnil
  obtain ⟨g, cp, rfl, hgb, hgl⟩ := hO2.form (by omega)
  have hg0 : w2.cell? ⟨g, 0, none⟩ = some (.string s) := by
    have := hO2.cells (g := g) rfl 0 _ rfl
    simpa [Addr.add] using this
  have hE2 : Ext w w2 := (Ext.alloc w (.cells #[.string s] 132)).grown hG (by simp [Value.ownBlock])
  have hgb' : w.heap.size ≤ g := by omega
  have hB2 := (HB.out.ext (Ext.alloc w (.cells #[.string s] 132))).grown' hG (by simp [Value.ownBlock])
  have hf2 := hB2.frozen
  have hc2 := Blk1 hB2
  have HF := Lib.hid (And.intro hB2 (And.intro hg0 (And.intro hgb' hE2)))
  clear hB2 hg0 hE2 hG hO2
  go_wp2_with fail
  go_ret
  refine ⟨rfl, g, cp, HF.out.1.set 0 _, ?_, HF.out.2.2.1, (HF.out.2.2.2.toM (fun k => k = b)).setCell (p := ⟨b, 0, none⟩) (.inl rfl) _⟩
  exact ((ExtM.refl (fun k => k = b) w2).setCell (p := ⟨b, 0, none⟩) (.inl rfl) _).keep (by show ¬ g = b; have := HF.out.2.2.1; omega) HF.out.2.1
abbrev nameF (b5 b6 : Nat) : Value := .func (.func 119) #[] #[.pointer (some ⟨b5, 0, none⟩), .pointer (some ⟨b6, 0, none⟩)]
set_option maxRecDepth 100000 in
set_option maxHeartbeats 4000000 in
theorem root_symN {s : ByteArray} {X : Nat → Prop} {v : Value} {w : World} {b5 b6 : Nat} {p7 : Option Addr} (hv : NodeAt X w v (symN s)) (h5 : Blk w b5 #[.slice none 0 0] 191) (h6 : Blk w b6 #[nameF b5 b6] 192) :
    Calls Tryz.prog 120 #[v, .pointer p7, .pointer (some ⟨b6, 0, none⟩)] w fun e w' => e = .returned (.bool true) ∧ NameOne b5 s w w' := by
  rw [NodeAt] at hv
  obtain ⟨a, c, rfl, hcc, hk⟩ := hv
  obtain ⟨b, o, u, rfl, hb, hcell, hn⟩ := hk.get 0 (by simp)
  rw [List.getElem_cons_zero, NodeAt] at hn
  subst hn
  rw [Nat.add_zero] at hcell
  have hl1 : [PN.str s].length = 1 := rfl
  rw [hl1]
  have hbl := cell_lt hcell
  simp only at hbl
  have hne1 : b ≠ w.heap.size := by omega
  have hne5 : b ≠ b5 := by
    rintro rfl
    rw [h5.cell] at hcell
    cases o <;> simp at hcell
  have hne6 : b6 ≠ b5 := by
    rintro rfl
    have := h5.cell 0
    rw [h6.cell] at this
    simp at this
  have l5 := h5.lt
  have l6 := h6.lt
  have hne56 : b5 ≠ w.heap.size := by omega
  have hne66 : b6 ≠ w.heap.size := by omega
  obtain ⟨t1, t2, t3, t4, t5, t6, t7, t8, t9, t10, t11, t12⟩ := ta_127 (.agg #[.string ⟨#[83, 121, 109, 98, 111, 108]⟩, .slice (some ⟨b, o, none⟩) 1 c])
  have HW : Hid (Ext w (w.alloc (.cells #[.string ⟨#[83, 121, 109, 98, 111, 108]⟩, .slice (some ⟨b, o, none⟩) 1 c] 127))) := Lib.hid (Ext.alloc _ _)
  have HN := Lib.hid (Blk2 (Blk.new w #[.string ⟨#[83, 121, 109, 98, 111, 108]⟩, .slice (some ⟨b, o, none⟩) 1 c] 127))
  have H5 := Lib.hid (h5.ext HW.out)
  have k3 := HW.out.keep (Blk1 h6)
  have k4 := HW.out.keep hcell
  clear hk hb hl1 h5 h6 hcell
  go_enter Tryz.func120, Tryz.ntmps120
  go_wp2_with fail
  have k1 := HN.out.1
  have k2 := HN.out.2
  go_region_held3 (fun w' => w'.cell? ⟨w.heap.size, 0, none⟩ = some (.string ⟨#[83, 121, 109, 98, 111, 108]⟩) ∧ w'.cell? ⟨w.heap.size, 1, none⟩ = some (.slice (some ⟨b, o, none⟩) 1 c) ∧ w'.cell? ⟨b6, 0, none⟩ = some (nameF b5 b6) ∧ w'.cell? ⟨b, o, none⟩ = some (.iface 132 (.string s))) (go_keep)
    ((go_at_call 119; refine (name_one s (some ⟨b6, 0, none⟩) b5 _ (H5.out.ext (Ext.drew _))).mono ?_; rintro e w1 ⟨rfl, hE1⟩; have HE1 := Lib.hid (hE1.elder (HW.out.trans (Ext.drew _))); have j1 := hE1.keep hne56.symm ((Ext.drew _).keep k1); have j2 := hE1.keep hne56.symm ((Ext.drew _).keep k2); have j3 := hE1.keep hne6 ((Ext.drew _).keep k3); have j4 := hE1.keep hne5 ((Ext.drew _).keep k4); clear hE1))
  go_wp2_with fail
  go_ret
  exact ⟨rfl, HE1.out⟩
theorem make79 : ∀ w : World, (Instr.makeSlice 79 (.int .i64 ((1 : Nat) : Int)) (.int .i64 ((1 : Nat) : Int))).run Tryz.prog w = .ok (.slice (some ⟨w.heap.size, 0, none⟩) 1 1) (w.alloc (.cells #[.string ⟨#[]⟩, .string ⟨#[]⟩, .string ⟨#[]⟩] 87)) := fun w => by kernel_rfl
theorem make79' : ∀ w : World, (Instr.makeSlice 79 (.int .i64 1) (.int .i64 1)).run Tryz.prog w = .ok (.slice (some ⟨w.heap.size, 0, none⟩) 1 1) (w.alloc (.cells #[.string ⟨#[]⟩, .string ⟨#[]⟩, .string ⟨#[]⟩] 87)) := fun w => by kernel_rfl
/-- The row of call symbols: laid, then filled. -/
def RowRel (w : World) (W : World) (b : Nat) (p t i : ByteArray) (iv : Value) (wr : World) : Prop := (iv = .int .i64 (0 : Nat) ∧ wr = W) ∨ (iv = .int .i64 (1 : Nat) ∧ Blk wr b #[.string p, .string t, .string i] 87 ∧ Ext w wr)
set_option maxRecDepth 100000 in
set_option maxHeartbeats 4000000 in
theorem roots_callN {s p t i : ByteArray} (hs : SymI s p t i) {X : Nat → Prop} {a : Option Addr} {c : Nat} {ns : List PN} {w : World} (hk : NodesAt X w a (symN s :: ns)) :
    Calls Tryz.prog 91 #[.iface 127 (.agg #[.string ⟨#[67, 97, 108, 108, 69, 120, 112, 114]⟩, .slice a (symN s :: ns).length c])] w fun e w' => ∃ b, e = .returned (.slice (some ⟨b, 0, none⟩) 1 1) ∧ Blk w' b #[.string p, .string t, .string i] 87 ∧ w.heap.size ≤ b ∧ Ext w w' := by
  obtain ⟨b, o, u, rfl, hb, hcell, hn⟩ := hk.get 0 (by simp)
  have hc0 := hcell
  rw [Nat.add_zero] at hc0
  simp only [List.getElem_cons_zero] at hn
  have hz : (0 : Int) < ((symN s :: ns).length : Int) := by simp only [List.length_cons]; omega
  have hzn : 0 < (symN s :: ns).length := by simp
  have hta := (ta_127 (.agg #[.string ⟨#[67, 97, 108, 108, 69, 120, 112, 114]⟩, .slice (some ⟨b, o, none⟩) (symN s :: ns).length c])).2.1
  have H := Lib.hid (And.intro hn hs)
  clear hk hcell hn hb hs
  generalize (symN s :: ns).length = len at *
  have hbl := cell_lt hc0
  simp only at hbl
  have HW : Hid (Ext w ((((w.alloc (.cells #[.string ⟨#[67, 97, 108, 108, 69, 120, 112, 114]⟩, .slice (some ⟨b, o, none⟩) len c] 127)).alloc (.cells #[.slice none 0 0] 191)).alloc (.cells #[nameF (w.heap.size + 1) (w.heap.size + 1 + 1)] 192)).alloc (.cells #[rootF (some ⟨w.heap.size + 1 + 1 + 1, 0, none⟩) (some ⟨w.heap.size + 1 + 1, 0, none⟩)] 192))) := Lib.hid ((((Ext.alloc _ _).trans (Ext.alloc _ _)).trans (Ext.alloc _ _)).trans (Ext.alloc _ _))
  have k1 := ((((Ext.alloc _ (.cells #[.slice none 0 0] 191)).trans (Ext.alloc _ (.cells #[nameF (w.heap.size + 1) (w.heap.size + 1 + 1)] 192))).trans (Ext.alloc _ (.cells #[rootF (some ⟨w.heap.size + 1 + 1 + 1, 0, none⟩) (some ⟨w.heap.size + 1 + 1, 0, none⟩)] 192)))).keep (Blk2 (Blk.new w #[.string ⟨#[67, 97, 108, 108, 69, 120, 112, 114]⟩, .slice (some ⟨b, o, none⟩) len c] 127)).2
  have k2 := Blk1 (Blk.fourth w (.cells #[.string ⟨#[67, 97, 108, 108, 69, 120, 112, 114]⟩, .slice (some ⟨b, o, none⟩) len c] 127) (.cells #[.slice none 0 0] 191) (.cells #[nameF (w.heap.size + 1) (w.heap.size + 1 + 1)] 192) #[rootF (some ⟨w.heap.size + 1 + 1 + 1, 0, none⟩) (some ⟨w.heap.size + 1 + 1, 0, none⟩)] 192)
  have B5 : Hid (Blk ((((w.alloc (.cells #[.string ⟨#[67, 97, 108, 108, 69, 120, 112, 114]⟩, .slice (some ⟨b, o, none⟩) len c] 127)).alloc (.cells #[.slice none 0 0] 191)).alloc (.cells #[nameF (w.heap.size + 1) (w.heap.size + 1 + 1)] 192)).alloc (.cells #[rootF (some ⟨w.heap.size + 1 + 1 + 1, 0, none⟩) (some ⟨w.heap.size + 1 + 1, 0, none⟩)] 192)) (w.heap.size + 1) #[.slice none 0 0] 191) := Lib.hid (((Blk.second w _ _ _).ext (Ext.alloc _ _)).ext (Ext.alloc _ _))
  have B6 : Hid (Blk ((((w.alloc (.cells #[.string ⟨#[67, 97, 108, 108, 69, 120, 112, 114]⟩, .slice (some ⟨b, o, none⟩) len c] 127)).alloc (.cells #[.slice none 0 0] 191)).alloc (.cells #[nameF (w.heap.size + 1) (w.heap.size + 1 + 1)] 192)).alloc (.cells #[rootF (some ⟨w.heap.size + 1 + 1 + 1, 0, none⟩) (some ⟨w.heap.size + 1 + 1, 0, none⟩)] 192)) (w.heap.size + 1 + 1) #[nameF (w.heap.size + 1) (w.heap.size + 1 + 1)] 192) := Lib.hid ((by simpa using (Blk.new ((w.alloc (.cells #[.string ⟨#[67, 97, 108, 108, 69, 120, 112, 114]⟩, .slice (some ⟨b, o, none⟩) len c] 127)).alloc (.cells #[.slice none 0 0] 191)) #[nameF (w.heap.size + 1) (w.heap.size + 1 + 1)] 192) : Blk _ (w.heap.size + 1 + 1) _ _).ext (Ext.alloc _ _))
  have k3 := HW.out.keep hc0
  have hm1 := make79
  have hm2 := make79'
  have n1 : w.heap.size ≠ w.heap.size + 1 := by omega
  have n2 : w.heap.size + 1 + 1 + 1 ≠ w.heap.size + 1 := by omega
  have n3 : b ≠ w.heap.size + 1 := by omega
  rcases H.out.1.shape with rfl | ⟨tt, xx, rfl⟩
  · have := H.out.1
    rw [NodeAt] at this
    obtain ⟨_, _, e, _⟩ := this
    cases e
  · go_enter Tryz.func91, Tryz.ntmps91
    go_wp2_with fail
    go_region_held3 (fun w' => w'.cell? ⟨w.heap.size + 1 + 1 + 1, 0, none⟩ = some (rootF (some ⟨w.heap.size + 1 + 1 + 1, 0, none⟩) (some ⟨w.heap.size + 1 + 1, 0, none⟩)) ∧ w'.cell? ⟨w.heap.size, 1, none⟩ = some (.slice (some ⟨b, o, none⟩) len c) ∧ w'.cell? ⟨b, o, none⟩ = some (.iface tt xx)) (go_keep)
      ((go_at_call 120; refine (root_symN (s := s) (X := X) (H.out.1.mono ((HW.out.trans (Ext.drew _)).keeps X)) (B5.out.ext (Ext.drew _)) (B6.out.ext (Ext.drew _))).mono ?_; rintro e w1 ⟨rfl, hE1⟩; have HE1 := Lib.hid (hE1.elder (Ext.drew _)); have j1 := hE1.keep n1 ((Ext.drew _).keep k1); have j2 := hE1.keep n2 ((Ext.drew _).keep k2); have j3 := hE1.keep n3 ((Ext.drew _).keep k3); clear hE1))
    obtain ⟨g, cp, N1, N2, N3, N4⟩ := HE1.out
    have q1 := Blk1 N1
    have HV := Lib.hid (And.intro N4 N3)
    have ng := cell_lt N2
    have lw1 : w.heap.size + 1 < w1.heap.size := N1.lt
    have q1' := (Ext.alloc w1 (.cells #[.string ⟨#[]⟩, .string ⟨#[]⟩, .string ⟨#[]⟩] 87)).keep q1
    have N2' := (Ext.alloc w1 (.cells #[.string ⟨#[]⟩, .string ⟨#[]⟩, .string ⟨#[]⟩] 87)).keep N2
    simp only at ng
    clear N1 N3 N4 HE1 B5 B6 k1 k2 k3 j1 j2 j3
    go_wp2_with fail
    go_loopw [37] (fun i' wr => RowRel w (w1.alloc (.cells #[.string ⟨#[]⟩, .string ⟨#[]⟩, .string ⟨#[]⟩] 87)) w1.heap.size p t i i' wr) (fun i' _ => 1 - (intOf i').toNat)
    case atStart => exact .inl ⟨rfl, rfl⟩
    case round =>
      rcases hrel with ⟨rfl, rfl⟩ | ⟨rfl, hB, hE⟩
      · have HM := Lib.hid (Blk.new w1 #[.string ⟨#[]⟩, .string ⟨#[]⟩, .string ⟨#[]⟩] 87)
        go_wp2_with fail
        refine (H.out.2 _).mono ?_
        rintro e w2 ⟨rfl, hE2⟩
        have hM2 := HM.out.ext hE2
        have HE2 := Lib.hid hE2
        have fz := hM2.frozen
        have lz := hM2.lt
        have cz := Blk3 hM2
        have HM2 := Lib.hid hM2
        clear hM2 hE2
        go_wp2_with fail
        have hX1 : Ext w w1 := HV.out.1.toExt HW.out (fun k hk e => by omega)
        refine ⟨.inr ⟨by go_num, ((HM2.out.set 0 (.string p)).set 1 (.string t)).set 2 (.string i), ?_⟩, by simp [intOf]⟩
        exact ((((ExtM.refl (fun k => k = w1.heap.size) w2).setCell (p := ⟨w1.heap.size, 0, none⟩) (.inl rfl) _).setCell (p := ⟨w1.heap.size, 1, none⟩) (.inl rfl) _).setCell (p := ⟨w1.heap.size, 2, none⟩) (.inl rfl) _).toExt (hX1.trans ((Ext.alloc _ _).trans HE2.out)) (fun k hk e => by have := hX1.size; omega)
      · have HR := Lib.hid (And.intro hB hE)
        clear hB hE
        go_wp2_with fail
        go_ret
        exact ⟨_, rfl, HR.out.1, (HV.out.1.toExt HW.out (fun k hk e => by omega) : Ext w w1).size, HR.out.2⟩
end Go.Proofs.YtigalkobmfbdaaaGreatDoor
