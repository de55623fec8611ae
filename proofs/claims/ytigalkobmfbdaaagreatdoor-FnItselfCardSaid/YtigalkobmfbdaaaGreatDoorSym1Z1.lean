/- collectSymbols of a pattern without symbols. -/
import Derived.Test.YtigalkobmfbdaaaGreatDoorMix1b
import Derived.Test.YtigalkobmfbdaaaGreatDoorMix1c
import Derived.Test.YtigalkobmfbdaaaGreatDoorTaZ1
set_option linter.unusedVariables false
set_option linter.unusedSimpArgs false
namespace Go.Proofs.YtigalkobmfbdaaaGreatDoor
open Go.RowKit
mutual
/-- How many nodes. -/
def PN.cnt : PN → Nat
  | .nul => 1
  | .any => 1
  | .nil => 1
  | .str _ => 1
  | .tok _ => 1
  | .struct _ ks => cntAll ks + 1
  | .list h t => PN.cnt h + PN.cnt t + 1
  | .bind _ n _ => PN.cnt n + 1
  | .or ks => cntAll ks + 1
  | .and ks => cntAll ks + 1
  | .index _ _ _ => 1
def cntAll : List PN → Nat
  | [] => 0
  | n :: ns => PN.cnt n + cntAll ns
end
theorem cntAll_get : ∀ {ks : List PN} (j : Nat) (hj : j < ks.length), ks[j].cnt ≤ cntAll ks
  | n :: ns, 0, _ => by rw [cntAll]; exact Nat.le_add_right _ _
  | n :: ns, j + 1, hj => by have := cntAll_get (ks := ns) j (by simpa using hj); rw [cntAll]; simp only [List.getElem_cons_succ]; omega
theorem PN.cnt_pos (n : PN) : 0 < n.cnt := by cases n <;> rw [PN.cnt] <;> omega
theorem cntAll_len : ∀ l : List PN, l.length ≤ cntAll l
  | [] => Nat.zero_le _
  | n :: ns => by have := cntAll_len ns; have := n.cnt_pos; rw [cntAll]; simp only [List.length_cons]; omega
theorem plainNs_get : ∀ {ks : List PN} (_ : plainNs ks = true) (j : Nat) (hj : j < ks.length), plainN ks[j] = true
  | n :: ns, h, 0, _ => by rw [plainNs, Bool.and_eq_true] at h; exact h.1
  | n :: ns, h, j + 1, hj => by rw [plainNs, Bool.and_eq_true] at h; simpa using plainNs_get h.2 j (by simpa using hj)
theorem Blk2 {w : World} {b : Nat} {p q : Value} {t : TypeId} (h : Blk w b #[p, q] t) : w.cell? ⟨b, 0, none⟩ = some p ∧ w.cell? ⟨b, 1, none⟩ = some q := ⟨by rw [h.cell]; rfl, by rw [h.cell]; rfl⟩
theorem Blk1 {w : World} {b : Nat} {p : Value} {t : TypeId} (h : Blk w b #[p] t) : w.cell? ⟨b, 0, none⟩ = some p := by rw [h.cell]; rfl
theorem Blk.second (w : World) (A : Obj) (cs : Array Value) (t : TypeId) : Blk ((w.alloc A).alloc (.cells cs t)) (w.heap.size + 1) cs t := by
  have := Blk.new (w.alloc A) cs t
  simpa using this
abbrev anyV : Value := .iface 130 (.agg #[])
def SymC (n : PN) : Prop := ∀ (X : Nat → Prop) (v : Value) (w : World), NodeAt X w v n → plainN n = true → Calls Tryz.prog 90 #[v, .bool false] w fun e w' => e = .returned anyV ∧ Ext w w'
set_option maxRecDepth 100000 in
set_option maxHeartbeats 1000000 in
theorem and_any (p : Option Addr) (w : World) : Calls Tryz.prog 116 #[anyV, .pointer p] w fun e w' => e = .returned (.tuple #[]) ∧ Ext w w' := by
  obtain ⟨t1, t2, t3, t4, t5, t6, t7, t8, t9, t10, t11, t12⟩ := ta_130 (.agg #[])
  go_enter Tryz.func116, Tryz.ntmps116
  go_wp2_with fail
  go_end0
  exact ⟨rfl, Ext.alloc _ _⟩
set_option maxRecDepth 100000 in
set_option maxHeartbeats 1000000 in
theorem sym_leaf {n : PN} (hn : n = .nul ∨ n = .any ∨ n = .nil ∨ (∃ s, n = .str s) ∨ ∃ s, n = .tok s) : SymC n := by
  intro X v w hv hp
  rcases hn with rfl | rfl | rfl | ⟨s, rfl⟩ | ⟨s, rfl⟩ <;> rw [NodeAt] at hv <;> subst hv
  · obtain ⟨t1, t2, t3, t4, t5, t6, t7, t8, t9, t10, t11, t12⟩ := ta_nil
    go_enter Tryz.func90, Tryz.ntmps90
    go_wp2_with fail
    go_ret
    exact ⟨rfl, Ext.refl _⟩
  · obtain ⟨t1, t2, t3, t4, t5, t6, t7, t8, t9, t10, t11, t12⟩ := ta_130 (.agg #[])
    go_enter Tryz.func90, Tryz.ntmps90
    go_wp2_with fail
    go_ret
    exact ⟨rfl, Ext.alloc _ _⟩
  · obtain ⟨t1, t2, t3, t4, t5, t6, t7, t8, t9, t10, t11, t12⟩ := ta_131 (.agg #[])
    go_enter Tryz.func90, Tryz.ntmps90
    go_wp2_with fail
    go_ret
    exact ⟨rfl, Ext.refl _⟩
  · obtain ⟨t1, t2, t3, t4, t5, t6, t7, t8, t9, t10, t11, t12⟩ := ta_132 (.string s)
    go_enter Tryz.func90, Tryz.ntmps90
    go_wp2_with fail
    go_ret
    exact ⟨rfl, Ext.refl _⟩
  · obtain ⟨t1, t2, t3, t4, t5, t6, t7, t8, t9, t10, t11, t12⟩ := ta_134 (.string s)
    go_enter Tryz.func90, Tryz.ntmps90
    go_wp2_with fail
    go_ret
    exact ⟨rfl, Ext.refl _⟩
set_option maxRecDepth 100000 in
set_option maxHeartbeats 1000000 in
theorem sym_bind {nm : ByteArray} {n : PN} {i : Int} (ih : SymC n) : SymC (.bind nm n i) := by
  intro X v w hv hp
  rw [NodeAt] at hv
  obtain ⟨nv, rfl, hn⟩ := hv
  rw [plainN] at hp
  have H := Lib.hid (And.intro hn hp)
  clear hn hp
  rcases H.out.1.shape with rfl | ⟨tt, xx, rfl⟩
  · obtain ⟨t1, t2, t3, t4, t5, t6, t7, t8, t9, t10, t11, t12⟩ := ta_138 (.agg #[.string nm, .nilIface, .int .i64 i])
    go_enter Tryz.func90, Tryz.ntmps90
    go_wp2_with fail
    refine (ih X _ _ (H.out.1.mono ((Ext.alloc _ _).keeps X)) H.out.2).mono ?_
    rintro e w' ⟨rfl, hE⟩
    go_wp2_with fail
    go_ret
    exact ⟨rfl, hE.of_alloc⟩
  · obtain ⟨t1, t2, t3, t4, t5, t6, t7, t8, t9, t10, t11, t12⟩ := ta_138 (.agg #[.string nm, .iface tt xx, .int .i64 i])
    go_enter Tryz.func90, Tryz.ntmps90
    go_wp2_with fail
    refine (ih X _ _ (H.out.1.mono ((Ext.alloc _ _).keeps X)) H.out.2).mono ?_
    rintro e w' ⟨rfl, hE⟩
    go_wp2_with fail
    go_ret
    exact ⟨rfl, hE.of_alloc⟩
set_option maxRecDepth 100000 in
set_option maxHeartbeats 1000000 in
theorem sym_list_one {h t : PN} (ih1 : SymC h) (ih2 : SymC t) (X : Nat → Prop) (p q : Value) (w : World) (H : Hid (NodeAt X w p h ∧ NodeAt X w q t ∧ plainN h = true ∧ plainN t = true)) : Calls Tryz.prog 90 #[.iface 136 (.agg #[p, q]), .bool false] w fun e w' => e = .returned anyV ∧ Ext w w' := by
  obtain ⟨t1, t2, t3, t4, t5, t6, t7, t8, t9, t10, t11, t12⟩ := ta_136 (.agg #[p, q])
  have HA : Hid (Blk ((w.alloc (.cells #[p, q] 136)).alloc (.cells #[.slice none 0 0] 141)) w.heap.size #[p, q] 136) := Lib.hid ((Blk.new w #[p, q] 136).ext (Ext.alloc _ _))
  have HB : Hid (Blk ((w.alloc (.cells #[p, q] 136)).alloc (.cells #[.slice none 0 0] 141)) (w.heap.size + 1) #[.slice none 0 0] 141) := Lib.hid (Blk.second _ _ _ _)
  have HW : Hid (Ext w ((w.alloc (.cells #[p, q] 136)).alloc (.cells #[.slice none 0 0] 141))) := Lib.hid ((Ext.alloc _ _).trans (Ext.alloc _ _))
  rcases H.out.1.shape with rfl | ⟨tt, xx, rfl⟩ <;> rcases H.out.2.1.shape with rfl | ⟨tt2, xx2, rfl⟩
  all_goals
    go_enter Tryz.func90, Tryz.ntmps90
    go_wp2_with fail
    refine (ih1 X _ _ (H.out.1.mono (HW.out.keeps X)) H.out.2.2.1).mono ?_
    rintro e w1 ⟨rfl, hE1⟩
    have HE1 := Lib.hid hE1
    clear hE1
    go_wp2_with fail
    refine (and_any _ _).mono ?_
    rintro e w2 ⟨rfl, hE2⟩
    have HE2 := Lib.hid (HE1.out.trans hE2)
    clear hE2
    obtain ⟨c0, c1⟩ := Blk2 (HA.out.ext HE2.out)
    go_wp2_with fail
    refine (ih2 X _ _ (H.out.2.1.mono ((HW.out.trans HE2.out).keeps X)) H.out.2.2.2).mono ?_
    rintro e w3 ⟨rfl, hE3⟩
    have HE3 := Lib.hid (HE2.out.trans hE3)
    clear hE3
    go_wp2_with fail
    refine (and_any _ _).mono ?_
    rintro e w4 ⟨rfl, hE4⟩
    have HE4 := Lib.hid (HE3.out.trans hE4)
    clear hE4
    have c2 := Blk1 (HB.out.ext HE4.out)
    go_wp2_with fail
    go_ret
    exact ⟨rfl, HW.out.trans HE4.out⟩
theorem sym_list {h t : PN} (ih1 : SymC h) (ih2 : SymC t) : SymC (.list h t) := by
  intro X v w hv hp
  rw [NodeAt] at hv
  obtain ⟨p, q, rfl, hh, ht⟩ := hv
  rw [plainN, Bool.and_eq_true] at hp
  exact sym_list_one ih1 ih2 X p q w (Lib.hid ⟨hh, ht, hp⟩)
set_option maxRecDepth 100000 in
set_option maxHeartbeats 1000000 in
theorem sym_or {ks : List PN} (ih : ∀ (j : Nat) (hj : j < ks.length), SymC ks[j]) : SymC (.or ks) := by
  intro X v w hv hp
  rw [NodeAt] at hv
  obtain ⟨a, c, rfl, hc, hk⟩ := hv
  rw [plainN, Bool.and_eq_true, Bool.not_eq_true', List.isEmpty_eq_false_iff] at hp
  have h0 : 0 < ks.length := List.length_pos_iff.2 hp.1
  obtain ⟨b, o, u, rfl, hb, hcell, hn⟩ := hk.get 0 h0
  have hpl := plainNs_get hp.2 0 h0
  have hc0 := hcell
  rw [Nat.add_zero] at hc0
  have H := Lib.hid (And.intro hn hpl)
  have hz : (0 : Int) < (ks.length : Int) := by omega
  clear hn hpl hp hk hcell hb
  obtain ⟨t1, t2, t3, t4, t5, t6, t7, t8, t9, t10, t11, t12⟩ := ta_140 (.agg #[.slice (some ⟨b, o, none⟩) ks.length c])
  obtain ⟨s1, s2, s3, s4, s5, s6, s7, s8, s9, s10, s11, s12⟩ := ta_130 (.agg #[])
  have HW : Hid (Ext w ((w.alloc (.cells #[.slice (some ⟨b, o, none⟩) ks.length c] 140)).alloc (.cells #[.slice none 0 0] 140))) := Lib.hid ((Ext.alloc _ _).trans (Ext.alloc _ _))
  have hbl := cell_lt hc0
  simp only at hbl
  have hne1 : b ≠ w.heap.size := by omega
  have hne2 : b ≠ w.heap.size + 1 := by omega
  rcases H.out.1.shape with rfl | ⟨tt, xx, rfl⟩
  all_goals
    go_enter Tryz.func90, Tryz.ntmps90
    go_wp2_with fail
    go_loopw [33] (fun i wr => i = .int .i64 0 ∧ wr = ((w.alloc (.cells #[.slice (some ⟨b, o, none⟩) ks.length c] 140)).alloc (.cells #[.slice none 0 0] 140))) (fun _ _ => 0)
    case atStart => exact ⟨rfl, rfl⟩
    case round =>
      obtain ⟨rfl, rfl⟩ := hrel
      go_wp2_with fail
      refine (ih 0 h0 X _ _ (H.out.1.mono (HW.out.keeps X)) H.out.2).mono ?_
      rintro e w1 ⟨rfl, hE1⟩
      have HE1 := Lib.hid (HW.out.trans hE1)
      clear hE1
      go_wp2_with fail
      go_ret
      exact ⟨rfl, HE1.out.trans (Ext.alloc _ _)⟩
set_option maxRecDepth 100000 in
set_option maxHeartbeats 1000000 in
theorem zz_plain {ks : List PN} (ih : ∀ (j : Nat) (hj : j < ks.length), SymC ks[j]) (X : Nat → Prop) (nm : ByteArray) (a : Option Addr) (c : Nat) (w : World) (hk : NodesAt X w a ks) (hp : plainNs ks = true) (hlen : ks.length ≤ 100000) :
    Calls Tryz.prog 117 #[.agg #[.string nm, .slice a ks.length c], .bool false, .func (.func 116) #[] #[]] w fun e w' => e = .returned anyV ∧ Ext w w' := by
  have HK := Lib.hid (And.intro hk hp)
  clear hk hp
  have HA : Hid (Blk ((w.alloc (.cells #[.string nm, .slice a ks.length c] 127)).alloc (.cells #[.slice none 0 0] 141)) (w.heap.size + 1) #[.slice none 0 0] 141) := Lib.hid (Blk.second _ _ _ _)
  have HW : Hid (Ext w ((w.alloc (.cells #[.string nm, .slice a ks.length c] 127)).alloc (.cells #[.slice none 0 0] 141))) := Lib.hid ((Ext.alloc _ _).trans (Ext.alloc _ _))
  go_enter Tryz.func117, Tryz.ntmps117
  go_wp2_with fail
  go_loopw [14] (fun i wr => ∃ j : Nat, i = .int .i64 j ∧ j ≤ ks.length ∧ Ext ((w.alloc (.cells #[.string nm, .slice a ks.length c] 127)).alloc (.cells #[.slice none 0 0] 141)) wr) (fun i _ => ks.length - (intOf i).toNat)
  case atStart => exact ⟨0, rfl, Nat.zero_le _, Ext.refl _⟩
  case round =>
    obtain ⟨j, rfl, hj, hE⟩ := hrel
    have KE := Lib.hid hE
    clear hE
    by_cases hlt : j < ks.length
    · obtain ⟨b, o, u, rfl, hb, hcell, hn⟩ := HK.out.1.get j hlt
      have hcw := (HW.out.trans KE.out).keep hcell
      have H := Lib.hid (And.intro hn (plainNs_get HK.out.2 j hlt))
      clear hn hcell hb
      rcases H.out.1.shape with rfl | ⟨tt, xx, rfl⟩
      all_goals
        go_wp2_with fail
        refine (ih j hlt X _ _ (H.out.1.mono ((HW.out.trans KE.out).keeps X)) H.out.2).mono ?_
        rintro e w1 ⟨rfl, hE1⟩
        have HE1 := Lib.hid (KE.out.trans hE1)
        clear hE1
        go_wp2_with fail
        refine (and_any _ _).mono ?_
        rintro e w2 ⟨rfl, hE2⟩
        have HE2 := Lib.hid (HE1.out.trans hE2)
        clear hE2
        go_wp2_with fail
        exact ⟨⟨j + 1, by go_num, by omega, HE2.out⟩, by simp [intOf]; omega⟩
    · obtain rfl : j = ks.length := by omega
      have c2 := Blk1 (HA.out.ext KE.out)
      go_wp2_with fail
      go_ret
      exact ⟨rfl, HW.out.trans KE.out⟩
set_option maxRecDepth 100000 in
set_option maxHeartbeats 1000000 in
theorem sym_struct {nm : ByteArray} {ks : List PN} (ih : ∀ (j : Nat) (hj : j < ks.length), SymC ks[j]) (hlen : ks.length ≤ 100000) : SymC (.struct nm ks) := by
  intro X v w hv hp
  rw [NodeAt] at hv
  obtain ⟨a, c, rfl, hc, hk⟩ := hv
  rw [plainN, Bool.and_eq_true, Bool.not_eq_true'] at hp
  have hs := hp.1
  have HK := Lib.hid (And.intro hk hp.2)
  clear hk hp
  obtain ⟨t1, t2, t3, t4, t5, t6, t7, t8, t9, t10, t11, t12⟩ := ta_127 (.agg #[.string nm, .slice a ks.length c])
  cases hn : (nm.toList == [78, 111, 116])
  · go_enter Tryz.func90, Tryz.ntmps90
    go_wp2_with fail
    refine (zz_plain ih X nm a c _ (HK.out.1.mono ((Ext.alloc _ _).keeps X)) HK.out.2 hlen).mono ?_
    rintro e w1 ⟨rfl, hE1⟩
    go_wp2_with fail
    go_ret
    exact ⟨rfl, hE1.of_alloc⟩
  · go_enter Tryz.func90, Tryz.ntmps90
    go_wp2_with fail
    go_ret
    exact ⟨rfl, Ext.alloc _ _⟩
theorem sym_all : ∀ (k : Nat) (n : PN), n.cnt < k → n.cnt ≤ 100000 → plainN n = true → SymC n
  | 0, _, h, _, _ => by omega
  | k + 1, .nul, _, _, _ => sym_leaf (.inl rfl)
  | k + 1, .any, _, _, _ => sym_leaf (.inr (.inl rfl))
  | k + 1, .nil, _, _, _ => sym_leaf (.inr (.inr (.inl rfl)))
  | k + 1, .str s, _, _, _ => sym_leaf (.inr (.inr (.inr (.inl ⟨s, rfl⟩))))
  | k + 1, .tok s, _, _, _ => sym_leaf (.inr (.inr (.inr (.inr ⟨s, rfl⟩))))
  | k + 1, .bind nm n i, h, hl, hp => by
    rw [PN.cnt] at h hl
    rw [plainN] at hp
    exact sym_bind (sym_all k n (by omega) (by omega) hp)
  | k + 1, .list x y, h, hl, hp => by
    rw [PN.cnt] at h hl
    rw [plainN, Bool.and_eq_true] at hp
    exact sym_list (sym_all k x (by omega) (by omega) hp.1) (sym_all k y (by omega) (by omega) hp.2)
  | k + 1, .or ks, h, hl, hp => by
    rw [PN.cnt] at h hl
    rw [plainN, Bool.and_eq_true] at hp
    exact sym_or fun j hj => sym_all k _ (by have := cntAll_get j hj; omega) (by have := cntAll_get j hj; omega) (plainNs_get hp.2 j hj)
  | k + 1, .struct nm ks, h, hl, hp => by
    rw [PN.cnt] at h hl
    rw [plainN, Bool.and_eq_true] at hp
    exact sym_struct (fun j hj => sym_all k _ (by have := cntAll_get j hj; omega) (by have := cntAll_get j hj; omega) (plainNs_get hp.2 j hj)) (by have := cntAll_len ks; omega)
  | k + 1, .and ks, _, _, hp => by rw [plainN] at hp; cases hp
  | k + 1, .index _ _ _, _, _, hp => by rw [plainN] at hp; cases hp
/-- collectSymbols: of a pattern without symbols, anything. -/
theorem sym_calls {n : PN} (hp : plainN n = true) (hl : n.cnt ≤ 100000) : SymC n := sym_all (n.cnt + 1) n (Nat.lt_succ_self _) hl hp
end Go.Proofs.YtigalkobmfbdaaaGreatDoor
