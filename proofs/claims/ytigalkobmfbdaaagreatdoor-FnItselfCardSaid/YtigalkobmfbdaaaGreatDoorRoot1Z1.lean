/- collectRootCallSymbols where nothing is a symbol. -/
import Derived.Test.YtigalkobmfbdaaaGreatDoorSym1Z1
import Derived.Laws.EntriesVeiled
import Derived.Deep.RegionHeld3
set_option linter.unusedVariables false
set_option linter.unusedSimpArgs false
namespace Go.Proofs.YtigalkobmfbdaaaGreatDoor
open Go.RowKit
abbrev rootF (p7 p6 : Option Addr) : Value := .func (.func 120) #[] #[.pointer p7, .pointer p6]
def RootC (n : PN) : Prop := ∀ (X : Nat → Prop) (v : Value) (w : World) (b7 : Nat) (p6 : Option Addr), NodeAt X w v n → plainN n = true → w.cell? ⟨b7, 0, none⟩ = some (rootF (some ⟨b7, 0, none⟩) p6) →
  Calls Tryz.prog 120 #[v, .pointer (some ⟨b7, 0, none⟩), .pointer p6] w fun e w' => e = .returned (.bool false) ∧ Ext w w'
set_option maxRecDepth 100000 in
set_option maxHeartbeats 1000000 in
theorem root_leaf {n : PN} (hn : n = .nul ∨ n = .any ∨ n = .nil ∨ (∃ s, n = .str s) ∨ (∃ s, n = .tok s) ∨ ∃ h t, n = .list h t) : RootC n := by
  intro X v w b7 p6 hv hp hc
  rcases hn with rfl | rfl | rfl | ⟨s, rfl⟩ | ⟨s, rfl⟩ | ⟨h, t, rfl⟩ <;> rw [NodeAt] at hv
  · subst hv
    obtain ⟨t1, t2, t3, t4, t5, t6, t7, t8, t9, t10, t11, t12⟩ := ta_nil
    go_enter Tryz.func120, Tryz.ntmps120
    go_wp2_with fail
    go_ret
    exact ⟨rfl, Ext.refl _⟩
  · subst hv
    obtain ⟨t1, t2, t3, t4, t5, t6, t7, t8, t9, t10, t11, t12⟩ := ta_130 (.agg #[])
    go_enter Tryz.func120, Tryz.ntmps120
    go_wp2_with fail
    go_ret
    exact ⟨rfl, Ext.refl _⟩
  · subst hv
    obtain ⟨t1, t2, t3, t4, t5, t6, t7, t8, t9, t10, t11, t12⟩ := ta_131 (.agg #[])
    go_enter Tryz.func120, Tryz.ntmps120
    go_wp2_with fail
    go_ret
    exact ⟨rfl, Ext.refl _⟩
  · subst hv
    obtain ⟨t1, t2, t3, t4, t5, t6, t7, t8, t9, t10, t11, t12⟩ := ta_132 (.string s)
    go_enter Tryz.func120, Tryz.ntmps120
    go_wp2_with fail
    go_ret
    exact ⟨rfl, Ext.refl _⟩
  · subst hv
    obtain ⟨t1, t2, t3, t4, t5, t6, t7, t8, t9, t10, t11, t12⟩ := ta_134 (.string s)
    go_enter Tryz.func120, Tryz.ntmps120
    go_wp2_with fail
    go_ret
    exact ⟨rfl, Ext.refl _⟩
  · obtain ⟨p, q, rfl, -⟩ := hv
    obtain ⟨t1, t2, t3, t4, t5, t6, t7, t8, t9, t10, t11, t12⟩ := ta_136 (.agg #[p, q])
    go_enter Tryz.func120, Tryz.ntmps120
    go_wp2_with fail
    go_ret
    exact ⟨rfl, Ext.refl _⟩
set_option maxRecDepth 100000 in
set_option maxHeartbeats 1000000 in
theorem root_bind {nm : ByteArray} {n : PN} {i : Int} (ih : RootC n) : RootC (.bind nm n i) := by
  intro X v w b7 p6 hv hp hc
  rw [NodeAt] at hv
  obtain ⟨nv, rfl, hn⟩ := hv
  rw [plainN] at hp
  have hl := cell_lt hc
  simp only at hl
  have hne : b7 ≠ w.heap.size := by omega
  have H := Lib.hid (And.intro hn hp)
  have HC := Lib.hid hc
  clear hn hp
  rcases H.out.1.shape with rfl | ⟨tt, xx, rfl⟩
  · obtain ⟨t1, t2, t3, t4, t5, t6, t7, t8, t9, t10, t11, t12⟩ := ta_138 (.agg #[.string nm, .nilIface, .int .i64 i])
    go_enter Tryz.func120, Tryz.ntmps120
    go_wp2_with fail
    refine (ih X _ _ b7 p6 (H.out.1.mono ((Ext.alloc _ _).keeps X)) H.out.2 ((Ext.alloc _ _).keep HC.out)).mono ?_
    rintro e w' ⟨rfl, hE⟩
    go_wp2_with fail
    go_ret
    exact ⟨rfl, hE.of_alloc⟩
  · obtain ⟨t1, t2, t3, t4, t5, t6, t7, t8, t9, t10, t11, t12⟩ := ta_138 (.agg #[.string nm, .iface tt xx, .int .i64 i])
    go_enter Tryz.func120, Tryz.ntmps120
    go_wp2_with fail
    refine (ih X _ _ b7 p6 (H.out.1.mono ((Ext.alloc _ _).keeps X)) H.out.2 ((Ext.alloc _ _).keep HC.out)).mono ?_
    rintro e w' ⟨rfl, hE⟩
    go_wp2_with fail
    go_ret
    exact ⟨rfl, hE.of_alloc⟩
set_option maxRecDepth 100000 in
set_option maxHeartbeats 1000000 in
theorem root_struct {nm : ByteArray} {ks : List PN} : RootC (.struct nm ks) := by
  intro X v w b7 p6 hv hp hc
  rw [NodeAt] at hv
  obtain ⟨a, c, rfl, hcc, hk⟩ := hv
  rw [plainN, Bool.and_eq_true, Bool.not_eq_true'] at hp
  have hs := hp.1
  clear hk hp
  obtain ⟨t1, t2, t3, t4, t5, t6, t7, t8, t9, t10, t11, t12⟩ := ta_127 (.agg #[.string nm, .slice a ks.length c])
  go_enter Tryz.func120, Tryz.ntmps120
  go_wp2_with fail
  go_quiet (fail)
  go_wp2_with fail
  go_ret
  exact ⟨rfl, (Ext.alloc _ _).trans (Ext.drewN _ _)⟩
/-- A node is a Struct, or the assertion says no. -/
theorem as_struct {X : Nat → Prop} {w : World} {u : Value} {n : PN} (h : NodeAt X w u n) : (∃ nm ks a c, n = .struct nm ks ∧ u = .iface 127 (.agg #[.string nm, .slice a ks.length c]) ∧ ks.length ≤ c ∧ NodesAt X w a ks) ∨ ((∀ w : World, (Instr.typeAssert u 78 127 true).run Tryz.prog w = .ok (.tuple #[.agg #[.string ⟨#[]⟩, .slice none 0 0], .bool false]) w) ∧ ∀ nm ks, n ≠ .struct nm ks) := by
  cases n <;> rw [NodeAt] at h
  · subst h; exact .inr ⟨ta_nil.2.1, fun _ _ => by simp⟩
  · subst h; exact .inr ⟨(ta_130 _).2.1, fun _ _ => by simp⟩
  · subst h; exact .inr ⟨(ta_131 _).2.1, fun _ _ => by simp⟩
  · subst h; exact .inr ⟨(ta_132 _).2.1, fun _ _ => by simp⟩
  · subst h; exact .inr ⟨(ta_134 _).2.1, fun _ _ => by simp⟩
  · obtain ⟨a, c, rfl, hc, hk⟩ := h; exact .inl ⟨_, _, a, c, rfl, rfl, hc, hk⟩
  · obtain ⟨p, q, rfl, -⟩ := h; exact .inr ⟨(ta_136 _).2.1, fun _ _ => by simp⟩
  · obtain ⟨nv, rfl, -⟩ := h; exact .inr ⟨(ta_138 _).2.1, fun _ _ => by simp⟩
  · obtain ⟨a, c, rfl, -⟩ := h; exact .inr ⟨(ta_140 _).2.1, fun _ _ => by simp⟩
  · obtain ⟨a, c, rfl, -⟩ := h; exact .inr ⟨(ta_141 _).2.1, fun _ _ => by simp⟩
  · subst h; exact .inr ⟨(ta_87 _).2.1, fun _ _ => by simp⟩
set_option maxRecDepth 100000 in
set_option maxHeartbeats 1000000 in
theorem root_or {ks : List PN} : RootC (.or ks) := by
  intro X v w b7 p6 hv hp hcl
  rw [NodeAt] at hv
  obtain ⟨a, c, rfl, hc, hk⟩ := hv
  rw [plainN, Bool.and_eq_true, Bool.not_eq_true', List.isEmpty_eq_false_iff] at hp
  have h0 : 0 < ks.length := List.length_pos_iff.2 hp.1
  obtain ⟨b, o, u, rfl, hb, hcell, hn⟩ := hk.get 0 h0
  have hpl := plainNs_get hp.2 0 h0
  have hc0 := hcell
  rw [Nat.add_zero] at hc0
  have hz : (0 : Int) < (ks.length : Int) := by omega
  clear hp hk hcell hb hcl
  obtain ⟨t1, t2, t3, t4, t5, t6, t7, t8, t9, t10, t11, t12⟩ := ta_140 (.agg #[.slice (some ⟨b, o, none⟩) ks.length c])
  have HW : Hid (Ext w (w.alloc (.cells #[.slice (some ⟨b, o, none⟩) ks.length c] 140))) := Lib.hid (Ext.alloc _ _)
  have hbl := cell_lt hc0
  simp only at hbl
  have hne1 : b ≠ w.heap.size := by omega
  rcases as_struct hn with ⟨nm, kk, a', c', e1, rfl, -⟩ | ⟨hta, -⟩
  · rw [e1, plainN, Bool.and_eq_true, Bool.not_eq_true'] at hpl
    have hs := hpl.1
    clear hpl e1 hn
    have hta := (ta_127 (.agg #[.string nm, .slice a' kk.length c'])).2.1
    go_enter Tryz.func120, Tryz.ntmps120
    go_wp2_with fail
    go_loopw [41] (fun i wr => i = .int .i64 0 ∧ wr = w.alloc (.cells #[.slice (some ⟨b, o, none⟩) ks.length c] 140)) (fun _ _ => 0)
    case atStart => exact ⟨rfl, rfl⟩
    case round =>
      obtain ⟨rfl, rfl⟩ := hrel
      go_wp2_with fail
      go_quiet (fail)
      go_wp2_with fail
      go_ret
      exact ⟨rfl, (HW.out.trans (Ext.alloc _ _)).trans (Ext.drewN _ _)⟩
  · have HS := Lib.hid hn
    clear hn hpl
    rcases HS.out.shape with rfl | ⟨tt, xx, rfl⟩
    all_goals
      go_enter Tryz.func120, Tryz.ntmps120
      go_wp2_with fail
      go_loopw [41] (fun i wr => i = .int .i64 0 ∧ wr = w.alloc (.cells #[.slice (some ⟨b, o, none⟩) ks.length c] 140)) (fun _ _ => 0)
      case atStart => exact ⟨rfl, rfl⟩
      case round =>
        obtain ⟨rfl, rfl⟩ := hrel
        go_wp2_with fail
        go_quiet (fail)
        go_wp2_with fail
        go_ret
        exact ⟨rfl, (HW.out.trans (Ext.alloc _ _)).trans (Ext.drewN _ _)⟩
theorem root_all : ∀ (k : Nat) (n : PN), n.cnt < k → plainN n = true → RootC n
  | 0, _, h, _ => by omega
  | k + 1, .nul, _, _ => root_leaf (.inl rfl)
  | k + 1, .any, _, _ => root_leaf (.inr (.inl rfl))
  | k + 1, .nil, _, _ => root_leaf (.inr (.inr (.inl rfl)))
  | k + 1, .str s, _, _ => root_leaf (.inr (.inr (.inr (.inl ⟨s, rfl⟩))))
  | k + 1, .tok s, _, _ => root_leaf (.inr (.inr (.inr (.inr (.inl ⟨s, rfl⟩)))))
  | k + 1, .list x y, _, _ => root_leaf (.inr (.inr (.inr (.inr (.inr ⟨x, y, rfl⟩)))))
  | k + 1, .bind nm n i, h, hp => by
    rw [PN.cnt] at h
    rw [plainN] at hp
    exact root_bind (root_all k n (by omega) hp)
  | k + 1, .or ks, h, hp => root_or
  | k + 1, .struct nm ks, h, hp => root_struct
  | k + 1, .and ks, _, hp => by rw [plainN] at hp; cases hp
  | k + 1, .index _ _ _, _, hp => by rw [plainN] at hp; cases hp
/-- A root that is no call. -/
def noCall : PN → Bool
  | .struct nm _ => !(nm.toList == [67, 97, 108, 108, 69, 120, 112, 114])
  | _ => true
set_option maxRecDepth 100000 in
set_option maxHeartbeats 1000000 in
theorem roots_other {X : Nat → Prop} {v : Value} {n : PN} {w : World} (hv : NodeAt X w v n) (hn : noCall n = true) : Calls Tryz.prog 91 #[v] w fun e w' => e = .returned (.slice none 0 0) ∧ Ext w w' := by
  rcases as_struct hv with ⟨nm, kk, a', c', rfl, rfl, -⟩ | ⟨hta, -⟩
  · have hta := (ta_127 (.agg #[.string nm, .slice a' kk.length c'])).2.1
    rw [noCall, Bool.not_eq_true'] at hn
    clear hv
    go_enter Tryz.func91, Tryz.ntmps91
    go_wp2_with fail
    go_ret
    exact ⟨rfl, Ext.alloc _ _⟩
  · have HS := Lib.hid hv
    clear hv hn
    rcases HS.out.shape with rfl | ⟨tt, xx, rfl⟩
    all_goals
      go_enter Tryz.func91, Tryz.ntmps91
      go_wp2_with fail
      go_ret
      exact ⟨rfl, Ext.alloc _ _⟩
/-- The fourth of four new blocks. -/
theorem Blk.fourth (w : World) (A B C : Obj) (cs : Array Value) (t : TypeId) : Blk ((((w.alloc A).alloc B).alloc C).alloc (.cells cs t)) (w.heap.size + 1 + 1 + 1) cs t := by
  have := Blk.new (((w.alloc A).alloc B).alloc C) cs t
  simpa using this
set_option maxRecDepth 100000 in
set_option maxHeartbeats 4000000 in
theorem roots_call {X : Nat → Prop} {a : Option Addr} {c : Nat} {n : PN} {ns : List PN} {w : World} (hk : NodesAt X w a (n :: ns)) (hp : plainN n = true) :
    Calls Tryz.prog 91 #[.iface 127 (.agg #[.string ⟨#[67, 97, 108, 108, 69, 120, 112, 114]⟩, .slice a (n :: ns).length c])] w fun e w' => e = .returned (.slice none 0 0) ∧ Ext w w' := by
  obtain ⟨b, o, u, rfl, hb, hcell, hn⟩ := hk.get 0 (by simp)
  have hc0 := hcell
  rw [Nat.add_zero] at hc0
  simp only [List.getElem_cons_zero] at hn
  have hz : (0 : Int) < ((n :: ns).length : Int) := by simp only [List.length_cons]; omega
  have hzn : 0 < (n :: ns).length := by simp
  have hta := (ta_127 (.agg #[.string ⟨#[67, 97, 108, 108, 69, 120, 112, 114]⟩, .slice (some ⟨b, o, none⟩) (n :: ns).length c])).2.1
  have H := Lib.hid (And.intro hn hp)
  clear hk hcell hn hp hb
  generalize (n :: ns).length = len at *
  have hbl := cell_lt hc0
  simp only at hbl
  have HW : Hid (Ext w ((((w.alloc (.cells #[.string ⟨#[67, 97, 108, 108, 69, 120, 112, 114]⟩, .slice (some ⟨b, o, none⟩) len c] 127)).alloc (.cells #[.slice none 0 0] 191)).alloc (.cells #[.func (.func 119) #[] #[.pointer (some ⟨w.heap.size + 1, 0, none⟩), .pointer (some ⟨w.heap.size + 1 + 1, 0, none⟩)]] 192)).alloc (.cells #[rootF (some ⟨w.heap.size + 1 + 1 + 1, 0, none⟩) (some ⟨w.heap.size + 1 + 1, 0, none⟩)] 192))) := Lib.hid ((((Ext.alloc _ _).trans (Ext.alloc _ _)).trans (Ext.alloc _ _)).trans (Ext.alloc _ _))
  have k1 := ((((Ext.alloc _ (.cells #[.slice none 0 0] 191)).trans (Ext.alloc _ (.cells #[.func (.func 119) #[] #[.pointer (some ⟨w.heap.size + 1, 0, none⟩), .pointer (some ⟨w.heap.size + 1 + 1, 0, none⟩)]] 192))).trans (Ext.alloc _ (.cells #[rootF (some ⟨w.heap.size + 1 + 1 + 1, 0, none⟩) (some ⟨w.heap.size + 1 + 1, 0, none⟩)] 192)))).keep (Blk2 (Blk.new w #[.string ⟨#[67, 97, 108, 108, 69, 120, 112, 114]⟩, .slice (some ⟨b, o, none⟩) len c] 127)).2
  have k2 := Blk1 (Blk.fourth w (.cells #[.string ⟨#[67, 97, 108, 108, 69, 120, 112, 114]⟩, .slice (some ⟨b, o, none⟩) len c] 127) (.cells #[.slice none 0 0] 191) (.cells #[.func (.func 119) #[] #[.pointer (some ⟨w.heap.size + 1, 0, none⟩), .pointer (some ⟨w.heap.size + 1 + 1, 0, none⟩)]] 192) #[rootF (some ⟨w.heap.size + 1 + 1 + 1, 0, none⟩) (some ⟨w.heap.size + 1 + 1, 0, none⟩)] 192)
  have k3 := HW.out.keep hc0
  rcases H.out.1.shape with rfl | ⟨tt, xx, rfl⟩
  · go_enter Tryz.func91, Tryz.ntmps91
    go_wp2_with fail
    go_region_held3 (fun w' => w'.cell? ⟨w.heap.size + 1 + 1 + 1, 0, none⟩ = some (rootF (some ⟨w.heap.size + 1 + 1 + 1, 0, none⟩) (some ⟨w.heap.size + 1 + 1, 0, none⟩)) ∧ w'.cell? ⟨w.heap.size, 1, none⟩ = some (.slice (some ⟨b, o, none⟩) len c) ∧ w'.cell? ⟨b, o, none⟩ = some (.nilIface)) (go_keep)
      ((go_at_call 120; refine (root_all (n.cnt + 1) n (Nat.lt_succ_self _) H.out.2 X _ _ (w.heap.size + 1 + 1 + 1) (some ⟨w.heap.size + 1 + 1, 0, none⟩) (H.out.1.mono ((HW.out.trans (Ext.drew _)).keeps X)) H.out.2 ((Ext.drew _).keep k2)).mono ?_; rintro e w1 ⟨rfl, hE1⟩; have HE1 := Lib.hid ((HW.out.trans (Ext.drew _)).trans hE1); have j1 := hE1.keep ((Ext.drew _).keep k1); have j2 := hE1.keep ((Ext.drew _).keep k2); have j3 := hE1.keep ((Ext.drew _).keep k3); clear hE1))
    go_wp2_with fail
    go_ret
    exact ⟨rfl, HE1.out⟩
  · go_enter Tryz.func91, Tryz.ntmps91
    go_wp2_with fail
    go_region_held3 (fun w' => w'.cell? ⟨w.heap.size + 1 + 1 + 1, 0, none⟩ = some (rootF (some ⟨w.heap.size + 1 + 1 + 1, 0, none⟩) (some ⟨w.heap.size + 1 + 1, 0, none⟩)) ∧ w'.cell? ⟨w.heap.size, 1, none⟩ = some (.slice (some ⟨b, o, none⟩) len c) ∧ w'.cell? ⟨b, o, none⟩ = some (.iface tt xx)) (go_keep)
      ((go_at_call 120; refine (root_all (n.cnt + 1) n (Nat.lt_succ_self _) H.out.2 X _ _ (w.heap.size + 1 + 1 + 1) (some ⟨w.heap.size + 1 + 1, 0, none⟩) (H.out.1.mono ((HW.out.trans (Ext.drew _)).keeps X)) H.out.2 ((Ext.drew _).keep k2)).mono ?_; rintro e w1 ⟨rfl, hE1⟩; have HE1 := Lib.hid ((HW.out.trans (Ext.drew _)).trans hE1); have j1 := hE1.keep ((Ext.drew _).keep k1); have j2 := hE1.keep ((Ext.drew _).keep k2); have j3 := hE1.keep ((Ext.drew _).keep k3); clear hE1))
    go_wp2_with fail
    go_ret
    exact ⟨rfl, HE1.out⟩
end Go.Proofs.YtigalkobmfbdaaaGreatDoor
