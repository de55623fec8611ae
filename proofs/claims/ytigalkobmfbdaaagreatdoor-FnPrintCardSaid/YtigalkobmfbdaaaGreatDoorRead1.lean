/- impl.read. -/
import Derived.Test.YtigalkobmfbdaaaGreatDoorParse2
set_option linter.unusedVariables false
set_option linter.unusedSimpArgs false
namespace Go.Proofs.YtigalkobmfbdaaaGreatDoor
open Go.RowKit Go.WideMaps
theorem nil_eq (w : World) : (binOp .eql 122 .nilIface .nilIface).run Tryz.prog w = Result.ok (Value.bool true) w := by kernel_rfl
theorem err_eq (p : Option Addr) (w : World) : (binOp .eql 122 (.iface 184 (.pointer p)) .nilIface).run Tryz.prog w = Result.ok (Value.bool false) w := by kernel_rfl
def isNilV : Value → Bool
  | .nilIface => true
  | _ => false
/-- An interface's value. -/
def IsIface (v : Value) : Prop := v = .nilIface ∨ ∃ t x, v = .iface t x
/-- The world in which read's parser begins. -/
abbrev wPar (al : Bool) (w : World) : World := (w.alloc (.cells #[.nilIface, .slice none 0 0, .nilIface, .slice none 0 0, .slice none 0 0] 81)).alloc (.cells (pNew al) 120)
set_option maxRecDepth 100000 in
set_option maxHeartbeats 4000000 in
theorem read_walk {al : Bool} {inp : ByteArray} (hs : inp.size ≤ 1000) {w : World} (h1 : 1 < w.heap.size) {Q : Value → Option Addr → Nat → Nat → Value → Option Addr → Nat → Nat → Option Addr → Nat → Nat → Value → World → Prop}
    (h : Calls Tryz.prog 73 #[.pointer (some ⟨w.heap.size + 1, 0, none⟩), .string inp] (wPar al w) fun e w' => ∃ c0 a1 n1 k1 c2 a3 n3 k3 a4 n4 k4 ev, e = .returned (.tuple #[.agg #[c0, .slice a1 n1 k1, c2, .slice a3 n3 k3, .slice a4 n4 k4], ev]) ∧ IsIface c0 ∧ IsIface c2 ∧ (ev = .nilIface ∨ ∃ p, ev = .iface 184 (.pointer p)) ∧ ExtM (· = w.heap.size + 1) (wPar al w) w' ∧ Q c0 a1 n1 k1 c2 a3 n3 k3 a4 n4 k4 ev w') :
    Calls Tryz.prog 55 #[.string inp, .bool al] w fun e w' => ∃ c0 a1 n1 k1 c2 a3 n3 k3 a4 n4 k4 ev w2, e = .returned (.tuple #[.agg #[c0, .slice a1 n1 k1, c2, .slice a3 n3 k3, .slice a4 n4 k4], .bool (isNilV ev)]) ∧ (ev = .nilIface ∨ ∃ p, ev = .iface 184 (.pointer p)) ∧ Q c0 a1 n1 k1 c2 a3 n3 k3 a4 n4 k4 ev w2 ∧ ExtM (· = w.heap.size) w2 w' ∧ ExtM (· = w.heap.size + 1) (wPar al w) w2 := by
  have H := Lib.hid h
  have q1 := nil_eq
  have q2 := err_eq
  have hsz : ((inp.size : Int) > 1000) = False := by simp; omega
  clear h
  go_enter Tryz.func55, Tryz.ntmps55
  go_wp2_with fail
  refine H.out.mono ?_
  rintro e w2 ⟨c0, a1, n1, k1, c2, a3, n3, k3, a4, n4, k4, ev, rfl, hi0, hi2, hev, hX, hQ⟩
  have HQ := Lib.hid hQ
  have hbk : Blk w2 w.heap.size #[.nilIface, .slice none 0 0, .nilIface, .slice none 0 0, .slice none 0 0] 81 := by
    have := ((Blk.new w #[.nilIface, .slice none 0 0, .nilIface, .slice none 0 0, .slice none 0 0] 81).ext (Ext.alloc _ (.cells (pNew al) 120))).extM hX (by omega)
    exact this
  have HX := Lib.hid hX
  have fT := hbk.frozen
  have lT := hbk.lt
  have cT : w2.cell? ⟨w.heap.size, 0, none⟩ = some .nilIface ∧ w2.cell? ⟨w.heap.size, 1, none⟩ = some (.slice none 0 0) ∧ w2.cell? ⟨w.heap.size, 2, none⟩ = some .nilIface ∧ w2.cell? ⟨w.heap.size, 3, none⟩ = some (.slice none 0 0) ∧ w2.cell? ⟨w.heap.size, 4, none⟩ = some (.slice none 0 0) := ⟨by rw [hbk.cell]; rfl, by rw [hbk.cell]; rfl, by rw [hbk.cell]; rfl, by rw [hbk.cell]; rfl, by rw [hbk.cell]; rfl⟩
  have HB := Lib.hid hbk
  clear hX hQ hbk
  rcases hi0 with rfl | ⟨t0, x0, rfl⟩ <;> rcases hi2 with rfl | ⟨t2, x2, rfl⟩ <;> rcases hev with rfl | ⟨p, rfl⟩
  · go_wp2_with fail
    go_region
    all_goals (try go_wp2_with fail)
    all_goals
      refine bodyPost_ret (results_ct rfl _ _ w.heap.size 81 #[.nilIface, .slice a1 n1 k1, .nilIface, .slice a3 n3 k3, .slice a4 n4 k4] rfl (((((((HB.out.set 0 _).set 1 _).set 2 _).set 3 _).set 4 _).ext (Ext.alloc _ _)).ext (Ext.drew _)) row81 size81) rfl ?_
      exact ⟨.nilIface, a1, n1, k1, .nilIface, a3, n3, k3, a4, n4, k4, _, w2, rfl, .inl rfl, HQ.out, ((((((((ExtM.refl _ w2).set1 0 _).set1 1 _).set1 2 _).set1 3 _).set1 4 _).ext (Ext.alloc _ _)).ext (Ext.drew _)), HX.out⟩
  · go_wp2_with fail
    go_region
    all_goals (try go_wp2_with fail)
    all_goals
      refine bodyPost_ret (results_ct rfl _ _ w.heap.size 81 #[.nilIface, .slice a1 n1 k1, .nilIface, .slice a3 n3 k3, .slice a4 n4 k4] rfl (((((((HB.out.set 0 _).set 1 _).set 2 _).set 3 _).set 4 _).ext (Ext.alloc _ _)).ext (Ext.drew _)) row81 size81) rfl ?_
      exact ⟨.nilIface, a1, n1, k1, .nilIface, a3, n3, k3, a4, n4, k4, _, w2, rfl, .inr ⟨_, rfl⟩, HQ.out, ((((((((ExtM.refl _ w2).set1 0 _).set1 1 _).set1 2 _).set1 3 _).set1 4 _).ext (Ext.alloc _ _)).ext (Ext.drew _)), HX.out⟩
  · go_wp2_with fail
    go_region
    all_goals (try go_wp2_with fail)
    all_goals
      refine bodyPost_ret (results_ct rfl _ _ w.heap.size 81 #[.nilIface, .slice a1 n1 k1, .iface t2 x2, .slice a3 n3 k3, .slice a4 n4 k4] rfl (((((((HB.out.set 0 _).set 1 _).set 2 _).set 3 _).set 4 _).ext (Ext.alloc _ _)).ext (Ext.drew _)) row81 size81) rfl ?_
      exact ⟨.nilIface, a1, n1, k1, .iface t2 x2, a3, n3, k3, a4, n4, k4, _, w2, rfl, .inl rfl, HQ.out, ((((((((ExtM.refl _ w2).set1 0 _).set1 1 _).set1 2 _).set1 3 _).set1 4 _).ext (Ext.alloc _ _)).ext (Ext.drew _)), HX.out⟩
  · go_wp2_with fail
    go_region
    all_goals (try go_wp2_with fail)
    all_goals
      refine bodyPost_ret (results_ct rfl _ _ w.heap.size 81 #[.nilIface, .slice a1 n1 k1, .iface t2 x2, .slice a3 n3 k3, .slice a4 n4 k4] rfl (((((((HB.out.set 0 _).set 1 _).set 2 _).set 3 _).set 4 _).ext (Ext.alloc _ _)).ext (Ext.drew _)) row81 size81) rfl ?_
      exact ⟨.nilIface, a1, n1, k1, .iface t2 x2, a3, n3, k3, a4, n4, k4, _, w2, rfl, .inr ⟨_, rfl⟩, HQ.out, ((((((((ExtM.refl _ w2).set1 0 _).set1 1 _).set1 2 _).set1 3 _).set1 4 _).ext (Ext.alloc _ _)).ext (Ext.drew _)), HX.out⟩
  · go_wp2_with fail
    go_region
    all_goals (try go_wp2_with fail)
    all_goals
      refine bodyPost_ret (results_ct rfl _ _ w.heap.size 81 #[.iface t0 x0, .slice a1 n1 k1, .nilIface, .slice a3 n3 k3, .slice a4 n4 k4] rfl (((((((HB.out.set 0 _).set 1 _).set 2 _).set 3 _).set 4 _).ext (Ext.alloc _ _)).ext (Ext.drew _)) row81 size81) rfl ?_
      exact ⟨.iface t0 x0, a1, n1, k1, .nilIface, a3, n3, k3, a4, n4, k4, _, w2, rfl, .inl rfl, HQ.out, ((((((((ExtM.refl _ w2).set1 0 _).set1 1 _).set1 2 _).set1 3 _).set1 4 _).ext (Ext.alloc _ _)).ext (Ext.drew _)), HX.out⟩
  · go_wp2_with fail
    go_region
    all_goals (try go_wp2_with fail)
    all_goals
      refine bodyPost_ret (results_ct rfl _ _ w.heap.size 81 #[.iface t0 x0, .slice a1 n1 k1, .nilIface, .slice a3 n3 k3, .slice a4 n4 k4] rfl (((((((HB.out.set 0 _).set 1 _).set 2 _).set 3 _).set 4 _).ext (Ext.alloc _ _)).ext (Ext.drew _)) row81 size81) rfl ?_
      exact ⟨.iface t0 x0, a1, n1, k1, .nilIface, a3, n3, k3, a4, n4, k4, _, w2, rfl, .inr ⟨_, rfl⟩, HQ.out, ((((((((ExtM.refl _ w2).set1 0 _).set1 1 _).set1 2 _).set1 3 _).set1 4 _).ext (Ext.alloc _ _)).ext (Ext.drew _)), HX.out⟩
  · go_wp2_with fail
    go_region
    all_goals (try go_wp2_with fail)
    all_goals
      refine bodyPost_ret (results_ct rfl _ _ w.heap.size 81 #[.iface t0 x0, .slice a1 n1 k1, .iface t2 x2, .slice a3 n3 k3, .slice a4 n4 k4] rfl (((((((HB.out.set 0 _).set 1 _).set 2 _).set 3 _).set 4 _).ext (Ext.alloc _ _)).ext (Ext.drew _)) row81 size81) rfl ?_
      exact ⟨.iface t0 x0, a1, n1, k1, .iface t2 x2, a3, n3, k3, a4, n4, k4, _, w2, rfl, .inl rfl, HQ.out, ((((((((ExtM.refl _ w2).set1 0 _).set1 1 _).set1 2 _).set1 3 _).set1 4 _).ext (Ext.alloc _ _)).ext (Ext.drew _)), HX.out⟩
  · go_wp2_with fail
    go_region
    all_goals (try go_wp2_with fail)
    all_goals
      refine bodyPost_ret (results_ct rfl _ _ w.heap.size 81 #[.iface t0 x0, .slice a1 n1 k1, .iface t2 x2, .slice a3 n3 k3, .slice a4 n4 k4] rfl (((((((HB.out.set 0 _).set 1 _).set 2 _).set 3 _).set 4 _).ext (Ext.alloc _ _)).ext (Ext.drew _)) row81 size81) rfl ?_
      exact ⟨.iface t0 x0, a1, n1, k1, .iface t2 x2, a3, n3, k3, a4, n4, k4, _, w2, rfl, .inr ⟨_, rfl⟩, HQ.out, ((((((((ExtM.refl _ w2).set1 0 _).set1 1 _).set1 2 _).set1 3 _).set1 4 _).ext (Ext.alloc _ _)).ext (Ext.drew _)), HX.out⟩
end Go.Proofs.YtigalkobmfbdaaaGreatDoor
