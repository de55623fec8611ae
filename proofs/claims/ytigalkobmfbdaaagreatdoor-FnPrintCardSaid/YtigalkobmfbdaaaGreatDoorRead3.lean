/- impl.read of a text that is too long. -/
import Derived.Test.YtigalkobmfbdaaaGreatDoorRead2
set_option linter.unusedVariables false
set_option linter.unusedSimpArgs false
namespace Go.Proofs.YtigalkobmfbdaaaGreatDoor
open Go.RowKit Go.WideMaps
set_option maxRecDepth 100000 in
set_option maxHeartbeats 4000000 in
theorem read_long {al : Bool} {inp : ByteArray} (hs : 1000 < inp.size) {w : World} :
    Calls Tryz.prog 55 #[.string inp, .bool al] w fun e w' => e = .returned (.tuple #[patZ, .bool false]) ∧ Ext w w' := by
  have hsz : ((inp.size : Int) > 1000) = True := by simp; omega
  have HB := Lib.hid (Blk.new w #[.nilIface, .slice none 0 0, .nilIface, .slice none 0 0, .slice none 0 0] 81)
  go_enter Tryz.func55, Tryz.ntmps55
  go_wp2_with fail
  refine bodyPost_ret (results_ct rfl _ _ w.heap.size 81 #[.nilIface, .slice none 0 0, .nilIface, .slice none 0 0, .slice none 0 0] rfl HB.out row81 size81) rfl ?_
  exact ⟨rfl, Ext.alloc _ _⟩
end Go.Proofs.YtigalkobmfbdaaaGreatDoor
