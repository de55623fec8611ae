/- FnFields, the part without Go: for every number of one byte the printed function of the law answers true. The number's type is the only condition. -/
import Derived.Test.YtigalkobmfbdaaaPFnFieldsx3
namespace Go.Proofs.Ytigalkobmfbdaaa.Pure
open Go.RowKit Go.Proofs.Ytigalkobmfbdaaa.PFnFields Go.Proofs.YtigalkobmfbdaaaW.PrintWords Go.Proofs.YtigalkobmfbdaaaW.PrintLast

/-- All 256 numbers, reckoned. -/
theorem all_true : (List.range 256).all (fun n => decide (laws_FnFields.f 20 (n : Int) = some true)) = true := by decide +kernel

theorem FnFields : laws_FnFields.Pure := by
  intro a0 h
  have hb : 0 ≤ a0 ∧ a0 < 256 := by
    simp [Lit.wf, IntKind.min, IntKind.max, IntKind.signed, IntKind.bits] at h
    omega
  refine ⟨20, ?_⟩
  have := List.all_eq_true.1 all_true a0.toNat (by simp; omega)
  have e : ((a0.toNat : Nat) : Int) = a0 := by omega
  rw [e] at this
  simpa using this

end Go.Proofs.Ytigalkobmfbdaaa.Pure
