/- The top of the laws: an argument of type Tree, opened as a tree in memory; the table that is laid; arguments read behind a call as ahead of it. -/
import Derived.Test.YtigalkobmfbdaaaGreatDoorTie
import Derived.Test.YtigalkobmfbdaaaGreatDoorCards
import Derived.Test.YtigalkobmfbdaaaGreatDoorLex2Z1
import Derived.Test.YtigalkobmfbdaaaGreatDoorTextZ1
import Derived.ProofKit
import Derived.OpenShut
import Derived.LaidMore
import Derived.LaidSub
import Derived.Lay
import Derived.SevenTiedAt
import Derived.Stop.Joined
import Derived.Carry
set_option linter.unusedVariables false
set_option linter.unusedSimpArgs false
namespace Go.Proofs.YtigalkobmfbdaaaGreatDoor
open Go.ChangeShapes Go.WideShapes Go.ChangeAt Go.RowKit
theorem own : ownKnob Tryz.prog.godebug = none := by kernel_rfl
theorem laidOut : laidOutB Tryz.prog = true := by kernel_rfl
/-- What all the rows list. -/
abbrev laidL : List (String × DataW Unit) := [("unicode/utf8.acceptRanges", Rows.laid_unicode_utf8_acceptRanges), ("unicode.White_Space", Rows.laid_unicode_White_Space), ("unicode.properties", Rows.laid_unicode_properties), ("unicode.Lower", Rows.laid_unicode_Lower), ("unicode.Upper", Rows.laid_unicode_Upper), ("unicode/utf8.first", Rows.laid_unicode_utf8_first)]
theorem props_laid : (Rows.laid_unicode_properties : DataW Unit) = .agg (props.map fun n => .lit (.int .u8 n)) := by kernel_rfl
theorem tab_of_laid {W : World} (h : laidMetH Tryz.prog laidL W) : TabAt W := by
  intro r hr
  replace h := h.filter fun x => x.1 == "unicode.properties"
  have e0 : (laidL.filter fun x => x.1 == "unicode.properties") = [("unicode.properties", Rows.laid_unicode_properties)] := by kernel_rfl
  rw [e0, MakeChecks.laidMetH_plain _ _ _ (by kernel_rfl), props_laid] at h
  obtain ⟨ps, ⟨g, t, cs, fuel, p, q, hg, ht, hv, hd, _, _⟩, _, _⟩ := h
  obtain rfl := Option.some.inj ((show Tryz.prog.globalNamed "unicode.properties" = some 1 by kernel_rfl).symm.trans hg)
  have hu : Tryz.prog.underlying 229 = some (.array 256 5) := by kernel_rfl
  obtain rfl := Option.some.inj ((show (Tryz.prog.globals[1]?).map (·.type) = some 229 by kernel_rfl).symm.trans ht)
  obtain ⟨xs, m, _, ex, _, hl, hel⟩ := DataW.trod_array hu hd
  have c5 : Tryz.prog.cellsOf 5 = 1 := by kernel_rfl
  have hE := hel r hr
  rw [c5, Nat.mul_one, List.getElem?_eq_getElem (by omega)] at hE
  obtain ⟨z, e1, e2, _⟩ := DataW.trod_int (k := .u8) (by kernel_rfl) hE
  have hlen : props.length = 256 := by kernel_rfl
  have e3 : (xs.map (·.1)) = props.map fun n => .lit (.int .u8 n) := (DataW.agg.inj (Prod.mk.inj ex).1).symm
  have e4 : (xs.map (·.1))[r]? = (props.map fun n => (DataW.lit (.int .u8 n) : DataW Unit))[r]? := by rw [e3]
  rw [List.getElem?_map, List.getElem?_map, List.getElem?_eq_getElem (by omega : r < xs.length), List.getElem?_eq_getElem (by omega : r < props.length), e2] at e4
  have hz : z = props.getD r 0 := by
    simp only [Option.map_some, Option.some.injEq, DataW.lit.injEq, Lit.int.injEq, true_and] at e4
    rw [e4, List.getD, List.getElem?_eq_getElem (by omega : r < props.length)]; rfl
  rw [World.var?_cell hg hv r, ← hz]
  have : cs.toList[r]? = some (.int .u8 z) := by
    have h0 : ((cs.toList.drop r).take 1)[0]? = some (.int .u8 z) := by rw [e1]; rfl
    simpa using h0
  simpa using this
/-! ### A tree, opened -/
theorem struct_of_map {P : Program} {t : TypeId} {l : List (TypeId × Nat)} (h : (P.underlying t).map (fun d => match d with | .struct fs => some (fs.toList.map fun f => (f.type, f.offset)) | _ => none) = some (some l)) : ∃ fs : Array Field, P.underlying t = some (.struct fs) ∧ fs.toList.map (fun f => (f.type, f.offset)) = l := by
  obtain ⟨d, hd, h2⟩ := Option.map_eq_some_iff.1 h
  cases d <;> simp at h2
  exact ⟨_, hd, h2⟩
theorem weightsAll_mem {H : Type} {P : Program} {e : TypeId} {n : Nat} {d : DataW H} (hn : n ∈ d.weights P e) : ∀ {l : List (DataW H)} (_ : d ∈ l), n ∈ DataW.weightsAll P e l
  | x :: l, h => by
    simp only [DataW.weightsAll, List.mem_append]
    rcases List.mem_cons.1 h with rfl | h
    · exact .inl hn
    · exact .inr (weightsAll_mem hn h)
theorem weights_string {H : Type} {P : Program} {t : TypeId} {l : List UInt8} : (DataW.lit (.string l) : DataW H).weights P t = [l.length] := by unfold DataW.weights; rfl
theorem cells9 : Tryz.prog.cellsOf 9 = 1 := by kernel_rfl
/-! ### Behind the call -/
set_option maxRecDepth 100000 in
theorem trodAll_stays {H : Type} {enc : TypeId × Value → H} {P : Program} (hl : laidOutB P = true) {W W' : World} (hE : Below W.heap.size W W') (ts : List TypeId) : ∀ {vs : List Value} {ds : List (DataW H)} {p : List MemPlace}, (ts.all fun t => P.readableRec t && decide (t < P.types.size)) = true → DataW.TrodAll enc P W 0 (fun _ => true) true ts vs ds p → (∀ x ∈ p, x.block < W.heap.size) →
    DataW.TrodAll enc P W' 0 (fun b => decide (b < W.heap.size)) true ts vs ds p := by
  induction ts with
  | nil =>
    intro vs ds p _ h _
    cases vs <;> cases ds <;> exact h
  | cons t ts ih =>
    intro vs ds p hr h hlt
    cases vs with
    | nil => cases ds <;> exact h.elim
    | cons v vs =>
      cases ds with
      | nil => exact h.elim
      | cons d ds =>
        obtain ⟨p1, q, h1, h2, e⟩ := h
        subst e
        rw [List.all_cons, Bool.and_eq_true, Bool.and_eq_true, decide_eq_true_eq] at hr
        exact ⟨p1, q, Below.trod hl hr.1.1 hr.1.2 h1 hE (fun x hx => hlt x (List.mem_append_left _ hx)), ih hr.2 h2 (fun x hx => hlt x (List.mem_append_right _ hx)), rfl⟩
end Go.Proofs.YtigalkobmfbdaaaGreatDoor
