/- A world of which some blocks may be written: words for functions that write through a pointer. -/
import Derived.Test.YtigalkobmfbdaaaGreatDoorBaseZ1
set_option linter.unusedVariables false
set_option linter.unusedSimpArgs false
namespace Go.Proofs.YtigalkobmfbdaaaGreatDoor
open Go.RowKit
/-- Of what was there only the blocks in M may have turned. -/
structure ExtM (M : Nat → Prop) (w w' : World) : Prop where
  os : w'.os = w.os
  tape : w'.tape = w.tape
  output : w'.output = w.output
  size : w.heap.size ≤ w'.heap.size
  block : ∀ k, k < w.heap.size → ¬ M k → w'.heap[k]? = w.heap[k]?
theorem ExtM.refl (M : Nat → Prop) (w : World) : ExtM M w w := ⟨rfl, rfl, rfl, Nat.le_refl _, fun _ _ _ => rfl⟩
theorem Ext.toM {w w' : World} (h : Ext w w') (M : Nat → Prop) : ExtM M w w' := ⟨Below.os h, Below.tape h, Below.output h, Below.size h, fun k hk _ => Below.block h k hk⟩
/-- Two steps; what the second may write is new, or the first's. -/
theorem ExtM.trans {M N : Nat → Prop} {a b c : World} (h : ExtM M a b) (k : ExtM N b c) (hN : ∀ i, i < a.heap.size → N i → M i) : ExtM M a c :=
  ⟨k.os.trans h.os, k.tape.trans h.tape, k.output.trans h.output, Nat.le_trans h.size k.size, fun i hi hM =>
    (k.block i (Nat.lt_of_lt_of_le hi h.size) (fun hn => hM (hN i hi hn))).trans (h.block i hi hM)⟩
theorem ExtM.trans' {M : Nat → Prop} {a b c : World} (h : ExtM M a b) (k : ExtM M b c) : ExtM M a c := h.trans k fun _ _ h => h
theorem ExtM.ext {M : Nat → Prop} {a b c : World} (h : ExtM M a b) (k : Ext b c) : ExtM M a c := h.trans' (k.toM M)
theorem Ext.extM {M : Nat → Prop} {a b c : World} (h : Ext a b) (k : ExtM M b c) : ExtM M a c := (h.toM M).trans' k
theorem ExtM.setCell {M : Nat → Prop} {a b : World} (h : ExtM M a b) {p : Addr} (hp : M p.block ∨ a.heap.size ≤ p.block) (u : Value) : ExtM M a (b.setCell p u) :=
  ⟨h.os, h.tape, h.output, by simpa [World.setCell] using h.size, fun k hk hM => (Below.heap_setCell b p u k (by
    rintro rfl
    rcases hp with hp | hp
    · exact hM hp
    · omega)).trans (h.block k hk hM)⟩
/-- All that may be written is new to an elder world. -/
theorem ExtM.toExt {M : Nat → Prop} {a b c : World} (h : ExtM M b c) (k : Ext a b) (hM : ∀ i, i < a.heap.size → ¬ M i) : Ext a c :=
  ⟨h.os.trans (Below.os k), h.tape.trans (Below.tape k), h.output.trans (Below.output k), Nat.le_trans (Below.size k) h.size, fun i hi =>
    (h.block i (Nat.lt_of_lt_of_le hi (Below.size k)) (hM i hi)).trans (Below.block k i hi)⟩
theorem ExtM.mono {M N : Nat → Prop} {a b : World} (h : ExtM M a b) (hN : ∀ i, i < a.heap.size → M i → N i) : ExtM N a b :=
  ⟨h.os, h.tape, h.output, h.size, fun k hk hn => h.block k hk fun hm => hn (hN k hk hm)⟩
theorem ExtM.cell {M : Nat → Prop} {a b : World} (h : ExtM M a b) {p : Addr} (hp : p.block < a.heap.size) (hM : ¬ M p.block) : b.cell? p = a.cell? p := World.cell?_of_block (w := a) (h.block p.block hp hM)
theorem ExtM.frozen {M : Nat → Prop} {a b : World} (h : ExtM M a b) {p : Addr} (hp : p.block < a.heap.size) (hM : ¬ M p.block) : b.frozen? p = a.frozen? p := World.frozen?_of_block (w := a) (h.block p.block hp hM)
theorem ExtM.keep {M : Nat → Prop} {a b : World} (h : ExtM M a b) {p : Addr} {v : Value} (hM : ¬ M p.block) (hc : a.cell? p = some v) : b.cell? p = some v := (h.cell (cell_lt hc) hM).trans hc
/-- A block that is known whole. -/
def Blk (w : World) (b : Nat) (cs : Array Value) (t : TypeId) : Prop := w.heap[b]? = some (.cells cs t (0, 0))
theorem Blk.lt {w : World} {b : Nat} {cs : Array Value} {t : TypeId} (h : Blk w b cs t) : b < w.heap.size := by
  rcases Nat.lt_or_ge b w.heap.size with h' | h'
  · exact h'
  · rw [Blk, Array.getElem?_eq_none h'] at h; cases h
theorem Blk.cell {w : World} {b : Nat} {cs : Array Value} {t : TypeId} (h : Blk w b cs t) (o : Nat) : w.cell? ⟨b, o, none⟩ = cs[o]? := by
  simp only [World.cell?, show w.heap[b]? = _ from h]; rfl
theorem Blk.frozen {w : World} {b : Nat} {cs : Array Value} {t : TypeId} (h : Blk w b cs t) (o : Nat) : w.frozen? ⟨b, o, none⟩ = false := by
  simp [World.frozen?, show w.heap[b]? = _ from h]
theorem Blk.ext {w w' : World} {b : Nat} {cs : Array Value} {t : TypeId} (h : Blk w b cs t) (hE : Ext w w') : Blk w' b cs t := (hE.block h.lt).trans h
theorem Blk.extM {M : Nat → Prop} {w w' : World} {b : Nat} {cs : Array Value} {t : TypeId} (h : Blk w b cs t) (hE : ExtM M w w') (hM : ¬ M b) : Blk w' b cs t := (hE.block b h.lt hM).trans h
theorem Blk.set {w : World} {b : Nat} {cs : Array Value} {t : TypeId} (h : Blk w b cs t) (o : Nat) (v : Value) : Blk (w.setCell ⟨b, o, none⟩ v) b (cs.setIfInBounds o v) t := by
  unfold Blk at *
  simp only [World.setCell, Array.getElem?_modify, h]
  simp
theorem Blk.set_other {w : World} {b : Nat} {cs : Array Value} {t : TypeId} (h : Blk w b cs t) {p : Addr} (hp : p.block ≠ b) (v : Value) : Blk (w.setCell p v) b cs t :=
  (Below.heap_setCell w p v b (Ne.symm hp)).trans h
theorem Blk.new (w : World) (cs : Array Value) (t : TypeId) : Blk (w.alloc (.cells cs t)) w.heap.size cs t := by
  unfold Blk
  show (w.heap.push _)[w.heap.size]? = _
  simp
end Go.Proofs.YtigalkobmfbdaaaGreatDoor
