/- impl.read: where it refuses, and where it reads. -/
import Derived.Test.YtigalkobmfbdaaaGreatDoorRead1
import Derived.Test.YtigalkobmfbdaaaGreatDoorParse3
set_option linter.unusedVariables false
set_option linter.unusedSimpArgs false
namespace Go.Proofs.YtigalkobmfbdaaaGreatDoor
open Go.RowKit Go.WideMaps Go.Sort
theorem wPar_ext (al : Bool) (w : World) : Ext w (wPar al w) := (Ext.alloc _ _).trans (Ext.alloc _ _)
theorem wPar_blk (al : Bool) (w : World) : Blk (wPar al w) (w.heap.size + 1) (pNew al) 120 := by
  have := Blk.new (w.alloc (.cells #[.nilIface, .slice none 0 0, .nilIface, .slice none 0 0, .slice none 0 0] 81)) (pNew al) 120
  simpa using this
theorem wPar_size (al : Bool) (w : World) : (wPar al w).heap.size = w.heap.size + 2 := by simp [wPar]
theorem TabAt.toExt {w w' : World} (h : TabAt w) (hE : Ext w w') : TabAt w' := fun i hi => hE.keep (h i hi)
/-- From the world of the call to the world behind it: all that lay there lies there still. -/
theorem read_ext {al : Bool} {w w2 w' : World} (h1 : ExtM (· = w.heap.size + 1) (wPar al w) w2) (h2 : ExtM (· = w.heap.size) w2 w') : Ext w w' :=
  h2.toExt (h1.toExt (wPar_ext al w) (fun i hi e => by omega)) (fun i hi e => by omega)
theorem read_err {al : Bool} {inp : ByteArray} {R : List Tok} {f : Nat} (hf : f ≤ 100000) (hs : inp.size ≤ 1000) (hM : lexM inp.toList .start = some R) (hP : ∀ S : List Item, S.map tokOf = R → parseM al S f = some none)
    {w : World} (h1 : 1 < w.heap.size) (hT : TabAt w) :
    Calls Tryz.prog 55 #[.string inp, .bool al] w fun e w' => e = .returned (.tuple #[patZ, .bool false]) ∧ Ext w w' := by
  refine (read_walk hs h1 (Q := fun c0 a1 n1 k1 c2 a3 n3 k3 a4 n4 k4 ev _ => Value.agg #[c0, .slice a1 n1 k1, c2, .slice a3 n3 k3, .slice a4 n4 k4] = patZ ∧ ∃ p, ev = .iface 184 (.pointer p)) ?_).mono ?_
  · refine (parse_err hf hs hM hP (wPar_blk al w) (by omega) (hT.toExt (wPar_ext al w))).mono ?_
    rintro e w2 ⟨⟨p, rfl⟩, hX⟩
    exact ⟨_, _, _, _, _, _, _, _, _, _, _, _, rfl, .inl rfl, .inl rfl, .inr ⟨p, rfl⟩, hX, rfl, p, rfl⟩
  · rintro e w' ⟨c0, a1, n1, k1, c2, a3, n3, k3, a4, n4, k4, ev, w2, rfl, -, ⟨hp, p, rfl⟩, hX2, hX1⟩
    exact ⟨by rw [hp]; rfl, read_ext hX1 hX2⟩
theorem read_ok {al : Bool} {inp : ByteArray} {R : List Tok} {f : Nat} (hf : f ≤ 100000) (hs : inp.size ≤ 1000) (hM : lexM inp.toList .start = some R) {n sym : PN} {nm E : Names} {cl : Syms} (hP : ∀ S : List Item, S.map tokOf = R → parseM al S f = some (some (n, nm))) (hnd : nm.Nodup) (hsym : SymsOf n sym) (hroot : RootsOf n cl) (hent : EntryC n) (hE : entryN n [] = some E) (hcn : n.cnt ≤ 50000) (hEl : E.length ≤ 1000) (hEd : E.Nodup) (hnul : n.isNul = false) (hns : ∀ nm ks, n = .struct nm ks → (nm.toList == [83, 121, 109, 98, 111, 108]) = false)
    {w : World} (h1 : 1 < w.heap.size) (hT : TabAt w) :
    Calls Tryz.prog 55 #[.string inp, .bool al] w fun e w' => (∃ rv sv ea ec ca cc ba bc, e = .returned (.tuple #[.agg #[rv, .slice ea E.length ec, sv, .slice ca cl.length cc, .slice ba nm.length bc], .bool true]) ∧
      NodeAt (fun b => w.heap.size < b) w' rv n ∧ NodeAt (fun b => w.heap.size < b) w' sv sym ∧ BsAt w' ea (E.mergeSort fun x y => decide (x ≤ y)) ∧ IdxAt w' ca cl ∧ BsAt w' ba nm ∧ E.length ≤ ec ∧ cl.length ≤ cc ∧ nm.length ≤ bc) ∧ Ext w w' := by
  refine (read_walk hs h1 (Q := fun c0 a1 n1 k1 c2 a3 n3 k3 a4 n4 k4 ev w2 => ev = .nilIface ∧ n1 = E.length ∧ n3 = cl.length ∧ n4 = nm.length ∧ NodeAt (fun b => w.heap.size < b) w2 c0 n ∧ NodeAt (fun b => w.heap.size < b) w2 c2 sym ∧ BsAt w2 a1 (E.mergeSort fun x y => decide (x ≤ y)) ∧ IdxAt w2 a3 cl ∧ BsAt w2 a4 nm ∧ (∀ b o, a1 = some ⟨b, o, none⟩ → w.heap.size < b) ∧ (∀ b o, a3 = some ⟨b, o, none⟩ → w.heap.size < b) ∧ (∀ b o, a4 = some ⟨b, o, none⟩ → w.heap.size < b) ∧ E.length ≤ k1 ∧ cl.length ≤ k3 ∧ nm.length ≤ k4) ?_).mono ?_
  · have hz := wPar_size al w
    refine (parse_ok hf hs hM hP hnd hsym hroot hent hE hcn hEl hEd hnul hns (wPar_blk al w) (by omega) (hT.toExt (wPar_ext al w))).mono ?_
    rintro e w2 ⟨⟨rv, sv, ea, ec, ca, cc, ba, bc, rfl, hn, hy, hb1, hi, hb2, f1, f2, f3, l1, l2, l3⟩, hX⟩
    refine ⟨_, _, _, _, _, _, _, _, _, _, _, _, rfl, ?_, ?_, .inl rfl, hX, rfl, rfl, rfl, rfl, hn.imp (fun b hb _ => by omega), hy.imp (fun b hb _ => by omega), hb1, hi, hb2, fun b o e => by have := f1 b o e; omega, fun b o e => by have := f2 b o e; omega, fun b o e => by have := f3 b o e; omega, l1, l2, l3⟩
    · exact hn.shape
    · exact hy.shape
  · rintro e w' ⟨c0, a1, n1, k1, c2, a3, n3, k3, a4, n4, k4, ev, w2, rfl, -, ⟨rfl, rfl, rfl, rfl, hn, hy, hb1, hi, hb2, f1, f2, f3, l1, l2, l3⟩, hX2, hX1⟩
    refine ⟨⟨_, _, _, _, _, _, _, _, rfl, hn.mono (hX2.keeps (fun b hb e => by omega)), hy.mono (hX2.keeps (fun b hb e => by omega)), hb1.extM hX2 (fun b o e e2 => by have := f1 b o e; omega), hi.extM hX2 (fun b o e e2 => by have := f2 b o e; omega), hb2.extM hX2 (fun b o e e2 => by have := f3 b o e; omega), l1, l2, l3⟩, read_ext hX1 hX2⟩
end Go.Proofs.YtigalkobmfbdaaaGreatDoor
