/- Is a part of a syntax right? (What follows from the answer 'true'.) -/
import Derived.Test.YtigalkobmfbdaaaGreatDoorSyn1Z1
import Derived.Test.YtigalkobmfbdaaaGreatDoorIdx1Z1
set_option linter.unusedVariables false
set_option linter.unusedSimpArgs false
namespace Go.Proofs.YtigalkobmfbdaaaGreatDoor
open Go.RowKit
def fitsL (c : Int) (k : ByteArray) : Bool :=
  if c == 101 then expressions.any (fun y => y.toList == k.toList)
  else if c == 115 then statements.any (fun y => y.toList == k.toList)
  else if c == 105 then k.toList == [73, 100, 101, 110, 116]
  else if c == 99 then k.toList == [67, 97, 108, 108, 69, 120, 112, 114]
  else if c == 66 then k.toList == [66, 108, 111, 99, 107, 83, 116, 109, 116]
  else false
mutual
/-- Is a part what a letter asks? -/
def right : Syn → Int → ByteArray → Bool
  | .mk k nl x n ks, c, of =>
    if c == 116 then !nl && (k.toList == [84, 111, 107, 101, 110] && n == 0 && ks.length == 0) && (tokens of).any (fun y => y.toList == x.toList)
    else if c == 110 then !nl && (k.toList == [115, 116, 114, 105, 110, 103] && n == 0 && ks.length == 0) && word x.toList
    else if c == 98 then !nl && (k.toList == [98, 111, 111, 108] && x.toList == [] && (n == 0 || n == 1) && ks.length == 0)
    else if c == 108 then (!nl || ks.length == 0) && k.toList == [91, 93, 69, 120, 112, 114] && (x.toList == [] && n == 0) && rightAll ks 101
    else if c == 109 then (!nl || ks.length == 0) && k.toList == [91, 93, 83, 116, 109, 116] && (x.toList == [] && n == 0) && rightAll ks 115
    else if (c == 69 || c == 83) && k.toList == [] then !nl && (x.toList == [] && n == 0) && ks.length == 0
    else !nl && fitsL (if c == 69 then 101 else if c == 83 then 115 else c) k && (x.toList == [] && n == 0) && ks.length == (asked k).size && rightArgs ks (asked k).toList k
def rightAll : List Syn → Int → Bool
  | [], _ => true
  | t :: ts, c => right t c ⟨#[]⟩ && rightAll ts c
def rightArgs : List Syn → List UInt8 → ByteArray → Bool
  | [], _, _ => true
  | _ :: _, [], _ => false
  | t :: ts, c :: cs, k => right t c.toNat k && rightArgs ts cs k
end
def RightC (c : Int) (of : ByteArray) (t : Syn) : Prop := ∀ (X : Nat → Prop) (a : Option Addr) (cap : Nat) (w : World), SynIn X w a cap t →
  Calls Tryz.prog 41 #[synV t a cap, .int .u8 c, .string of] w fun e w' => BoolRes (right t c of = true) e ∧ Ext w w'
theorem Blk5 {w : World} {b : Nat} {p q r s u : Value} {t : TypeId} (h : Blk w b #[p, q, r, s, u] t) : w.cell? ⟨b, 0, none⟩ = some p ∧ w.cell? ⟨b, 1, none⟩ = some q ∧ w.cell? ⟨b, 2, none⟩ = some r ∧ w.cell? ⟨b, 3, none⟩ = some s ∧ w.cell? ⟨b, 4, none⟩ = some u :=
  ⟨by rw [h.cell]; rfl, by rw [h.cell]; rfl, by rw [h.cell]; rfl, by rw [h.cell]; rfl, by rw [h.cell]; rfl⟩
theorem right_mk (k : ByteArray) (nl : Bool) (x : ByteArray) (n : Int) (ks : List Syn) (c : Int) (of : ByteArray) : right (.mk k nl x n ks) c of = (
    if c == 116 then !nl && (k.toList == [84, 111, 107, 101, 110] && n == 0 && ks.length == 0) && (tokens of).any (fun y => y.toList == x.toList)
    else if c == 110 then !nl && (k.toList == [115, 116, 114, 105, 110, 103] && n == 0 && ks.length == 0) && word x.toList
    else if c == 98 then !nl && (k.toList == [98, 111, 111, 108] && x.toList == [] && (n == 0 || n == 1) && ks.length == 0)
    else if c == 108 then (!nl || ks.length == 0) && k.toList == [91, 93, 69, 120, 112, 114] && (x.toList == [] && n == 0) && rightAll ks 101
    else if c == 109 then (!nl || ks.length == 0) && k.toList == [91, 93, 83, 116, 109, 116] && (x.toList == [] && n == 0) && rightAll ks 115
    else if (c == 69 || c == 83) && k.toList == [] then !nl && (x.toList == [] && n == 0) && ks.length == 0
    else !nl && fitsL (if c == 69 then 101 else if c == 83 then 115 else c) k && (x.toList == [] && n == 0) && ks.length == (asked k).size && rightArgs ks (asked k).toList k) := by
  conv => lhs; unfold right
set_option maxRecDepth 100000 in
set_option maxHeartbeats 4000000 in
theorem right_t (t : Syn) (of : ByteArray) : RightC 116 of t := by
  intro X a cap w hT
  obtain ⟨k, nl, x, n, ks⟩ := t
  have hs := hT.sizes
  have hK := hT.kids
  simp only [synV, skind_mk, snull_mk, stext_mk, snum_mk, skids_mk] at *
  have HR := Lib.hid (right_mk k nl x n ks 116 of)
  clear hT
  cases nl
  · cases h1 : (k.toList == [84, 111, 107, 101, 110]) <;> cases h0 : (x.toList == []) <;> cases h2 : (n == 0) <;> cases h3 : ((ks.length : Int) == 0)
    all_goals first
      | (go_enter Tryz.func41, Tryz.ntmps41
         go_big_wp2_with fail
         go_quiet (fail)
         go_big_wp2_with fail
         go_ret
         exact ⟨⟨false, rfl, fun h => by cases h⟩, (Ext.alloc _ _).trans (Ext.drewN _ _)⟩)
      | skip
    all_goals
      have hbx := Blk5 (Blk.new w #[.string k, .bool false, .string x, .int .i64 n, .slice a ks.length cap] 52)
      have b2 := hbx.2.2.1
      have b0 := hbx.1
      have b3 := hbx.2.2.2.1
      have b4 := hbx.2.2.2.2
      have KX := Lib.hid (Ext.alloc w (.cells #[.string k, .bool false, .string x, .int .i64 n, .slice a ks.length cap] 52))
      clear hbx
      have HL := Lib.hid (tokens_le of)
      go_enter Tryz.func41, Tryz.ntmps41
      go_big_wp2_with fail
      go_region_held3 (fun w' => w'.cell? ⟨w.heap.size, 0, none⟩ = some (.string k) ∧ w'.cell? ⟨w.heap.size, 2, none⟩ = some (.string x) ∧ w'.cell? ⟨w.heap.size, 3, none⟩ = some (.int .i64 n) ∧ w'.cell? ⟨w.heap.size, 4, none⟩ = some (.slice a ks.length cap)) (go_keep)
        (first
          | (go_at_call 58; refine (among_calls _ _ _ _ _ HS.out (by have := HL.out; omega)).mono ?_; rintro e w2 ⟨rfl, rfl⟩)
          | (go_at_call 69; refine (tokens_calls of _).mono ?_; rintro e w1 ⟨a1, c1, rfl, hl, hl', hs1, hE1⟩; have HS := Lib.hid hs1; have KE := Lib.hid (((KX.out.trans (Ext.drew _)).trans hE1)); have k2 := hE1.keep ((Ext.drew _).keep b2); have k0 := hE1.keep ((Ext.drew _).keep b0); have k3 := hE1.keep ((Ext.drew _).keep b3); have k4 := hE1.keep ((Ext.drew _).keep b4); clear hs1 hE1))
      go_big_wp2_with fail
      go_ret
      refine ⟨⟨_, rfl, fun h => ?_⟩, KE.out⟩
      have h3' : (ks.length == 0) = true := by simpa using h3
      rw [HR.out, if_pos (by decide), h1, h2, h3', h]
      rfl
  · go_enter Tryz.func41, Tryz.ntmps41
    go_big_wp2_with fail
    go_ret
    exact ⟨⟨false, rfl, fun h => by cases h⟩, Ext.alloc _ _⟩
set_option maxRecDepth 100000 in
set_option maxHeartbeats 4000000 in
theorem right_n (t : Syn) (of : ByteArray) : RightC 110 of t := by
  intro X a cap w hT
  obtain ⟨k, nl, x, n, ks⟩ := t
  have hs := hT.sizes
  have hK := hT.kids
  simp only [synV, skind_mk, snull_mk, stext_mk, snum_mk, skids_mk] at *
  have HR := Lib.hid (right_mk k nl x n ks 110 of)
  clear hT
  cases nl
  · cases h1 : (k.toList == [115, 116, 114, 105, 110, 103]) <;> cases h0 : (x.toList == []) <;> cases h2 : (n == 0) <;> cases h3 : ((ks.length : Int) == 0)
    all_goals first
      | (go_enter Tryz.func41, Tryz.ntmps41
         go_big_wp2_with fail
         go_ret
         exact ⟨⟨false, rfl, fun h => by cases h⟩, Ext.alloc _ _⟩)
      | skip
    all_goals
      have KX := Lib.hid (Ext.alloc w (.cells #[.string k, .bool false, .string x, .int .i64 n, .slice a ks.length cap] 52))
      go_enter Tryz.func41, Tryz.ntmps41
      go_big_wp2_with fail
      refine (word_calls x _ hs.2.1).mono ?_
      rintro e w1 ⟨rfl, rfl⟩
      go_big_wp2_with fail
      go_ret
      refine ⟨⟨_, rfl, fun h => ?_⟩, KX.out⟩
      have h3' : (ks.length == 0) = true := by simpa using h3
      rw [HR.out, if_neg (by decide), if_pos (by decide), h1, h2, h3', h]
      rfl
  · go_enter Tryz.func41, Tryz.ntmps41
    go_big_wp2_with fail
    go_ret
    exact ⟨⟨false, rfl, fun h => by cases h⟩, Ext.alloc _ _⟩
set_option maxRecDepth 100000 in
set_option maxHeartbeats 4000000 in
theorem right_b (t : Syn) (of : ByteArray) : RightC 98 of t := by
  intro X a cap w hT
  obtain ⟨k, nl, x, n, ks⟩ := t
  have hs := hT.sizes
  have hK := hT.kids
  simp only [synV, skind_mk, snull_mk, stext_mk, snum_mk, skids_mk] at *
  have HR := Lib.hid (right_mk k nl x n ks 98 of)
  clear hT
  cases nl
  · cases h1 : (k.toList == [98, 111, 111, 108]) <;> cases h0 : (x.toList == []) <;> cases h2 : (n == 0) <;> cases h4 : (n == 1) <;> cases h3 : ((ks.length : Int) == 0)
    all_goals
      go_enter Tryz.func41, Tryz.ntmps41
      go_big_wp2_with fail
      go_ret
      refine ⟨⟨_, rfl, fun h => ?_⟩, Ext.alloc _ _⟩
      first
        | (cases h; done)
        | (have h3' : (ks.length == 0) = true := by simpa using h3
           rw [HR.out, if_neg (by decide), if_neg (by decide), if_pos (by decide), h1, h0, h2, h4, h3']
           rfl)
  · go_enter Tryz.func41, Tryz.ntmps41
    go_big_wp2_with fail
    go_ret
    exact ⟨⟨false, rfl, fun h => by cases h⟩, Ext.alloc _ _⟩
end Go.Proofs.YtigalkobmfbdaaaGreatDoor
