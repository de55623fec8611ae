/- The parser's state in memory, and its small functions. -/
import Derived.Test.YtigalkobmfbdaaaGreatDoorLex2
import Derived.Maps.OwnSet
set_option linter.unusedVariables false
set_option linter.unusedSimpArgs false
namespace Go.Proofs.YtigalkobmfbdaaaGreatDoor
open Go.RowKit
abbrev itemV (i : Item) : Value := .agg #[.int .i64 i.typ, .string i.val, .int .i64 i.pos]
/-- The parser's struct: a rewound item counts as still to come. -/
def PBlk (w : World) (pb : Nat) (al fl : Bool) (cur : Item) (ia : Option Addr) (n ic : Nat) (mp : Option Nat) : Prop :=
  Blk w pb #[.bool al, .int .i64 cur.typ, .string cur.val, .int .i64 cur.pos, .pointer (if fl then some ⟨pb, 1, none⟩ else none), .slice ia n ic, .map mp] 120
/-- The items lie apart from the parser's struct. -/
def ItemsIn (w : World) (pb hi : Nat) (ia : Option Addr) (its : List Item) : Prop := ItemsAt w ia its ∧ ∀ b o, ia = some ⟨b, o, none⟩ → its ≠ [] → b ≠ pb ∧ b < hi
def PAt (w : World) (pb hi : Nat) (al fl : Bool) (cur : Item) (S : List Item) (mp : Option Nat) : Prop :=
  ∃ (its : List Item) (ia : Option Addr) (ic : Nat), PBlk w pb al fl cur ia its.length ic mp ∧ its.length ≤ ic ∧ (its.length ≤ 100000 ∧ Fit (cur :: its)) ∧ ItemsIn w pb hi ia its ∧ hi ≤ w.heap.size ∧ S = (if fl then [cur] else []) ++ its
theorem ItemsAt.head {w : World} {a : Option Addr} {x : Item} {l : List Item} (h : ItemsAt w a (x :: l)) : ∃ b o, a = some ⟨b, o, none⟩ ∧ w.cell? ⟨b, o, none⟩ = some (.int .i64 x.typ) ∧ w.cell? ⟨b, o + 1, none⟩ = some (.string x.val) ∧ w.cell? ⟨b, o + 2, none⟩ = some (.int .i64 x.pos) ∧ ItemsAt w (some ⟨b, o + 3, none⟩) l := by
  rcases h with h | ⟨b, o, ha, h⟩
  · cases h
  · obtain ⟨h1, h2, h3⟩ := h 0 (by simp)
    refine ⟨b, o, ha, by simpa using h1, by simpa using h2, by simpa using h3, .inr ⟨b, o + 3, rfl, fun j hj => ?_⟩⟩
    have := h (j + 1) (by simpa using hj)
    rw [show o + (j + 1) * 3 = o + 3 + j * 3 by omega] at this
    simpa using this
theorem ItemsAt.extM {M : Nat → Prop} {w w' : World} {a : Option Addr} {l : List Item} (h : ItemsAt w a l) (hE : ExtM M w w') (hM : ∀ b o, a = some ⟨b, o, none⟩ → l ≠ [] → ¬ M b) : ItemsAt w' a l := by
  rcases h with h | ⟨b, o, ha, h⟩
  · exact .inl h
  · by_cases hl : l = []
    · exact .inl hl
    · have hb := hM b o ha hl
      exact .inr ⟨b, o, ha, fun j hj => ⟨hE.keep hb (h j hj).1, hE.keep hb (h j hj).2.1, hE.keep hb (h j hj).2.2⟩⟩
theorem ItemsIn.extM {M : Nat → Prop} {w w' : World} {pb hi : Nat} {a : Option Addr} {l : List Item} (h : ItemsIn w pb hi a l) (hE : ExtM M w w') (hM : ∀ b, M b → b = pb) : ItemsIn w' pb hi a l :=
  ⟨h.1.extM hE (fun b o ha hl hb => (h.2 b o ha hl).1 (hM b hb)), h.2⟩
/-- A variable of a struct type, read whole. -/
theorem results_ct {P : Program} {fn : Func} {p u : Tmp} {ty : TypeId} (h : fn.results = #[.cell p ty, .tmp u]) (tmps : Array Value) (w : World) (g : Nat) (t : TypeId) (cs : Array Value)
    (hp : tmps.getD p undef = .pointer (some ⟨g, 0, none⟩)) (hg : Blk w g cs t)
    (hu : (P.underlying ty).map (fun d => match d with | .struct _ | .array _ _ => true | _ => false) = some true) (hi : (P.info? ty).map (·.size) = some cs.size) :
    (results fn tmps).run P w = .ok (.tuple #[.agg cs, tmps.getD u undef]) w := by
  obtain ⟨d, hd, hd'⟩ := Option.map_eq_some_iff.1 hu
  have hp' : tmps[p]?.getD undef = .pointer (some ⟨g, 0, none⟩) := by simpa using hp
  simp [results, h, hp', asAddr, run_loadVar_row w g t ty cs (0, 0) d hg hd (by cases d <;> first | rfl | cases hd') hi]
theorem results_c {P : Program} {fn : Func} {p : Tmp} {ty : TypeId} (h : fn.results = #[.cell p ty]) (tmps : Array Value) (w : World) (g : Nat) (t : TypeId) (cs : Array Value)
    (hp : tmps.getD p undef = .pointer (some ⟨g, 0, none⟩)) (hg : Blk w g cs t)
    (hu : (P.underlying ty).map (fun d => match d with | .struct _ | .array _ _ => true | _ => false) = some true) (hi : (P.info? ty).map (·.size) = some cs.size) :
    (results fn tmps).run P w = .ok (.agg cs) w := by
  obtain ⟨d, hd, hd'⟩ := Option.map_eq_some_iff.1 hu
  exact results_cell_row h tmps w g t cs (0, 0) d hp hg hd (by cases d <;> first | rfl | cases hd') hi
theorem row115 : (Tryz.prog.underlying 115).map (fun d => match d with | .struct _ | .array _ _ => true | _ => false) = some true := by kernel_rfl
theorem size115 : (Tryz.prog.info? 115).map (·.size) = some 3 := by kernel_rfl
set_option maxRecDepth 100000 in
set_option maxHeartbeats 1000000 in
theorem nextItem_calls {w : World} {pb hi : Nat} {al fl : Bool} {cur x : Item} {ia : Option Addr} {its : List Item} {ic : Nat} {mp : Option Nat} (h : PBlk w pb al fl cur ia (its.length + 1) ic mp) (hc : its.length + 1 ≤ ic) (hl : its.length ≤ 100000) (hI : ItemsIn w pb hi ia (x :: its)) :
    Calls Tryz.prog 88 #[.pointer (some ⟨pb, 0, none⟩)] w fun e w' => e = .returned (.tuple #[itemV x, .bool true]) ∧ ExtM (· = pb) w w' ∧ ∃ ia' ic', PBlk w' pb al fl cur ia' its.length ic' mp ∧ its.length ≤ ic' ∧ ∀ W, ItemsIn W pb hi ia (x :: its) → ItemsIn W pb hi ia' its := by
  obtain ⟨b, o, rfl, c0, c1, c2, hrest⟩ := hI.1.head
  obtain ⟨hbp, hbh⟩ := hI.2 b o rfl (by simp)
  have p5 : w.cell? ⟨pb, 5, none⟩ = some (.slice (some ⟨b, o, none⟩) (its.length + 1) ic) := by rw [h.cell]; rfl
  have hf := h.frozen
  have hlt := h.lt
  have hbl := cell_lt c0
  have H := Lib.hid h
  have HI := Lib.hid hI
  have HR := Lib.hid hrest
  clear h hI hrest
  simp only at hbl
  go_enter Tryz.func88, Tryz.ntmps88
  go_wp2_with fail
  · refine bodyPost_ret (results_ct rfl _ _ w.heap.size 115 #[.int .i64 x.typ, .string x.val, .int .i64 x.pos] rfl ?_ row115 size115) rfl ?_
    · have := (Blk.new (w.setCell ⟨pb, 5, none⟩ (.slice (some ⟨b, o, none⟩) its.length 0)) #[.int .i64 x.typ, .string x.val, .int .i64 x.pos] 115).ext (Ext.alloc _ (.cells #[.int .i64 x.typ, .string x.val, .int .i64 x.pos] 115))
      simpa using this
    obtain rfl : its = [] := List.eq_nil_of_length_eq_zero (by omega)
    refine ⟨rfl, (((ExtM.refl _ w).set1 5 _).ext (Ext.alloc _ _)).ext (Ext.alloc _ _), some ⟨b, o, none⟩, 0, ?_, Nat.zero_le _, fun W _ => ⟨.inl rfl, fun _ _ _ h => absurd rfl h⟩⟩
    exact ((H.out.set 5 _).ext (Ext.alloc _ _)).ext (Ext.alloc _ _)
  · refine bodyPost_ret (results_ct rfl _ _ w.heap.size 115 #[.int .i64 x.typ, .string x.val, .int .i64 x.pos] rfl ?_ row115 size115) rfl ?_
    · have := (Blk.new (w.setCell ⟨pb, 5, none⟩ (.slice (some ⟨b, o + 3, none⟩) its.length (ic - 1))) #[.int .i64 x.typ, .string x.val, .int .i64 x.pos] 115).ext (Ext.alloc _ (.cells #[.int .i64 x.typ, .string x.val, .int .i64 x.pos] 115))
      simpa using this
    have hX := (((ExtM.refl (· = pb) w).set1 5 (.slice (some ⟨b, o + 3, none⟩) its.length (ic - 1))).ext (Ext.alloc _ (.cells #[.int .i64 x.typ, .string x.val, .int .i64 x.pos] 115))).ext (Ext.alloc _ (.cells #[.int .i64 x.typ, .string x.val, .int .i64 x.pos] 115))
    refine ⟨rfl, hX, some ⟨b, o + 3, none⟩, ic - 1, ((H.out.set 5 _).ext (Ext.alloc _ _)).ext (Ext.alloc _ _), by omega, fun W hW => ?_⟩
    obtain ⟨b', o', e, -, -, -, hr⟩ := hW.1.head
    obtain ⟨rfl, rfl⟩ : b = b' ∧ o = o' := by simpa using e
    refine ⟨hr, fun b' o' e _ => ?_⟩
    rw [← show b = b' from congrArg Addr.block (Option.some.inj e)]
    exact ⟨hbp, hbh⟩
theorem PAt.lt {w : World} {pb hi : Nat} {al fl : Bool} {cur : Item} {S : List Item} {mp : Option Nat} (h : PAt w pb hi al fl cur S mp) : pb < w.heap.size ∧ hi ≤ w.heap.size := by
  obtain ⟨its, ia, ic, hB, h1, h2, h3, h4, rfl⟩ := h; exact ⟨hB.lt, h4⟩
theorem PAt.extM {M : Nat → Prop} {w w' : World} {pb hi : Nat} {al fl : Bool} {cur : Item} {S : List Item} {mp : Option Nat} (h : PAt w pb hi al fl cur S mp) (hE : ExtM M w w') (hp : ¬ M pb) (hM : ∀ b, b < hi → ¬ M b) : PAt w' pb hi al fl cur S mp := by
  obtain ⟨its, ia, ic, hB, h1, h2, h3, h4, rfl⟩ := h
  exact ⟨its, ia, ic, hB.extM hE hp, h1, h2, ⟨h3.1.extM hE (fun b o ha hl => hM b (h3.2 b o ha hl).2), h3.2⟩, Nat.le_trans h4 hE.size, rfl⟩
theorem PAt.ext {w w' : World} {pb hi : Nat} {al fl : Bool} {cur : Item} {S : List Item} {mp : Option Nat} (h : PAt w pb hi al fl cur S mp) (hE : Ext w w') : PAt w' pb hi al fl cur S mp :=
  h.extM (hE.toM fun _ => False) (fun h => h) (fun _ _ h => h)
set_option maxRecDepth 100000 in
set_option maxHeartbeats 1000000 in
theorem rewind_calls {w : World} {pb hi : Nat} {al fl : Bool} {cur : Item} {S : List Item} {mp : Option Nat} (h : PAt w pb hi al fl cur S mp) :
    Calls Tryz.prog 112 #[.pointer (some ⟨pb, 0, none⟩)] w fun e w' => e = .returned (.tuple #[]) ∧ ExtM (· = pb) w w' ∧ PAt w' pb hi al true cur (if fl then S else cur :: S) mp := by
  obtain ⟨its, ia, ic, hB, h1, h2, h3, h4, rfl⟩ := h
  have hf := hB.frozen
  have hlt := hB.lt
  have hX := (ExtM.refl (· = pb) w).set1 4 (.pointer (some ⟨pb, 1, none⟩))
  have HG := Lib.hid (show PAt (w.setCell ⟨pb, 4, none⟩ (.pointer (some ⟨pb, 1, none⟩))) pb hi al true cur (if fl then (if fl then [cur] else []) ++ its else cur :: ((if fl then [cur] else []) ++ its)) mp from
    ⟨its, ia, ic, hB.set 4 _, h1, h2, h3.extM hX (fun _ h => h), Nat.le_trans h4 hX.size, by cases fl <;> rfl⟩)
  have HX := Lib.hid hX
  cases fl
  · have p4 : w.cell? ⟨pb, 4, none⟩ = some (.pointer none) := by rw [hB.cell]; rfl
    clear hB h3 hX
    go_enter Tryz.func112, Tryz.ntmps112
    go_wp2_with fail
    go_end0
    exact ⟨rfl, HX.out, HG.out⟩
  · have p4 : w.cell? ⟨pb, 4, none⟩ = some (.pointer (some ⟨pb, 1, none⟩)) := by rw [hB.cell]; rfl
    clear hB h3 hX
    go_enter Tryz.func112, Tryz.ntmps112
    go_wp2_with fail
    go_end0
    exact ⟨rfl, HX.out, HG.out⟩
theorem ExtM.setNew {M : Nat → Prop} {a b : World} (h : ExtM M a b) {g : Nat} (hg : a.heap.size ≤ g) (o : Nat) (u : Value) : ExtM M a (b.setCell ⟨g, o, none⟩ u) := h.setCell (.inr hg) u
set_option maxRecDepth 100000 in
set_option maxHeartbeats 1000000 in
theorem next_true {w : World} {pb hi : Nat} {al : Bool} {cur : Item} {S : List Item} {mp : Option Nat} (h : PAt w pb hi al true cur S mp) :
    Calls Tryz.prog 138 #[.pointer (some ⟨pb, 0, none⟩)] w fun e w' => ∃ S', S = cur :: S' ∧ e = .returned (itemV cur) ∧ ExtM (· = pb) w w' ∧ PAt w' pb hi al false cur S' mp := by
  obtain ⟨its, ia, ic, hB, h1, h2, h3, h4, rfl⟩ := h
  have hf := hB.frozen
  have hlt := hB.lt
  have p1 : w.cell? ⟨pb, 1, none⟩ = some (.int .i64 cur.typ) := by rw [hB.cell]; rfl
  have p2 : w.cell? ⟨pb, 2, none⟩ = some (.string cur.val) := by rw [hB.cell]; rfl
  have p3 : w.cell? ⟨pb, 3, none⟩ = some (.int .i64 cur.pos) := by rw [hB.cell]; rfl
  have p4 : w.cell? ⟨pb, 4, none⟩ = some (.pointer (some ⟨pb, 1, none⟩)) := by rw [hB.cell]; rfl
  have HB := Lib.hid hB
  have H3 := Lib.hid h3
  clear hB h3
  go_enter Tryz.func138, Tryz.ntmps138
  go_wp2_with fail
  refine bodyPost_ret (results_c rfl _ _ w.heap.size 115 #[.int .i64 cur.typ, .string cur.val, .int .i64 cur.pos] rfl ?_ row115 size115) rfl ?_
  · have := (Blk.new (w.setCell ⟨pb, 4, none⟩ (.pointer none)) #[.int .i64 cur.typ, .string cur.val, .int .i64 cur.pos] 115).ext (Ext.alloc _ (.cells #[.int .i64 cur.typ, .string cur.val, .int .i64 cur.pos] 115))
    simpa using this
  have hX := (((ExtM.refl (· = pb) w).set1 4 (.pointer none)).ext (Ext.alloc _ (.cells #[.int .i64 cur.typ, .string cur.val, .int .i64 cur.pos] 115))).ext (Ext.alloc _ (.cells #[.int .i64 cur.typ, .string cur.val, .int .i64 cur.pos] 115))
  exact ⟨rfl, hX, its, ia, ic, ((HB.out.set 4 _).ext (Ext.alloc _ _)).ext (Ext.alloc _ _), h1, h2, H3.out.extM hX (fun _ h => h), Nat.le_trans h4 hX.size, rfl⟩
set_option maxRecDepth 100000 in
set_option maxHeartbeats 1000000 in
theorem next_false {w : World} {pb hi : Nat} {al : Bool} {cur x : Item} {S : List Item} {mp : Option Nat} (h : PAt w pb hi al false cur (x :: S) mp) :
    Calls Tryz.prog 138 #[.pointer (some ⟨pb, 0, none⟩)] w fun e w' => e = .returned (itemV x) ∧ ExtM (· = pb) w w' ∧ PAt w' pb hi al false x S mp := by
  obtain ⟨its, ia, ic, hB, h1, h2, h3, h4, he⟩ := h
  obtain rfl : its = x :: S := by simpa using he.symm
  have hf := hB.frozen
  have hlt := hB.lt
  have p4 : w.cell? ⟨pb, 4, none⟩ = some (.pointer none) := by rw [hB.cell]; rfl
  have HB := Lib.hid hB
  have H3 := Lib.hid h3
  clear hB h3 he
  go_enter Tryz.func138, Tryz.ntmps138
  go_wp2_with fail
  have hEa := Ext.alloc w (.cells #[.int .i64 0, .string ⟨#[]⟩, .int .i64 0] 115)
  refine (nextItem_calls (x := x) (its := S) (Blk.ext HB.out hEa) (by simpa using h1) (by have := h2.1; simp at this; omega) (H3.out.extM (hEa.toM (· = pb)) (fun _ h => h))).mono ?_
  rintro e w1 ⟨rfl, hX, ia', ic', hB', hc', hI'⟩
  have hR := (Blk.new w #[.int .i64 0, .string ⟨#[]⟩, .int .i64 0] 115).extM hX (by omega)
  have hX2 := hEa.extM hX
  have f1 := hB'.frozen
  have l1 := hB'.lt
  have f2 := hR.frozen
  have l2 := hR.lt
  have hne : w.heap.size ≠ pb := by omega
  have d0 : w1.cell? ⟨w.heap.size, 0, none⟩ = some (.int .i64 0) := by rw [hR.cell]; rfl
  have d1 : w1.cell? ⟨w.heap.size, 1, none⟩ = some (.string ⟨#[]⟩) := by rw [hR.cell]; rfl
  have d2 : w1.cell? ⟨w.heap.size, 2, none⟩ = some (.int .i64 0) := by rw [hR.cell]; rfl
  have p1 : w1.cell? ⟨pb, 1, none⟩ = some (.int .i64 cur.typ) := by rw [hB'.cell]; rfl
  have p2 : w1.cell? ⟨pb, 2, none⟩ = some (.string cur.val) := by rw [hB'.cell]; rfl
  have p3 : w1.cell? ⟨pb, 3, none⟩ = some (.int .i64 cur.pos) := by rw [hB'.cell]; rfl
  have HB' := Lib.hid hB'
  have HI' := Lib.hid hI'
  have HR := Lib.hid hR
  have HX := Lib.hid hX2
  clear hB' hI' hR hX hX2 hf hlt p4
  go_wp2_with fail
  refine bodyPost_ret (results_c rfl _ _ w.heap.size 115 #[.int .i64 x.typ, .string x.val, .int .i64 x.pos] rfl ?_ row115 size115) rfl ?_
  · exact ((((((HR.out.set_other hne.symm _).set_other hne.symm _).set_other hne.symm _).set 0 _).set 1 _).set 2 _)
  have hX := (((((HX.out.set1 1 (.int .i64 x.typ)).set1 2 (.string x.val)).set1 3 (.int .i64 x.pos)).setNew (Nat.le_refl w.heap.size) 0 (.int .i64 x.typ)).setNew (Nat.le_refl w.heap.size) 1 (.string x.val)).setNew (Nat.le_refl w.heap.size) 2 (.int .i64 x.pos)
  exact ⟨rfl, hX, S, ia', ic', (((Blk.set (Blk.set (Blk.set HB'.out 1 _) 2 _) 3 _).set_other hne _).set_other hne _).set_other hne _, hc', ⟨by have := h2.1; simp at this; omega, fun i hi => h2.2 i (List.mem_cons_of_mem _ hi)⟩, (HI'.out w H3.out).extM hX (fun _ h => h), Nat.le_trans h4 hX.size, rfl⟩
theorem next_calls {w : World} {pb hi : Nat} {al fl : Bool} {cur x : Item} {S : List Item} {mp : Option Nat} (h : PAt w pb hi al fl cur (x :: S) mp) :
    Calls Tryz.prog 138 #[.pointer (some ⟨pb, 0, none⟩)] w fun e w' => e = .returned (itemV x) ∧ ExtM (· = pb) w w' ∧ PAt w' pb hi al false x S mp := by
  cases fl
  · exact next_false h
  · refine (next_true h).mono ?_
    rintro e w' ⟨S', hS, he, hX, hP⟩
    obtain ⟨rfl, rfl⟩ := List.cons.inj hS
    exact ⟨he, hX, hP⟩
set_option maxRecDepth 100000 in
set_option maxHeartbeats 1000000 in
theorem peek_calls {w : World} {pb hi : Nat} {al fl : Bool} {cur x : Item} {S : List Item} {mp : Option Nat} (h : PAt w pb hi al fl cur (x :: S) mp) :
    Calls Tryz.prog 139 #[.pointer (some ⟨pb, 0, none⟩)] w fun e w' => e = .returned (itemV x) ∧ ExtM (· = pb) w w' ∧ PAt w' pb hi al true x (x :: S) mp := by
  obtain ⟨hlp, hhi⟩ := h.lt
  have H := Lib.hid h
  clear h
  have hEa := Ext.alloc w (.cells #[.int .i64 0, .string ⟨#[]⟩, .int .i64 0] 115)
  have HP := Lib.hid (H.out.ext hEa)
  go_enter Tryz.func139, Tryz.ntmps139
  go_wp2_with fail
  refine (next_calls HP.out).mono ?_
  rintro e w1 ⟨rfl, hX, hP⟩
  have hR := (Blk.new w #[.int .i64 0, .string ⟨#[]⟩, .int .i64 0] 115).extM hX (by omega)
  have hX2 := Lib.hid (hEa.extM hX)
  have hP1 := Lib.hid hP
  have HR := Lib.hid hR
  have HXs := hX.size
  clear hX hP hR
  go_wp2_with fail
  refine (rewind_calls (hP1.out.ext (Ext.alloc w1 (.cells #[.int .i64 x.typ, .string x.val, .int .i64 x.pos] 115)))).mono ?_
  rintro e w2 ⟨rfl, hX3, hP3⟩
  have hL := (Blk.new w1 #[.int .i64 x.typ, .string x.val, .int .i64 x.pos] 115).extM hX3 (by have := hX2.out.size; omega)
  have hR2 := (HR.out.ext (Ext.alloc w1 (.cells #[.int .i64 x.typ, .string x.val, .int .i64 x.pos] 115))).extM hX3 (by omega)
  have a0 : w2.cell? ⟨w1.heap.size, 0, none⟩ = some (.int .i64 x.typ) := by rw [hL.cell]; rfl
  have a1 : w2.cell? ⟨w1.heap.size, 1, none⟩ = some (.string x.val) := by rw [hL.cell]; rfl
  have a2 : w2.cell? ⟨w1.heap.size, 2, none⟩ = some (.int .i64 x.pos) := by rw [hL.cell]; rfl
  have f2 := hR2.frozen
  have l2 := hR2.lt
  have d0 : w2.cell? ⟨w.heap.size, 0, none⟩ = some (.int .i64 0) := by rw [hR2.cell]; rfl
  have d1 : w2.cell? ⟨w.heap.size, 1, none⟩ = some (.string ⟨#[]⟩) := by rw [hR2.cell]; rfl
  have d2 : w2.cell? ⟨w.heap.size, 2, none⟩ = some (.int .i64 0) := by rw [hR2.cell]; rfl
  have HR2 := Lib.hid hR2
  have HXX := Lib.hid ((hX2.out.ext (Ext.alloc w1 (.cells #[.int .i64 x.typ, .string x.val, .int .i64 x.pos] 115))).trans' hX3)
  have HP3 := Lib.hid hP3
  have hl1 := hL.lt
  clear hR2 hX3 hP3 hL
  go_wp2_with fail
  refine bodyPost_ret (results_c rfl _ _ w.heap.size 115 #[.int .i64 x.typ, .string x.val, .int .i64 x.pos] rfl ?_ row115 size115) rfl ?_
  · exact ((HR2.out.set 0 _).set 1 _).set 2 _
  have hX4 : ExtM (· = w.heap.size) w2 (((w2.setCell ⟨w.heap.size, 0, none⟩ (.int .i64 x.typ)).setCell ⟨w.heap.size, 1, none⟩ (.string x.val)).setCell ⟨w.heap.size, 2, none⟩ (.int .i64 x.pos)) := (((ExtM.refl (· = w.heap.size) w2).set1 0 _).set1 1 _).set1 2 _
  refine ⟨rfl, HXX.out.trans hX4 (fun i hi e => by omega), ?_⟩
  exact HP3.out.extM hX4 (by omega) (fun b hb e => by omega)
set_option maxRecDepth 100000 in
set_option maxHeartbeats 1000000 in
theorem accept_yes {w : World} {pb hi : Nat} {al fl : Bool} {cur x : Item} {S : List Item} {mp : Option Nat} (t : Int) (h : PAt w pb hi al fl cur (x :: S) mp) (ht : x.typ = t) :
    Calls Tryz.prog 110 #[.pointer (some ⟨pb, 0, none⟩), .int .i64 t] w fun e w' => e = .returned (.tuple #[itemV x, .bool true]) ∧ ExtM (· = pb) w w' ∧ PAt w' pb hi al false x S mp := by
  subst ht
  obtain ⟨hlp, hhi⟩ := h.lt
  have H := Lib.hid h
  clear h
  have hEa := Ext.alloc w (.cells #[.int .i64 0, .string ⟨#[]⟩, .int .i64 0] 115)
  have HP := Lib.hid (H.out.ext hEa)
  go_enter Tryz.func110, Tryz.ntmps110
  go_wp2_with fail
  refine (next_calls HP.out).mono ?_
  rintro e w1 ⟨rfl, hX, hP⟩
  have hR := (Blk.new w #[.int .i64 0, .string ⟨#[]⟩, .int .i64 0] 115).extM hX (by omega)
  have hX2 := Lib.hid (hEa.extM hX)
  have hP1 := Lib.hid hP
  have HR := Lib.hid hR
  have HXs := hX.size
  have f2 := hR.frozen
  have l2 := hR.lt
  have d0 : w1.cell? ⟨w.heap.size, 0, none⟩ = some (.int .i64 0) := by rw [hR.cell]; rfl
  have d1 : w1.cell? ⟨w.heap.size, 1, none⟩ = some (.string ⟨#[]⟩) := by rw [hR.cell]; rfl
  have d2 : w1.cell? ⟨w.heap.size, 2, none⟩ = some (.int .i64 0) := by rw [hR.cell]; rfl
  clear hX hP hR
  go_wp2_with fail
  refine bodyPost_ret (results_ct rfl _ _ w.heap.size 115 #[.int .i64 x.typ, .string x.val, .int .i64 x.pos] rfl ?_ row115 size115) rfl ?_
  · exact (((HR.out.set 0 _).set 1 _).set 2 _).ext (Ext.alloc _ _)
  have hX4 : ExtM (· = w.heap.size) w1 (((w1.setCell ⟨w.heap.size, 0, none⟩ (.int .i64 x.typ)).setCell ⟨w.heap.size, 1, none⟩ (.string x.val)).setCell ⟨w.heap.size, 2, none⟩ (.int .i64 x.pos)) := (((ExtM.refl (· = w.heap.size) w1).set1 0 _).set1 1 _).set1 2 _
  have hX5 := hX4.ext (Ext.alloc _ (.cells #[.int .i64 x.typ, .string x.val, .int .i64 x.pos] 115))
  exact ⟨rfl, hX2.out.trans hX5 (fun i hi e => by omega), hP1.out.extM hX5 (by omega) (fun b hb e => by omega)⟩
set_option maxRecDepth 100000 in
set_option maxHeartbeats 1000000 in
theorem accept_no {w : World} {pb hi : Nat} {al fl : Bool} {cur x : Item} {S : List Item} {mp : Option Nat} (t : Int) (h : PAt w pb hi al fl cur (x :: S) mp) (ht : x.typ ≠ t) :
    Calls Tryz.prog 110 #[.pointer (some ⟨pb, 0, none⟩), .int .i64 t] w fun e w' => e = .returned (.tuple #[itemV ⟨0, ⟨#[]⟩, 0⟩, .bool false]) ∧ ExtM (· = pb) w w' ∧ PAt w' pb hi al true x (x :: S) mp := by
  obtain ⟨hlp, hhi⟩ := h.lt
  have H := Lib.hid h
  clear h
  have hEa := Ext.alloc w (.cells #[.int .i64 0, .string ⟨#[]⟩, .int .i64 0] 115)
  have HP := Lib.hid (H.out.ext hEa)
  go_enter Tryz.func110, Tryz.ntmps110
  go_wp2_with fail
  refine (next_calls HP.out).mono ?_
  rintro e w1 ⟨rfl, hX, hP⟩
  have hR := (Blk.new w #[.int .i64 0, .string ⟨#[]⟩, .int .i64 0] 115).extM hX (by omega)
  have hX2 := Lib.hid (hEa.extM hX)
  have hP1 := Lib.hid hP
  have HR := Lib.hid hR
  have HXs := hX.size
  clear hX hP hR
  go_wp2_with fail
  refine (rewind_calls (hP1.out.ext (Ext.alloc w1 (.cells #[.int .i64 x.typ, .string x.val, .int .i64 x.pos] 115)))).mono ?_
  rintro e w2 ⟨rfl, hX3, hP3⟩
  have hL := (Blk.new w1 #[.int .i64 x.typ, .string x.val, .int .i64 x.pos] 115).extM hX3 (by have := hX2.out.size; omega)
  have hR2 := (HR.out.ext (Ext.alloc w1 (.cells #[.int .i64 x.typ, .string x.val, .int .i64 x.pos] 115))).extM hX3 (by omega)
  have a0 : w2.cell? ⟨w1.heap.size, 0, none⟩ = some (.int .i64 x.typ) := by rw [hL.cell]; rfl
  have a1 : w2.cell? ⟨w1.heap.size, 1, none⟩ = some (.string x.val) := by rw [hL.cell]; rfl
  have a2 : w2.cell? ⟨w1.heap.size, 2, none⟩ = some (.int .i64 x.pos) := by rw [hL.cell]; rfl
  have f2 := hR2.frozen
  have l2 := hR2.lt
  have d0 : w2.cell? ⟨w.heap.size, 0, none⟩ = some (.int .i64 0) := by rw [hR2.cell]; rfl
  have d1 : w2.cell? ⟨w.heap.size, 1, none⟩ = some (.string ⟨#[]⟩) := by rw [hR2.cell]; rfl
  have d2 : w2.cell? ⟨w.heap.size, 2, none⟩ = some (.int .i64 0) := by rw [hR2.cell]; rfl
  have HR2 := Lib.hid hR2
  have HXX := Lib.hid ((hX2.out.ext (Ext.alloc w1 (.cells #[.int .i64 x.typ, .string x.val, .int .i64 x.pos] 115))).trans' hX3)
  have HP3 := Lib.hid hP3
  have hl1 := hL.lt
  clear hR2 hX3 hP3 hL
  go_wp2_with fail
  refine bodyPost_ret (results_ct rfl _ _ w.heap.size 115 #[.int .i64 0, .string ⟨#[]⟩, .int .i64 0] rfl ?_ row115 size115) rfl ?_
  · exact ((HR2.out.set 0 _).set 1 _).set 2 _
  have hX4 : ExtM (· = w.heap.size) w2 (((w2.setCell ⟨w.heap.size, 0, none⟩ (.int .i64 0)).setCell ⟨w.heap.size, 1, none⟩ (.string ⟨#[]⟩)).setCell ⟨w.heap.size, 2, none⟩ (.int .i64 0)) := (((ExtM.refl (· = w.heap.size) w2).set1 0 _).set1 1 _).set1 2 _
  exact ⟨rfl, HXX.out.trans hX4 (fun i hi e => by omega), HP3.out.extM hX4 (by omega) (fun b hb e => by omega)⟩
theorem errnew_calls (s : ByteArray) (w : World) : Calls Tryz.prog 89 #[.string s] w fun e w' => (∃ p, e = .returned (.iface 184 (.pointer p))) ∧ Ext w w' := by
  go_enter Tryz.func89, Tryz.ntmps89
  go_wp2_with fail
  go_ret
  exact ⟨⟨_, rfl⟩, Ext.alloc _ _⟩
set_option maxRecDepth 100000 in
set_option maxHeartbeats 1000000 in
theorem unexpected_calls {w : World} {pb hi : Nat} {al fl : Bool} {cur : Item} {S : List Item} {mp : Option Nat} (h : PAt w pb hi al fl cur S mp) (s : ByteArray) (hs : s.size ≤ 100) :
    Calls Tryz.prog 111 #[.pointer (some ⟨pb, 0, none⟩), .string s] w fun e w' => (∃ p, e = .returned (.iface 184 (.pointer p))) ∧ Ext w w' := by
  obtain ⟨its, ia, ic, hB, h1, ⟨h2, hF⟩, h3, h4, rfl⟩ := h
  have hf := hB.frozen
  have hlt := hB.lt
  have hz : cur.val.size ≤ 100000 := hF cur (List.mem_cons_self ..)
  have p1 : w.cell? ⟨pb, 1, none⟩ = some (.int .i64 cur.typ) := by rw [hB.cell]; rfl
  have p2 : w.cell? ⟨pb, 2, none⟩ = some (.string cur.val) := by rw [hB.cell]; rfl
  clear hB h3
  cases ht : (cur.typ == 0)
  · go_enter Tryz.func111, Tryz.ntmps111
    go_wp2_with fail
    refine (errnew_calls _ _).mono ?_
    rintro e w' ⟨⟨p, rfl⟩, hE⟩
    go_wp2_with fail
    go_ret
    exact ⟨⟨_, rfl⟩, hE⟩
  · go_enter Tryz.func111, Tryz.ntmps111
    go_wp2_with fail
    refine (errnew_calls _ _).mono ?_
    rintro e w' ⟨⟨p, rfl⟩, hE⟩
    go_wp2_with fail
    go_ret
    exact ⟨⟨_, rfl⟩, hE⟩
end Go.Proofs.YtigalkobmfbdaaaGreatDoor
