/- impl.Parse, where it reads. -/
import Derived.Test.YtigalkobmfbdaaaGreatDoorRead2
import Derived.Test.YtigalkobmfbdaaaGreatDoorClone1
import Derived.Test.YtigalkobmfbdaaaGreatDoorToTreeB
import Derived.Test.YtigalkobmfbdaaaGreatDoorEach
import Derived.Test.YtigalkobmfbdaaaGreatDoorApart
import Derived.Deep.RegionHeld3
set_option linter.unusedVariables false
set_option linter.unusedSimpArgs false
namespace Go.Proofs.YtigalkobmfbdaaaGreatDoor
open Go.RowKit Go.WideMaps Go.Sort
theorem oper_value {P : Program} {o : Oper} {a : Act} {w w' : World} {K : Act → World → Prop} {Q : Exit → Act → World → Prop} {v : Value} (h : (execOp a.eval o).run P w = .ok (.value v) w') (hK : K (a.put o.dst v) w') : o.wp P a w K Q := by
  unfold Oper.wp; rw [h]; exact hK
theorem oper_enter {P : Program} {o : Oper} {a : Act} {w : World} {K : Act → World → Prop} {Q : Exit → Act → World → Prop} {f : FuncId} {args : Array Value} (h : (execOp a.eval o).run P w = .ok (.enter f args) w) {R : Ending → World → Prop} (hC : Calls P f args w R) (hK : ∀ e w', R e w' → ∃ v, e = .returned v ∧ K (a.put o.dst v) w') : o.wp P a w K Q := by
  unfold Oper.wp; rw [h]
  refine hC.mono fun e w' hR => ?_
  obtain ⟨v, rfl, hv⟩ := hK e w' hR
  exact hv
theorem ex_field {ρ : Operand → Value} {o : Oper} {t : TypeId} {x : Operand} {f : Nat} {w : World} {u v : Value} (ho : o.op = .fieldAddr t x f) (h : ρ x = u) (hr : (Instr.fieldAt t u f).run Tryz.prog w = .ok v w) : (execOp ρ o).run Tryz.prog w = .ok (.value v) w := by
  simp [execOp, ho, h, hr]
theorem ex_load {ρ : Operand → Value} {o : Oper} {t : TypeId} {x : Operand} {w : World} {b n : Nat} {v : Value} (ho : o.op = .load t x) (h : ρ x = .pointer (some ⟨b, n, none⟩)) (ha : ∀ w : World, (isAgg t).run Tryz.prog w = .ok false w) (hc : w.cell? ⟨b, n, none⟩ = some v) : (execOp ρ o).run Tryz.prog w = .ok (.value v) w := by
  simp [execOp, ho, h, Instr.loadAt, Instr.sureAddr, loadVar, ha, hc]
theorem ex_call {a : Act} {o : Oper} {f : FuncId} {x : Operand} {w : World} {ts : Array TypeId} {v : Value} (ho : o.op = .call { callee := .value (.func f), args := #[x], argTypes := ts }) (h : a.eval x = v) (hr : (callFunc f #[v]).run Tryz.prog w = .ok (.enter f #[v]) w) : (execOp a.eval o).run Tryz.prog w = .ok (.enter f #[v]) w := by
  have hf : a.eval (.func f) = .func (.func f) #[] #[] := rfl
  simp [execOp, ho, h, hf, resolve, Deferred.ofValue, invoke, hr]
theorem ex_alloc {ρ : Operand → Value} {o : Oper} {t : TypeId} {w : World} {v : Value} {w' : World} (ho : o.op = .alloc t) (hr : (Instr.alloc t true (.tuple #[])).run Tryz.prog w = .ok v w') : (execOp ρ o).run Tryz.prog w = .ok (.value v) w' := by
  simp [execOp, ho, hr]
theorem ex_build {ρ : Operand → Value} {o : Oper} {t : TypeId} {ps : Array (Nat × Operand)} {w : World} {v : Value} (ho : o.op = .build t ps) (hr : (Instr.build t (ps.map fun (i, x) => (i, ρ x))).run Tryz.prog w = .ok v w) : (execOp ρ o).run Tryz.prog w = .ok (.value v) w := by
  simp only [execOp, ho, Sem.run_bind, hr]
  rfl
theorem field81_0 (w : World) (B : Nat) : (Instr.fieldAt 81 (.pointer (some ⟨B, 0, none⟩)) 0).run Tryz.prog w = .ok (.pointer (some ⟨B, 0, none⟩)) w := by kernel_rfl
theorem field81_1 (w : World) (B : Nat) : (Instr.fieldAt 81 (.pointer (some ⟨B, 0, none⟩)) 1).run Tryz.prog w = .ok (.pointer (some ⟨B, 1, none⟩)) w := by kernel_rfl
theorem field81_2 (w : World) (B : Nat) : (Instr.fieldAt 81 (.pointer (some ⟨B, 0, none⟩)) 2).run Tryz.prog w = .ok (.pointer (some ⟨B, 2, none⟩)) w := by kernel_rfl
theorem field81_4 (w : World) (B : Nat) : (Instr.fieldAt 81 (.pointer (some ⟨B, 0, none⟩)) 4).run Tryz.prog w = .ok (.pointer (some ⟨B, 4, none⟩)) w := by kernel_rfl
theorem list14 {α : Type} {l : List α} (h : l.length = 14) : ∃ v0 v1 v2 v3 v4 v5 v6 v7 v8 v9 v10 v11 v12 v13, l = [v0, v1, v2, v3, v4, v5, v6, v7, v8, v9, v10, v11, v12, v13] := by
  match l, h with
  | [v0, v1, v2, v3, v4, v5, v6, v7, v8, v9, v10, v11, v12, v13], _ => exact ⟨v0, v1, v2, v3, v4, v5, v6, v7, v8, v9, v10, v11, v12, v13, rfl⟩
theorem enter56 (w : World) (v : Value) : (callFunc 56 #[v]).run Tryz.prog w = .ok (.enter 56 #[v]) w := by kernel_rfl
theorem enter57 (w : World) (v : Value) : (callFunc 57 #[v]).run Tryz.prog w = .ok (.enter 57 #[v]) w := by kernel_rfl
theorem alloc34 (w : World) : (Instr.alloc 34 true (.tuple #[])).run Tryz.prog w = .ok (.pointer (some ⟨w.heap.size, 0, none⟩)) (w.alloc (.cells zeros34 34)) := by kernel_rfl
theorem build34 (w : World) (k1 x1 k2 x2 : ByteArray) (a1 a2 a3 a4 : Option Addr) (n1 n2 n3 n4 c1 c2 c3 c4 : Nat) : (Instr.build 34 #[(0, .agg #[.string k1, .string x1, .slice a1 n1 c1]), (1, .slice a2 n2 c2), (2, .agg #[.string k2, .string x2, .slice a3 n3 c3]), (4, .slice a4 n4 c4)]).run Tryz.prog w = .ok (.agg #[.string k1, .string x1, .slice a1 n1 c1, .slice a2 n2 c2, .string k2, .string x2, .slice a3 n3 c3, .slice none 0 0, .slice a4 n4 c4]) w := by kernel_rfl
theorem info37 : (Tryz.prog.info? 37).map (fun i => (i.zero, i.size, i.bytes)) = some (some (.agg #[.string ⟨#[]⟩, .string ⟨#[]⟩, .string ⟨#[]⟩]), 3, 48) := by kernel_rfl
theorem underlying32 : Tryz.prog.underlying 32 = some (.slice 37) := by kernel_rfl
theorem agg78 (w : World) : (isAgg 78).run Tryz.prog w = .ok false w := by kernel_rfl
theorem agg31 (w : World) : (isAgg 31).run Tryz.prog w = .ok false w := by kernel_rfl
theorem wp_region_eachA {P : Program} {id : Nat} {Q : Exit → Act → World → Prop} {a0 : Act} {w : World} (S : Nat → Value → World → Prop) {ops : Array Oper} {l : List Oper} {z : Oper} (eo : ops = (l ++ [z]).toArray)
    (hm : P.follows .mixedOrders = true)
    (hg : ((l ++ [z]).all fun o => o.guard.isNone) = true)
    (hlow : ((l ++ [z]).zipIdx.all fun p => p.1.after.toList.all fun e => decide (e.on < p.2)) = true)
    (hd : decide (dsts l).Nodup = true) (hin : ((dsts l).all fun t => decide (t < a0.tmps.size)) = true)
    (cover : ∀ on : Nat → Bool, (∀ (i : Nat) o, l[i]? = some o → on i = true → ∀ e ∈ o.after, Region.binds .any e = true → on e.on = true) → (∀ e ∈ z.after, Region.binds .any e = true → on e.on = true) → ∀ i, i < l.length → on i = true)
    (mono : ∀ i v w w', S i v w → Ext w w' → S i v w')
    (each : ∀ (i : Nat) o, l[i]? = some o → EachOK P S w.drew a0 l Q i o)
    (fin : ∀ (vs : List Value) (w' : World), vs.length = l.length → Ext w.drew w' → (∀ i v, vs[i]? = some v → S i v w') → z.wp P (putL l (vs.map some) a0) w' (fun a w => Q .normal a w) Q) :
    (Code.region id ops true).wp P Q a0 w := by
  subst eo
  refine wp_region_each S hm (fun o ho => ?_) (fun i o ho e he => ?_) (of_decide_eq_true hd) (fun t ht => ?_) cover mono each fin
  · have := List.all_eq_true.1 hg o ho
    simpa using this
  · have := List.all_eq_true.1 hlow (o, i) (by rw [List.mem_iff_getElem?]; exact ⟨i, by rw [List.getElem?_zipIdx, ho]; simp⟩)
    have := List.all_eq_true.1 this e (by simpa using he)
    simpa using this
  · simpa using List.all_eq_true.1 hin t ht
/-- What the operations of the region give. -/
def RS (B base : Nat) (root sym : Tree) (Es nm : Names) (rv sv : Value) (ea : Option Addr) (ec : Nat) (ba : Option Addr) (bc : Nat) : Nat → Value → World → Prop
  | 0, v, _ => v = .pointer (some ⟨B, 0, none⟩)
  | 1, v, _ => v = rv
  | 2, v, w => ∃ a c, v = treeV root a c ∧ TreeIn (fun b => base ≤ b) w a c root
  | 3, v, _ => v = .pointer (some ⟨B, 1, none⟩)
  | 4, v, _ => v = .slice ea Es.length ec
  | 5, v, w => ∃ a c, v = .slice a Es.length c ∧ Es.length ≤ c ∧ BsAt w a Es ∧ ∀ b o, a = some ⟨b, o, none⟩ → base ≤ b ∧ ∃ cur, Blk w b cur 9
  | 6, v, _ => v = .pointer (some ⟨B, 2, none⟩)
  | 7, v, _ => v = sv
  | 8, v, w => ∃ a c, v = treeV sym a c ∧ TreeIn (fun b => base ≤ b) w a c sym
  | 9, v, _ => v = .pointer (some ⟨B, 4, none⟩)
  | 10, v, _ => v = .slice ba nm.length bc
  | 11, v, w => ∃ a c, v = .slice a nm.length c ∧ nm.length ≤ c ∧ BsAt w a nm ∧ ∀ b o, a = some ⟨b, o, none⟩ → base ≤ b ∧ ∃ cur, Blk w b cur 9
  | 12, v, w => ∃ a1 c1 a2 c2 a3 c3 a4 c4, v = .agg #[.string root.kind, .string root.text, .slice a1 root.kids.length c1, .slice a2 Es.length c2, .string sym.kind, .string sym.text, .slice a3 sym.kids.length c3, .slice none 0 0, .slice a4 nm.length c4] ∧
      TreeIn (fun b => base ≤ b) w a1 c1 root ∧ (Es.length ≤ c2 ∧ BsAt w a2 Es ∧ ∀ b o, a2 = some ⟨b, o, none⟩ → base ≤ b ∧ ∃ cur, Blk w b cur 9) ∧ TreeIn (fun b => base ≤ b) w a3 c3 sym ∧ (nm.length ≤ c4 ∧ BsAt w a4 nm ∧ ∀ b o, a4 = some ⟨b, o, none⟩ → base ≤ b ∧ ∃ cur, Blk w b cur 9)
  | 13, v, w => ∃ g, v = .pointer (some ⟨g, 0, none⟩) ∧ Blk w g zeros34 34 ∧ base ≤ g
  | _, _, _ => True
theorem RS12 {B base : Nat} {root sym : Tree} {Es nm : Names} {rv sv : Value} {ea : Option Addr} {ec : Nat} {ba : Option Addr} {bc : Nat} {v : Value} {w : World} (h : RS B base root sym Es nm rv sv ea ec ba bc 12 v w) : ∃ a1 c1 a2 c2 a3 c3 a4 c4, v = .agg #[.string root.kind, .string root.text, .slice a1 root.kids.length c1, .slice a2 Es.length c2, .string sym.kind, .string sym.text, .slice a3 sym.kids.length c3, .slice none 0 0, .slice a4 nm.length c4] ∧
      TreeIn (fun b => base ≤ b) w a1 c1 root ∧ (Es.length ≤ c2 ∧ BsAt w a2 Es ∧ ∀ b o, a2 = some ⟨b, o, none⟩ → base ≤ b ∧ ∃ cur, Blk w b cur 9) ∧ TreeIn (fun b => base ≤ b) w a3 c3 sym ∧ (nm.length ≤ c4 ∧ BsAt w a4 nm ∧ ∀ b o, a4 = some ⟨b, o, none⟩ → base ≤ b ∧ ∃ cur, Blk w b cur 9) := h
theorem RS13 {B base : Nat} {root sym : Tree} {Es nm : Names} {rv sv : Value} {ea : Option Addr} {ec : Nat} {ba : Option Addr} {bc : Nat} {v : Value} {w : World} (h : RS B base root sym Es nm rv sv ea ec ba bc 13 v w) : ∃ g, v = .pointer (some ⟨g, 0, none⟩) ∧ Blk w g zeros34 34 ∧ base ≤ g := h
theorem rows_mono {base : Nat} {a : Option Addr} {w w' : World} (hE : Ext w w') (h : ∀ b o, a = some ⟨b, o, none⟩ → base ≤ b ∧ ∃ cur, Blk w b cur 9) : ∀ b o, a = some ⟨b, o, none⟩ → base ≤ b ∧ ∃ cur, Blk w' b cur 9 := fun b o e => by
  obtain ⟨h1, cur, h2⟩ := h b o e
  exact ⟨h1, cur, h2.ext hE⟩
theorem RS.mono {B base : Nat} {root sym : Tree} {Es nm : Names} {rv sv : Value} {ea : Option Addr} {ec : Nat} {ba : Option Addr} {bc : Nat} : ∀ i v w w', RS B base root sym Es nm rv sv ea ec ba bc i v w → Ext w w' → RS B base root sym Es nm rv sv ea ec ba bc i v w'
  | 0, v, w, w', h, hE => h
  | 1, v, w, w', h, hE => h
  | 2, v, w, w', ⟨a, c, h1, h2⟩, hE => ⟨a, c, h1, h2.mono hE⟩
  | 3, v, w, w', h, hE => h
  | 4, v, w, w', h, hE => h
  | 5, v, w, w', ⟨a, c, h1, h2, h3, h4⟩, hE => ⟨a, c, h1, h2, h3.mono hE, rows_mono hE h4⟩
  | 6, v, w, w', h, hE => h
  | 7, v, w, w', h, hE => h
  | 8, v, w, w', ⟨a, c, h1, h2⟩, hE => ⟨a, c, h1, h2.mono hE⟩
  | 9, v, w, w', h, hE => h
  | 10, v, w, w', h, hE => h
  | 11, v, w, w', ⟨a, c, h1, h2, h3, h4⟩, hE => ⟨a, c, h1, h2, h3.mono hE, rows_mono hE h4⟩
  | 12, v, w, w', ⟨a1, c1, a2, c2, a3, c3, a4, c4, h1, h2, ⟨h3, h4, h5⟩, h6, h7, h8, h9⟩, hE => ⟨a1, c1, a2, c2, a3, c3, a4, c4, h1, h2.mono hE, ⟨h3, h4.mono hE, rows_mono hE h5⟩, h6.mono hE, h7, h8.mono hE, rows_mono hE h9⟩
  | 13, v, w, w', ⟨g, h1, h2, h3⟩, hE => ⟨g, h1, h2.ext hE, h3⟩
  | _ + 14, _, _, _, _, _ => trivial
theorem setRow_blk {w : World} {g t : Nat} {old : Array Value} (h : Blk w g old t) (cs : Array Value) : Blk (w.setRow g cs) g cs t := setRow_heap w g old cs t (0, 0) h
theorem setRow_extM {g : Nat} (w : World) (cs : Array Value) : ExtM (· = g) w (w.setRow g cs) := ⟨rfl, rfl, rfl, by rw [setRow_size]; exact Nat.le_refl _, fun k _ hk => setRow_other w g k cs hk⟩
theorem Blk.clash {w : World} {b : Nat} {cs cs' : Array Value} {t t' : TypeId} (h : Blk w b cs t) (h' : Blk w b cs' t') : t = t' := by
  unfold Blk at h h'; rw [h] at h'; simp at h'; exact h'.2
theorem rows_apart {base g : Nat} {zs : Array Value} {a : Option Addr} {l : List (List UInt8)} {w w' : World} (hg : Blk w g zs 34) (hX : ExtM (· = g) w w') (hB : BsAt w a l) (h : ∀ b o, a = some ⟨b, o, none⟩ → base ≤ b ∧ ∃ cur, Blk w b cur 9) : BsAt w' a l ∧ ∀ b o, a = some ⟨b, o, none⟩ → base ≤ b ∧ b ≠ g := by
  have hne : ∀ b o, a = some ⟨b, o, none⟩ → b ≠ g := fun b o e e2 => by
    obtain ⟨-, cur, hc⟩ := h b o e
    subst e2
    exact absurd (hg.clash hc) (by decide)
  exact ⟨hB.extM hX hne, fun b o e => ⟨(h b o e).1, hne b o e⟩⟩
theorem Blk5 {w : World} {b : Nat} {p0 p1 p2 p3 p4 : Value} {t : TypeId} (h : Blk w b #[p0, p1, p2, p3, p4] t) : w.cell? ⟨b, 0, none⟩ = some p0 ∧ w.cell? ⟨b, 1, none⟩ = some p1 ∧ w.cell? ⟨b, 2, none⟩ = some p2 ∧ w.cell? ⟨b, 3, none⟩ = some p3 ∧ w.cell? ⟨b, 4, none⟩ = some p4 := ⟨by rw [h.cell]; rfl, by rw [h.cell]; rfl, by rw [h.cell]; rfl, by rw [h.cell]; rfl, by rw [h.cell]; rfl⟩
/-- The cells of rows of three texts. -/
def symV (l : Syms) : List Value := l.flatMap fun s => [.string s.1, .string s.2.1, .string s.2.2]
theorem symV_len (l : Syms) : (symV l).length = l.length * 3 := by
  induction l with
  | nil => rfl
  | cons s l ih => simp only [symV, List.flatMap_cons, List.length_append, List.length_cons] at *; rw [ih]; simp; omega
theorem ExtM.of_row {w w' : World} {row : Option Nat} (hg : w.grownBy w' row) : ExtM (fun k => row = some k) w w' := ⟨hg.os, hg.tape, hg.output, hg.size, fun k hk hM => hg.block k hk (fun e => hM e.symm)⟩
theorem Blk9 {w : World} {b : Nat} {p0 p1 p2 p3 p4 p5 p6 p7 p8 : Value} {t : TypeId} (h : Blk w b #[p0, p1, p2, p3, p4, p5, p6, p7, p8] t) : w.cell? ⟨b, 0, none⟩ = some p0 ∧ w.cell? ⟨b, 1, none⟩ = some p1 ∧ w.cell? ⟨b, 2, none⟩ = some p2 ∧ w.cell? ⟨b, 3, none⟩ = some p3 ∧ w.cell? ⟨b, 4, none⟩ = some p4 ∧ w.cell? ⟨b, 5, none⟩ = some p5 ∧ w.cell? ⟨b, 6, none⟩ = some p6 ∧ w.cell? ⟨b, 7, none⟩ = some p7 ∧ w.cell? ⟨b, 8, none⟩ = some p8 := ⟨by rw [h.cell]; rfl, by rw [h.cell]; rfl, by rw [h.cell]; rfl, by rw [h.cell]; rfl, by rw [h.cell]; rfl, by rw [h.cell]; rfl, by rw [h.cell]; rfl, by rw [h.cell]; rfl, by rw [h.cell]; rfl⟩
theorem row34 : (Tryz.prog.underlying 34).map (fun d => match d with | .struct _ | .array _ _ => true | _ => false) = some true := by kernel_rfl
theorem size34 : (Tryz.prog.info? 34).map (·.size) = some 9 := by kernel_rfl
theorem symV_take (l : Syms) (j : Nat) (h : j < l.length) : symV (l.take (j + 1)) = symV (l.take j) ++ [.string l[j].1, .string l[j].2.1, .string l[j].2.2] := by
  unfold symV
  rw [List.take_succ_eq_append_getElem h, List.flatMap_append, List.flatMap_cons, List.flatMap_nil, List.append_nil]
theorem idx_of_cells {w : World} {b : Nat} : ∀ (l : Syms) (o : Nat), (∀ j u, (symV l)[j]? = some u → w.cell? ⟨b, o + j, none⟩ = some u) → IdxAt w (some ⟨b, o, none⟩) l
  | [], _, _ => fun j hj => absurd hj (by simp)
  | s :: l, o, h => fun j hj => by
    cases j with
    | zero => exact ⟨b, o, rfl, by simpa using h 0 _ rfl, by simpa using h 1 _ rfl, by simpa using h 2 _ rfl⟩
    | succ j =>
      obtain ⟨b', o', e, h1, h2, h3⟩ := idx_of_cells l (o + 3) (fun j u hu => by
        have := h (j + 3) u (by simpa [symV] using hu)
        rw [show o + (j + 3) = o + 3 + j by omega] at this
        exact this) j (by simpa using hj)
      simp only [Option.some.injEq, Addr.mk.injEq] at e
      obtain ⟨rfl, rfl, -⟩ := e
      have e2 : o + 3 + j * 3 = o + (j + 1) * 3 := by omega
      rw [e2] at h1 h2 h3
      exact ⟨b, o, rfl, by simpa using h1, by simpa using h2, by simpa using h3⟩
theorem idx_of_owns {w : World} {base : Nat} {v : Value} {l : Syms} (h : w.ownsRow base 37 3 v l.length (symV l)) : ∃ a c, v = .slice a l.length c ∧ l.length ≤ c ∧ IdxAt w a l ∧ ∀ b o, a = some ⟨b, o, none⟩ → base ≤ b := by
  rcases h.2 with ⟨rfl, hn⟩ | ⟨g, cap, cur, rfl, hb, hg, hnc, -⟩
  · obtain rfl : l = [] := List.eq_nil_of_length_eq_zero hn
    exact ⟨none, 0, rfl, Nat.le_refl _, fun j hj => absurd hj (by simp), fun b o e => by cases e⟩
  · refine ⟨_, _, rfl, hnc, idx_of_cells l 0 (fun j u hu => ?_), fun b o e => by cases e; exact hb⟩
    have := h.cells (g := g) rfl j u hu
    rw [show (⟨g, 0, none⟩ : Addr).add j = ⟨g, 0 + j, none⟩ by unfold Addr.add; split <;> simp_all] at this
    exact this
/-- What impl.Parse gives where it reads. -/
def WholeRes (base : Nat) (root sym : Tree) (Es nm : Names) (cl : Syms) (e : Ending) (w : World) : Prop :=
  ∃ a1 c1 a2 c2 a3 c3 a4 c4 a5 c5, e = .returned (.tuple #[.agg #[.string root.kind, .string root.text, .slice a1 root.kids.length c1, .slice a2 Es.length c2, .string sym.kind, .string sym.text, .slice a3 sym.kids.length c3, .slice a4 cl.length c4, .slice a5 nm.length c5], .bool true]) ∧
    TreeIn (fun b => base < b) w a1 c1 root ∧ BsAt w a2 Es ∧ TreeIn (fun b => base < b) w a3 c3 sym ∧ IdxAt w a4 cl ∧ BsAt w a5 nm
theorem Blk.set9 {w : World} {b : Nat} {c0 c1 c2 c3 c4 c5 c6 c7 c8 : Value} {t : TypeId} (h : Blk w b #[c0, c1, c2, c3, c4, c5, c6, c7, c8] t) (v0 v1 v2 v3 v4 v5 v6 v7 v8 : Value) : Blk (((((((((w.setCell ⟨b, 0, none⟩ v0).setCell ⟨b, 1, none⟩ v1).setCell ⟨b, 2, none⟩ v2).setCell ⟨b, 3, none⟩ v3).setCell ⟨b, 4, none⟩ v4).setCell ⟨b, 5, none⟩ v5).setCell ⟨b, 6, none⟩ v6).setCell ⟨b, 7, none⟩ v7).setCell ⟨b, 8, none⟩ v8) b #[v0, v1, v2, v3, v4, v5, v6, v7, v8] t := by
  have := ((((((((h.set 0 v0).set 1 v1).set 2 v2).set 3 v3).set 4 v4).set 5 v5).set 6 v6).set 7 v7).set 8 v8
  simpa only [List.setIfInBounds_toArray, List.set_cons_zero, List.set_cons_succ] using this
theorem ExtM.set9 (w : World) (b : Nat) (v0 v1 v2 v3 v4 v5 v6 v7 v8 : Value) : ExtM (· = b) w (((((((((w.setCell ⟨b, 0, none⟩ v0).setCell ⟨b, 1, none⟩ v1).setCell ⟨b, 2, none⟩ v2).setCell ⟨b, 3, none⟩ v3).setCell ⟨b, 4, none⟩ v4).setCell ⟨b, 5, none⟩ v5).setCell ⟨b, 6, none⟩ v6).setCell ⟨b, 7, none⟩ v7).setCell ⟨b, 8, none⟩ v8) := (((((((((ExtM.refl _ w).set1 0 v0).set1 1 v1).set1 2 v2).set1 3 v3).set1 4 v4).set1 5 v5).set1 6 v6).set1 7 v7).set1 8 v8
theorem fin_store {B base : Nat} {root sym : Tree} {Es nm : Names} {rv sv : Value} {ea : Option Addr} {ec : Nat} {ba : Option Addr} {bc : Nat} {l : List Oper} {z : Oper} {a0 : Act} {Q : Exit → Act → World → Prop} {w : World} (hz : z.op = .store 34 (.tmp 8) (.tmp 32)) (hd : decide (dsts l).Nodup = true) (hl : l.length = 14) {o12 o13 : Oper} (h12 : l[12]? = some o12) (d12 : o12.dst = some 32) (h13 : l[13]? = some o13) (d13 : o13.dst = some 8) (hs : 32 < a0.tmps.size)
    (h : ∀ v0 v1 v2 v3 v4 v5 v6 v7 v8 v9 v10 v11 a1 c1 a2 c2 a3 c3 a4 c4 g w3, Ext w w3 → Blk w3 g zeros34 34 → base ≤ g → TreeIn (fun b => base ≤ b) w3 a1 c1 root → (Es.length ≤ c2 ∧ BsAt w3 a2 Es ∧ ∀ b o, a2 = some ⟨b, o, none⟩ → base ≤ b ∧ ∃ cur, Blk w3 b cur 9) → TreeIn (fun b => base ≤ b) w3 a3 c3 sym → (nm.length ≤ c4 ∧ BsAt w3 a4 nm ∧ ∀ b o, a4 = some ⟨b, o, none⟩ → base ≤ b ∧ ∃ cur, Blk w3 b cur 9) →
      Q .normal ((putL l [some v0, some v1, some v2, some v3, some v4, some v5, some v6, some v7, some v8, some v9, some v10, some v11, some (.agg #[.string root.kind, .string root.text, .slice a1 root.kids.length c1, .slice a2 Es.length c2, .string sym.kind, .string sym.text, .slice a3 sym.kids.length c3, .slice none 0 0, .slice a4 nm.length c4]), some (.pointer (some ⟨g, 0, none⟩))] a0).put z.dst undef)
        (w3.setRow g #[.string root.kind, .string root.text, .slice a1 root.kids.length c1, .slice a2 Es.length c2, .string sym.kind, .string sym.text, .slice a3 sym.kids.length c3, .slice none 0 0, .slice a4 nm.length c4])) :
    ∀ (vs : List Value) (w' : World), vs.length = l.length → Ext w w' → (∀ i v, vs[i]? = some v → RS B base root sym Es nm rv sv ea ec ba bc i v w') → z.wp Tryz.prog (putL l (vs.map some) a0) w' (fun a w => Q .normal a w) Q := by
  intro vs w3 hvl hE hS
  obtain ⟨v0, v1, v2, v3, v4, v5, v6, v7, v8, v9, v10, v11, v12, v13, rfl⟩ := list14 (hvl.trans hl)
  obtain ⟨a1, c1, a2, c2, a3, c3, a4, c4, rfl, t1, b1, t2, b2⟩ := RS12 (hS 12 _ rfl)
  obtain ⟨g, rfl, hg, hgb⟩ := RS13 (hS 13 _ rfl)
  exact wp_store_row 34 (.tmp 8) (.tmp 32) hz g _ (putL_eval (i := 13) (of_decide_eq_true hd) h13 rfl d13 (Nat.lt_trans (by decide) hs)) (putL_eval (i := 12) (of_decide_eq_true hd) h12 rfl d12 hs) 34 zeros34 hg (by kernel_rfl) rfl (by kernel_rfl) (h v0 v1 v2 v3 v4 v5 v6 v7 v8 v9 v10 v11 a1 c1 a2 c2 a3 c3 a4 c4 g w3 hE hg hgb t1 b1 t2 b2)
set_option maxRecDepth 100000 in
set_option maxHeartbeats 4000000 in
theorem impl_ok {al : Bool} {inp : ByteArray} {n sym : PN} {Es nm : Names} {cl : Syms} {w : World} (hn : TreeC n) (hs : TreeC sym) (hcn : count (toTree n) ≤ 1000) (hcs : count (toTree sym) ≤ 1000) (htn : tame (toTree n) = true) (hts : tame (toTree sym) = true) (hEl : Es.length ≤ 1000) (hnl : nm.length ≤ 1000) (hcl : cl.length ≤ 1000) (hn0 : n.isNul = false) (hs0 : sym.isNul = false) (hk1 : kinds (toTree n)) (hk2 : kinds (toTree sym))
    (h : Calls Tryz.prog 55 #[.string inp, .bool al] (w.alloc (.cells zeros34 34)) fun e w' => (∃ rv sv ea ec ca cc ba bc, e = .returned (.tuple #[.agg #[rv, .slice ea Es.length ec, sv, .slice ca cl.length cc, .slice ba nm.length bc], .bool true]) ∧
      NodeAt (fun b => w.heap.size < b) w' rv n ∧ NodeAt (fun b => w.heap.size < b) w' sv sym ∧ BsAt w' ea Es ∧ IdxAt w' ca cl ∧ BsAt w' ba nm ∧ Es.length ≤ ec ∧ cl.length ≤ cc ∧ nm.length ≤ bc) ∧ Ext (w.alloc (.cells zeros34 34)) w') :
    Calls Tryz.prog 24 #[.string inp, .bool al] w fun e w' => WholeRes w.heap.size (toTree n) (toTree sym) Es nm cl e w' ∧ Ext w w' := by
  obtain ⟨i0, hi, hz0, hz1, hz2⟩ := info_parts info37
  have H := Lib.hid h
  have HN := Lib.hid (And.intro hn (And.intro hs (And.intro hcn (And.intro hcs (And.intro htn hts)))))
  clear h hn hs hcn hcs htn hts
  go_enter Tryz.func24, Tryz.ntmps24
  go_wp2_with fail
  refine H.out.mono ?_
  rintro e w2 ⟨⟨rv, sv, ea, ec, ca, cc, ba, bc, rfl, h1, h2, h3, h4, h5, l1, l2, l3⟩, hE⟩
  have HR := Lib.hid (And.intro h1 (And.intro h2 (And.intro h3 (And.intro h4 h5))))
  have HE := Lib.hid hE
  rcases h1.nul with ⟨e, -⟩ | ⟨-, tt, xx, rfl⟩
  · rw [hn0] at e; cases e
  rcases h2.nul with ⟨e, -⟩ | ⟨-, tt2, xx2, rfl⟩
  · rw [hs0] at e; cases e
  clear h1 h2 h3 h4 h5 hE
  go_wp2_with fail
  have HT : Hid (Blk (w2.alloc (.cells #[.iface tt xx, .slice ea Es.length ec, .iface tt2 xx2, .slice ca cl.length cc, .slice ba nm.length bc] 81)).drew w2.heap.size #[.iface tt xx, .slice ea Es.length ec, .iface tt2 xx2, .slice ca cl.length cc, .slice ba nm.length bc] 81) := Lib.hid ((Blk.new _ _ _).ext (Ext.drew _))
  refine wp_region_eachA (l := [_, _, _, _, _, _, _, _, _, _, _, _, _, _]) (z := _) (S := RS w2.heap.size w2.heap.size (toTree n) (toTree sym) Es nm (.iface tt xx) (.iface tt2 xx2) ea ec ba bc) (eo := rfl) (by kernel_rfl) (by kernel_rfl) (by kernel_rfl) (by kernel_rfl) (by kernel_rfl) ?cover RS.mono ?each ?fin
  case cover =>
    intro on hd hz
    have z13 := hz ⟨13, .data⟩ (by simp) rfl
    have z12 := hz ⟨12, .data⟩ (by simp) rfl
    have z11 := hd 12 _ rfl z12 ⟨11, .data⟩ (by simp) rfl
    have z8 := hd 12 _ rfl z12 ⟨8, .data⟩ (by simp) rfl
    have z5 := hd 12 _ rfl z12 ⟨5, .data⟩ (by simp) rfl
    have z2 := hd 12 _ rfl z12 ⟨2, .data⟩ (by simp) rfl
    have z10 := hd 11 _ rfl z11 ⟨10, .data⟩ (by simp) rfl
    have z9 := hd 10 _ rfl z10 ⟨9, .data⟩ (by simp) rfl
    have z7 := hd 8 _ rfl z8 ⟨7, .data⟩ (by simp) rfl
    have z6 := hd 7 _ rfl z7 ⟨6, .data⟩ (by simp) rfl
    have z4 := hd 5 _ rfl z5 ⟨4, .data⟩ (by simp) rfl
    have z3 := hd 4 _ rfl z4 ⟨3, .data⟩ (by simp) rfl
    have z1 := hd 2 _ rfl z2 ⟨1, .data⟩ (by simp) rfl
    have z0 := hd 1 _ rfl z1 ⟨0, .data⟩ (by simp) rfl
    clear hd hz
    intro i hi
    rcases i with _ | _ | _ | _ | _ | _ | _ | _ | _ | _ | _ | _ | _ | _ | i
    all_goals first | assumption | (exfalso; simp at hi; omega)
  case each =>
    have cB := HT.out.cell
    have HB : ∀ w', Ext (w2.alloc (.cells #[.iface tt xx, .slice ea Es.length ec, .iface tt2 xx2, .slice ca cl.length cc, .slice ba nm.length bc] 81)).drew w' → Blk w' w2.heap.size #[.iface tt xx, .slice ea Es.length ec, .iface tt2 xx2, .slice ca cl.length cc, .slice ba nm.length bc] 81 := fun w' hE => HT.out.ext hE
    have hE0 : Ext w2 (w2.alloc (.cells #[.iface tt xx, .slice ea Es.length ec, .iface tt2 xx2, .slice ca cl.length cc, .slice ba nm.length bc] 81)).drew := (Ext.alloc _ _).trans (Ext.drew _)
    intro i o ho
    rcases i with _ | _ | _ | _ | _ | _ | _ | _ | _ | _ | _ | _ | _ | _ | i
    · obtain rfl := Option.some.inj ho
      intro a w' hE hD hdep hoth
      exact oper_value (ex_field rfl ((hoth 6 (by decide)).trans rfl) (field81_0 _ _)) ⟨_, rfl, Ext.refl _, rfl⟩
    · obtain rfl := Option.some.inj ho
      intro a w' hE hD hdep hoth
      obtain ⟨v, rfl, hev⟩ := hdep ⟨0, .data⟩ (by simp) rfl _ rfl
      exact oper_value (ex_load rfl (hev 20 rfl) agg78 (by rw [(HB w' hE).cell]; rfl)) ⟨_, rfl, Ext.refl _, rfl⟩
    · obtain rfl := Option.some.inj ho
      intro a w' hE hD hdep hoth
      obtain ⟨v, rfl, hev⟩ := hdep ⟨1, .data⟩ (by simp) rfl _ rfl
      refine oper_enter (ex_call rfl (hev 21 rfl) (enter56 _ _)) (HN.out.1 _ _ _ (HR.out.1.mono ((hE0.trans hE).keeps _)) HN.out.2.2.2.2.1 HN.out.2.2.1) ?_
      rintro e w'' ⟨⟨a1, c1, rfl, hT⟩, hE''⟩
      exact ⟨_, rfl, _, rfl, hE'', a1, c1, rfl, hT.imp fun b hb _ => by have := (hE0.trans hE).size; omega⟩
    · obtain rfl := Option.some.inj ho
      intro a w' hE hD hdep hoth
      exact oper_value (ex_field rfl ((hoth 6 (by decide)).trans rfl) (field81_1 _ _)) ⟨_, rfl, Ext.refl _, rfl⟩
    · obtain rfl := Option.some.inj ho
      intro a w' hE hD hdep hoth
      obtain ⟨v, rfl, hev⟩ := hdep ⟨3, .data⟩ (by simp) rfl _ rfl
      exact oper_value (ex_load rfl (hev 23 rfl) agg31 (by rw [(HB w' hE).cell]; rfl)) ⟨_, rfl, Ext.refl _, rfl⟩
    · obtain rfl := Option.some.inj ho
      intro a w' hE hD hdep hoth
      obtain ⟨v, rfl, hev⟩ := hdep ⟨4, .data⟩ (by simp) rfl _ rfl
      refine oper_enter (ex_call rfl (hev 24 rfl) (enter57 _ _)) (clone_calls (HR.out.2.2.1.mono (hE0.trans hE)) (by have := hEl; omega)) ?_
      rintro e w'' ⟨⟨a1, c1, rfl, h1, h2, h3⟩, hE''⟩
      exact ⟨_, rfl, _, rfl, hE'', a1, c1, rfl, h1, h2, fun b o e => ⟨by have := (h3 b o e).1; have := (hE0.trans hE).size; omega, (h3 b o e).2⟩⟩
    · obtain rfl := Option.some.inj ho
      intro a w' hE hD hdep hoth
      exact oper_value (ex_field rfl ((hoth 6 (by decide)).trans rfl) (field81_2 _ _)) ⟨_, rfl, Ext.refl _, rfl⟩
    · obtain rfl := Option.some.inj ho
      intro a w' hE hD hdep hoth
      obtain ⟨v, rfl, hev⟩ := hdep ⟨6, .data⟩ (by simp) rfl _ rfl
      exact oper_value (ex_load rfl (hev 26 rfl) agg78 (by rw [(HB w' hE).cell]; rfl)) ⟨_, rfl, Ext.refl _, rfl⟩
    · obtain rfl := Option.some.inj ho
      intro a w' hE hD hdep hoth
      obtain ⟨v, rfl, hev⟩ := hdep ⟨7, .data⟩ (by simp) rfl _ rfl
      refine oper_enter (ex_call rfl (hev 27 rfl) (enter56 _ _)) (HN.out.2.1 _ _ _ (HR.out.2.1.mono ((hE0.trans hE).keeps _)) HN.out.2.2.2.2.2 HN.out.2.2.2.1) ?_
      rintro e w'' ⟨⟨a1, c1, rfl, hT⟩, hE''⟩
      exact ⟨_, rfl, _, rfl, hE'', a1, c1, rfl, hT.imp fun b hb _ => by have := (hE0.trans hE).size; omega⟩
    · obtain rfl := Option.some.inj ho
      intro a w' hE hD hdep hoth
      exact oper_value (ex_field rfl ((hoth 6 (by decide)).trans rfl) (field81_4 _ _)) ⟨_, rfl, Ext.refl _, rfl⟩
    · obtain rfl := Option.some.inj ho
      intro a w' hE hD hdep hoth
      obtain ⟨v, rfl, hev⟩ := hdep ⟨9, .data⟩ (by simp) rfl _ rfl
      exact oper_value (ex_load rfl (hev 29 rfl) agg31 (by rw [(HB w' hE).cell]; rfl)) ⟨_, rfl, Ext.refl _, rfl⟩
    · obtain rfl := Option.some.inj ho
      intro a w' hE hD hdep hoth
      obtain ⟨v, rfl, hev⟩ := hdep ⟨10, .data⟩ (by simp) rfl _ rfl
      refine oper_enter (ex_call rfl (hev 30 rfl) (enter57 _ _)) (clone_calls (HR.out.2.2.2.2.mono (hE0.trans hE)) (by have := hnl; omega)) ?_
      rintro e w'' ⟨⟨a1, c1, rfl, h1, h2, h3⟩, hE''⟩
      exact ⟨_, rfl, _, rfl, hE'', a1, c1, rfl, h1, h2, fun b o e => ⟨by have := (h3 b o e).1; have := (hE0.trans hE).size; omega, (h3 b o e).2⟩⟩
    · obtain rfl := Option.some.inj ho
      intro a w' hE hD hdep hoth
      obtain ⟨v2, ⟨a1, c1, rfl, t1⟩, e2⟩ := hdep ⟨2, .data⟩ (by simp) rfl _ rfl
      obtain ⟨v5, ⟨a2, c2, rfl, b1⟩, e5⟩ := hdep ⟨5, .data⟩ (by simp) rfl _ rfl
      obtain ⟨v8, ⟨a3, c3, rfl, t2⟩, e8⟩ := hdep ⟨8, .data⟩ (by simp) rfl _ rfl
      obtain ⟨v11, ⟨a4, c4, rfl, b2⟩, e11⟩ := hdep ⟨11, .data⟩ (by simp) rfl _ rfl
      replace e2 := e2 22 rfl
      replace e5 := e5 25 rfl
      replace e8 := e8 28 rfl
      replace e11 := e11 31 rfl
      refine oper_value (w' := w') (ex_build rfl ?_) ⟨_, rfl, Ext.refl _, a1, c1, a2, c2, a3, c3, a4, c4, rfl, t1, b1, t2, b2⟩
      simp only [List.map_toArray, List.map_cons, List.map_nil, e2, e5, e8, e11]
      exact build34 _ _ _ _ _ _ _ _ _ _ _ _ _ _ _ _ _
    · obtain rfl := Option.some.inj ho
      intro a w' hE hD hdep hoth
      exact oper_value (ex_alloc rfl (alloc34 _)) ⟨_, rfl, Ext.alloc _ _, _, rfl, Blk.new _ _ _, (hE0.trans hE).size⟩
    · simp at ho
  case fin =>
    refine fin_store rfl (by kernel_rfl) rfl rfl rfl rfl rfl (by simp) ?_
    intro v0 v1 v2 v3 v4 v5 v6 v7 v8 v9 v10 v11 a1 c1 a2 c2 a3 c3 a4 c4 g w3 hE3 hg hgb t1 b1 t2 b2
    have hX := setRow_extM (g := g) w3 #[.string (toTree n).kind, .string (toTree n).text, .slice a1 (toTree n).kids.length c1, .slice a2 Es.length c2, .string (toTree sym).kind, .string (toTree sym).text, .slice a3 (toTree sym).kids.length c3, .slice none 0 0, .slice a4 nm.length c4]
    have hB := setRow_blk hg #[.string (toTree n).kind, .string (toTree n).text, .slice a1 (toTree n).kids.length c1, .slice a2 Es.length c2, .string (toTree sym).kind, .string (toTree sym).text, .slice a3 (toTree sym).kids.length c3, .slice none 0 0, .slice a4 nm.length c4]
    have hsz := setRow_size w3 g #[.string (toTree n).kind, .string (toTree n).text, .slice a1 (toTree n).kids.length c1, .slice a2 Es.length c2, .string (toTree sym).kind, .string (toTree sym).text, .slice a3 (toTree sym).kids.length c3, .slice none 0 0, .slice a4 nm.length c4]
    generalize w3.setRow g #[.string (toTree n).kind, .string (toTree n).text, .slice a1 (toTree n).kids.length c1, .slice a2 Es.length c2, .string (toTree sym).kind, .string (toTree sym).text, .slice a3 (toTree sym).kids.length c3, .slice none 0 0, .slice a4 nm.length c4] = w4 at *
    have t1' : TreeIn (fun b => w2.heap.size ≤ b ∧ b ≠ g) w4 a1 c1 (toTree n) := (t1.apart hg hk1).turn fun b o v hb hc => ⟨hb, hX.keep (M := (· = g)) hb.2 hc⟩
    have t2' : TreeIn (fun b => w2.heap.size ≤ b ∧ b ≠ g) w4 a3 c3 (toTree sym) := (t2.apart hg hk2).turn fun b o v hb hc => ⟨hb, hX.keep (M := (· = g)) hb.2 hc⟩
    have b1' := rows_apart hg hX b1.2.1 b1.2.2
    have b2' := rows_apart hg hX b2.2.1 b2.2.2
    have hE4 : Ext w2 w4 := hX.toExt (((Ext.alloc _ _).trans (Ext.drew _)).trans hE3) (fun i hi e => by omega)
    have hT4 : Blk w4 w2.heap.size #[.iface tt xx, .slice ea Es.length ec, .iface tt2 xx2, .slice ca cl.length cc, .slice ba nm.length bc] 81 := (HT.out.ext hE3).extM hX (by rintro rfl; have := Blk.clash hg (HT.out.ext hE3); exact absurd this (by decide))
    have hI4 := HR.out.2.2.2.1.mono hE4
    have KF := Lib.hid (And.intro t1' (And.intro b1'.1 (And.intro t2' (And.intro b2'.1 (And.intro hE4 hI4)))))
    have KB := Lib.hid hB
    have KT := Lib.hid hT4
    have KL := Lib.hid (And.intro b1.1 (And.intro b2.1 (And.intro b1'.2 b2'.2)))
    have cT := Blk5 hT4
    clear t1 t2 t1' t2' b1 b2 b1' b2' hX hg hE3 hE4 hT4 hI4 hsz HT
    simp only [putL, putO]
    go_wp2_with fail
    go_loopw [36] (fun i wr => ∃ (j : Nat) (v : Value), i = .int .i64 j ∧ j ≤ cl.length ∧ Blk wr g #[.string (toTree n).kind, .string (toTree n).text, .slice a1 (toTree n).kids.length c1, .slice a2 Es.length c2, .string (toTree sym).kind, .string (toTree sym).text, .slice a3 (toTree sym).kids.length c3, v, .slice a4 nm.length c4] 34 ∧ wr.ownsRow w4.heap.size 37 3 v j (symV (cl.take j)) ∧ ExtM (· = g) w4 wr) (fun i _ => cl.length - (intOf i).toNat)
    case atStart => exact ⟨0, .slice none 0 0, rfl, Nat.zero_le _, KB.out, World.ownsRow_nil _ _ _ _, ExtM.refl _ _⟩
    case round =>
      obtain ⟨j, v, rfl, hj, hBr, hO, hXr⟩ := hrel
      have hgw := KB.out.lt
      have hEr : Ext w2 wr := hXr.toExt KF.out.2.2.2.2.1 (fun i hi e => by omega)
      have fb := hBr.frozen
      have lb := hBr.lt
      have cb := Blk9 hBr
      have KR := Lib.hid (And.intro hBr (And.intro hO (And.intro hXr hEr)))
      have hws := hXr.size
      clear hBr hO hXr hEr
      by_cases hlt : j < cl.length
      · obtain ⟨b, o, rfl, p1, p2, p3⟩ := HR.out.2.2.2.1 j hlt
        have hbl := cell_lt p1
        replace p1 := KR.out.2.2.2.keep p1
        replace p2 := KR.out.2.2.2.keep p2
        replace p3 := KR.out.2.2.2.keep p3
        have hO1 := (KR.out.2.1.alloc (.cells #[.string cl[j].1, .string cl[j].2.1, .string cl[j].2.2] 87)).alloc (.cells #[.string cl[j].1, .string cl[j].2.1, .string cl[j].2.2] 37)
        have hlenv : (symV (cl.take j)).length ≤ 3000 := by rw [symV_len, List.length_take]; omega
        go_wp2_with (first
          | (at_builtin; refine wpList_append_own_at _ rfl _ _ 32 rfl w4.heap.size 37 i0 _ 3 48 underlying32 hi hz0 hz1 hz2 rfl (by decide) _ _ _ rfl hO1 ⟨wr.heap.size + 1, 0, none⟩ 1 1 [.string cl[j].1, .string cl[j].2.1, .string cl[j].2.2] rfl rfl (by have := cells_three_new (wr.alloc (.cells #[.string cl[j].1, .string cl[j].2.1, .string cl[j].2.2] 87)) (.string cl[j].1) (.string cl[j].2.1) (.string cl[j].2.2) 37; simpa using this) (by intro u hu; simp at hu; rcases hu with rfl | rfl | rfl <;> rfl) (by unfold maxLen; omega) (by omega) (by simp; omega) ?_)
          | go_in)
        intro v' wa hO2 hG hnil hloc
        obtain ⟨a', c', rfl⟩ := owns_slice hO2
        have hgo : v.ownBlock ≠ some g := fun e => by have := (KR.out.2.1.lt g e).1; omega
        have hXa : ExtM (· = g) w4 wa := by
          exact ((KR.out.2.2.1.ext (Ext.alloc _ (.cells #[.string cl[j].1, .string cl[j].2.1, .string cl[j].2.2] 87))).ext (Ext.alloc _ (.cells #[.string cl[j].1, .string cl[j].2.1, .string cl[j].2.2] 37))).trans (ExtM.of_row hG) (fun i hi e => by have := (KR.out.2.1.lt i e).1; omega)
        have hBa : Blk wa g #[.string (toTree n).kind, .string (toTree n).text, .slice a1 (toTree n).kids.length c1, .slice a2 Es.length c2, .string (toTree sym).kind, .string (toTree sym).text, .slice a3 (toTree sym).kids.length c3, v, .slice a4 nm.length c4] 34 := ((KR.out.1.ext (Ext.alloc _ _)).ext (Ext.alloc _ _)).grown hG (Ne.symm hgo)
        have fa := hBa.frozen
        have la := hBa.lt
        have ca := Blk9 hBa
        have KA := Lib.hid (And.intro hXa (And.intro hBa hO2))
        clear hXa hBa hO2 hG hnil hloc hO1
        go_wp2_with fail
        have hSX : ExtM (· = g) wa (wa.setCell ⟨g, 7, none⟩ (.slice a' (j + 1) c')) := (ExtM.refl _ wa).set1 7 _
        refine ⟨⟨j + 1, .slice a' (j + 1) c', by go_num, by omega, ?_, ?_, KA.out.1.trans' hSX⟩, by simp [intOf]; omega⟩
        · exact KA.out.2.1.set 7 _
        · rw [symV_take cl j hlt]
          exact ownsRow_extM KA.out.2.2 hSX (fun k hk e => by omega)
      · obtain rfl : j = cl.length := by omega
        obtain ⟨a5, c5, rfl, hc5, hI5, hb5⟩ := idx_of_owns (by have := KR.out.2.1; rwa [List.take_of_length_le (Nat.le_refl _)] at this)
        have KI := Lib.hid (And.intro hI5 hb5)
        clear hI5 hb5
        have hR := ((Blk.new w zeros34 34).ext HE.out).ext KR.out.2.2.2
        have fR := hR.frozen
        have lR := hR.lt
        have cR := Blk9 hR
        have KR2 := Lib.hid hR
        clear hR
        go_wp2_with fail
        have hXF := ExtM.set9 wr w.heap.size (.string (toTree n).kind) (.string (toTree n).text) (.slice a1 (toTree n).kids.length c1) (.slice a2 Es.length c2) (.string (toTree sym).kind) (.string (toTree sym).text) (.slice a3 (toTree sym).kids.length c3) (.slice a5 cl.length c5) (.slice a4 nm.length c4)
        have hBF := KR2.out.set9 (.string (toTree n).kind) (.string (toTree n).text) (.slice a1 (toTree n).kids.length c1) (.slice a2 Es.length c2) (.string (toTree sym).kind) (.string (toTree sym).text) (.slice a3 (toTree sym).kids.length c3) (.slice a5 cl.length c5) (.slice a4 nm.length c4)
        refine bodyPost_ret (results_ct rfl _ _ w.heap.size 34 #[.string (toTree n).kind, .string (toTree n).text, .slice a1 (toTree n).kids.length c1, .slice a2 Es.length c2, .string (toTree sym).kind, .string (toTree sym).text, .slice a3 (toTree sym).kids.length c3, .slice a5 cl.length c5, .slice a4 nm.length c4] rfl hBF row34 size34) rfl ?_
        have hsz : w.heap.size < w2.heap.size := by have := HE.out.size; simp at this; omega
        have hs4 := KF.out.2.2.2.2.1.size
        generalize ((((((((((wr.setCell ⟨w.heap.size, 0, none⟩ (.string (toTree n).kind)).setCell ⟨w.heap.size, 1, none⟩ (.string (toTree n).text)).setCell ⟨w.heap.size, 2, none⟩ (.slice a1 (toTree n).kids.length c1)).setCell ⟨w.heap.size, 3, none⟩ (.slice a2 Es.length c2)).setCell ⟨w.heap.size, 4, none⟩ (.string (toTree sym).kind)).setCell ⟨w.heap.size, 5, none⟩ (.string (toTree sym).text)).setCell ⟨w.heap.size, 6, none⟩ (.slice a3 (toTree sym).kids.length c3)).setCell ⟨w.heap.size, 7, none⟩ (.slice a5 cl.length c5)).setCell ⟨w.heap.size, 8, none⟩ (.slice a4 nm.length c4))) = wF at hXF ⊢
        refine ⟨⟨a1, c1, a2, c2, a3, c3, a5, c5, a4, c4, rfl, ?_, ?_, ?_, ?_, ?_⟩, ?_⟩
        · exact KF.out.1.turn fun b o v hb hc => ⟨by have := hb.1; omega, hXF.keep (M := (· = w.heap.size)) (by have := hb.1; simp only; omega) (KR.out.2.2.1.keep (M := (· = g)) hb.2 hc)⟩
        · exact (KF.out.2.1.extM KR.out.2.2.1 (fun b o e => (KL.out.2.2.1 b o e).2)).extM hXF (fun b o e => by have := (KL.out.2.2.1 b o e).1; omega)
        · exact KF.out.2.2.1.turn fun b o v hb hc => ⟨by have := hb.1; omega, hXF.keep (M := (· = w.heap.size)) (by have := hb.1; simp only; omega) (KR.out.2.2.1.keep (M := (· = g)) hb.2 hc)⟩
        · exact KI.out.1.extM hXF (fun b o e => by have := KI.out.2 b o e; omega)
        · exact (KF.out.2.2.2.1.extM KR.out.2.2.1 (fun b o e => (KL.out.2.2.2 b o e).2)).extM hXF (fun b o e => by have := (KL.out.2.2.2 b o e).1; omega)
        · exact hXF.toExt (HE.out.of_alloc.trans KR.out.2.2.2) (fun i hi e => by omega)
end Go.Proofs.YtigalkobmfbdaaaGreatDoor
