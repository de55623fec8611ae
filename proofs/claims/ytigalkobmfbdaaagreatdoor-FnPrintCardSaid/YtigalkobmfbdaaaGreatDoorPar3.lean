/- The nodes of a pattern in memory; populateNode. -/
import Derived.Test.YtigalkobmfbdaaaGreatDoorPar2
set_option linter.unusedVariables false
set_option linter.unusedSimpArgs false
namespace Go.Proofs.YtigalkobmfbdaaaGreatDoor
open Go.RowKit
/-- A node of a pattern; nul: an interface that is nil. -/
inductive PN where
  | nul
  | any
  | nil
  | str (s : ByteArray)
  | tok (s : ByteArray)
  | struct (name : ByteArray) (kids : List PN)
  | list (h t : PN)
  | bind (name : ByteArray) (node : PN) (idx : Int)
  | or (kids : List PN)
  | and (kids : List PN)
  | index (p t i : ByteArray)
mutual
/-- A value is a node; whatever it leads to lies in blocks of X. -/
def NodeAt (X : Nat → Prop) (w : World) : Value → PN → Prop
  | v, .nul => v = .nilIface
  | v, .any => v = .iface 130 (.agg #[])
  | v, .nil => v = .iface 131 (.agg #[])
  | v, .str s => v = .iface 132 (.string s)
  | v, .tok s => v = .iface 134 (.string s)
  | v, .struct nm ks => ∃ a c, v = .iface 127 (.agg #[.string nm, .slice a ks.length c]) ∧ ks.length ≤ c ∧ NodesAt X w a ks
  | v, .list h t => ∃ hv tv, v = .iface 136 (.agg #[hv, tv]) ∧ NodeAt X w hv h ∧ NodeAt X w tv t
  | v, .bind nm n i => ∃ nv, v = .iface 138 (.agg #[.string nm, nv, .int .i64 i]) ∧ NodeAt X w nv n
  | v, .or ks => ∃ a c, v = .iface 140 (.agg #[.slice a ks.length c]) ∧ ks.length ≤ c ∧ NodesAt X w a ks
  | v, .and ks => ∃ a c, v = .iface 141 (.agg #[.slice a ks.length c]) ∧ ks.length ≤ c ∧ NodesAt X w a ks
  | v, .index p t i => v = .iface 87 (.agg #[.string p, .string t, .string i])
def NodesAt (X : Nat → Prop) (w : World) : Option Addr → List PN → Prop
  | _, [] => True
  | a, n :: ns => ∃ b o v, a = some ⟨b, o, none⟩ ∧ X b ∧ w.cell? ⟨b, o, none⟩ = some v ∧ NodeAt X w v n ∧ NodesAt X w (some ⟨b, o + 1, none⟩) ns
end
/-- Whatever is known of cells in blocks of X stays. -/
def Keeps (X : Nat → Prop) (w w' : World) : Prop := ∀ b o v, X b → w.cell? ⟨b, o, none⟩ = some v → w'.cell? ⟨b, o, none⟩ = some v
theorem Ext.keeps {w w' : World} (h : Ext w w') (X : Nat → Prop) : Keeps X w w' := fun _ _ _ _ hc => h.keep hc
theorem Keeps.trans {X : Nat → Prop} {a b c : World} (h : Keeps X a b) (k : Keeps X b c) : Keeps X a c := fun _ _ _ hb hc => k _ _ _ hb (h _ _ _ hb hc)
theorem ExtM.keeps {M X : Nat → Prop} {w w' : World} (h : ExtM M w w') (hX : ∀ b, X b → ¬ M b) : Keeps X w w' := fun _ _ _ hb hc => h.keep (hX _ hb) hc
theorem Step.keeps {X : Nat → Prop} {pb hi : Nat} {al fl : Bool} {cur : Item} {S : List Item} {mp mp' : Option Nat} {names : List (List UInt8)} {w w' : World} (h : Step pb mp mp' w w') (hP : PSt w pb hi al fl cur S mp names) (hX : ∀ b, X b → b ≠ pb) : Keeps X w w' := by
  intro b o v hb hc
  refine h.1.keep ?_ hc
  rintro (e | e)
  · exact hX b hb e
  · have hM := hP.2.1
    rw [← e] at hM
    obtain ⟨D, hO, -⟩ := hM
    exact ownsMap_not_cells hO hc rfl
mutual
theorem NodeAt.mono {X : Nat → Prop} {w w' : World} (h : Keeps X w w') : ∀ {n : PN} {v : Value}, NodeAt X w v n → NodeAt X w' v n
  | .nul, _, e => by rw [NodeAt] at e ⊢; exact e
  | .any, _, e => by rw [NodeAt] at e ⊢; exact e
  | .nil, _, e => by rw [NodeAt] at e ⊢; exact e
  | .str s, _, e => by rw [NodeAt] at e ⊢; exact e
  | .tok s, _, e => by rw [NodeAt] at e ⊢; exact e
  | .struct nm ks, _, e => by rw [NodeAt] at e ⊢; obtain ⟨a, c, e, hc, hk⟩ := e; exact ⟨a, c, e, hc, NodesAt.mono h hk⟩
  | .list x y, _, e => by rw [NodeAt] at e ⊢; obtain ⟨hv, tv, e, h1, h2⟩ := e; exact ⟨hv, tv, e, NodeAt.mono h h1, NodeAt.mono h h2⟩
  | .bind nm n i, _, e => by rw [NodeAt] at e ⊢; obtain ⟨nv, e, h1⟩ := e; exact ⟨nv, e, NodeAt.mono h h1⟩
  | .or ks, _, e => by rw [NodeAt] at e ⊢; obtain ⟨a, c, e, hc, hk⟩ := e; exact ⟨a, c, e, hc, NodesAt.mono h hk⟩
  | .and ks, _, e => by rw [NodeAt] at e ⊢; obtain ⟨a, c, e, hc, hk⟩ := e; exact ⟨a, c, e, hc, NodesAt.mono h hk⟩
  | .index p t i, _, e => by rw [NodeAt] at e ⊢; exact e
theorem NodesAt.mono {X : Nat → Prop} {w w' : World} (h : Keeps X w w') : ∀ {ns : List PN} {a : Option Addr}, NodesAt X w a ns → NodesAt X w' a ns
  | [], _, _ => by rw [NodesAt]; trivial
  | n :: ns, _, e => by
    rw [NodesAt] at e ⊢
    obtain ⟨b, o, v, e, hb, hc, h1, h2⟩ := e
    exact ⟨b, o, v, e, hb, h _ _ _ hb hc, NodeAt.mono h h1, NodesAt.mono h h2⟩
end
mutual
theorem NodeAt.imp {X Y : Nat → Prop} {w : World} (h : ∀ b, X b → b < w.heap.size → Y b) : ∀ {n : PN} {v : Value}, NodeAt X w v n → NodeAt Y w v n
  | .nul, _, e => by rw [NodeAt] at e ⊢; exact e
  | .any, _, e => by rw [NodeAt] at e ⊢; exact e
  | .nil, _, e => by rw [NodeAt] at e ⊢; exact e
  | .str s, _, e => by rw [NodeAt] at e ⊢; exact e
  | .tok s, _, e => by rw [NodeAt] at e ⊢; exact e
  | .struct nm ks, _, e => by rw [NodeAt] at e ⊢; obtain ⟨a, c, e, hc, hk⟩ := e; exact ⟨a, c, e, hc, NodesAt.imp h hk⟩
  | .list x y, _, e => by rw [NodeAt] at e ⊢; obtain ⟨hv, tv, e, h1, h2⟩ := e; exact ⟨hv, tv, e, NodeAt.imp h h1, NodeAt.imp h h2⟩
  | .bind nm n i, _, e => by rw [NodeAt] at e ⊢; obtain ⟨nv, e, h1⟩ := e; exact ⟨nv, e, NodeAt.imp h h1⟩
  | .or ks, _, e => by rw [NodeAt] at e ⊢; obtain ⟨a, c, e, hc, hk⟩ := e; exact ⟨a, c, e, hc, NodesAt.imp h hk⟩
  | .and ks, _, e => by rw [NodeAt] at e ⊢; obtain ⟨a, c, e, hc, hk⟩ := e; exact ⟨a, c, e, hc, NodesAt.imp h hk⟩
  | .index p t i, _, e => by rw [NodeAt] at e ⊢; exact e
theorem NodesAt.imp {X Y : Nat → Prop} {w : World} (h : ∀ b, X b → b < w.heap.size → Y b) : ∀ {ns : List PN} {a : Option Addr}, NodesAt X w a ns → NodesAt Y w a ns
  | [], _, _ => by rw [NodesAt]; trivial
  | n :: ns, _, e => by
    rw [NodesAt] at e ⊢
    obtain ⟨b, o, v, e, hb, hc, h1, h2⟩ := e
    exact ⟨b, o, v, e, h b hb (cell_lt hc), hc, NodeAt.imp h h1, NodesAt.imp h h2⟩
end
theorem NodesAt.get {X : Nat → Prop} {w : World} : ∀ {ns : List PN} {a : Option Addr} (_ : NodesAt X w a ns) (j : Nat) (hj : j < ns.length), ∃ b o v, a = some ⟨b, o, none⟩ ∧ X b ∧ w.cell? ⟨b, o + j, none⟩ = some v ∧ NodeAt X w v ns[j]
  | n :: ns, a, e, 0, _ => by
    rw [NodesAt] at e
    obtain ⟨b, o, v, e, hb, hc, h1, h2⟩ := e
    exact ⟨b, o, v, e, hb, hc, h1⟩
  | n :: ns, a, e, j + 1, hj => by
    rw [NodesAt] at e
    obtain ⟨b, o, v, e, hb, hc, h1, h2⟩ := e
    obtain ⟨b', o', v', e', hb', hc', h1'⟩ := NodesAt.get h2 j (by simpa using hj)
    obtain ⟨rfl, rfl⟩ : b = b' ∧ o + 1 = o' := by simpa using e'
    refine ⟨b, o, v', e, hb, ?_, h1'⟩
    rw [show o + (j + 1) = o + 1 + j by omega]; exact hc'
theorem nodesAt_of {X : Nat → Prop} {w : World} {b : Nat} (hb : X b) : ∀ (ns : List PN) (vs : List Value) (o : Nat), ns.length = vs.length → (∀ (j : Nat) (h1 : j < ns.length) (h2 : j < vs.length), NodeAt X w vs[j] ns[j]) → (∀ j u, vs[j]? = some u → w.cell? ⟨b, o + j, none⟩ = some u) → NodesAt X w (some ⟨b, o, none⟩) ns
  | [], _, _, _, _, _ => by rw [NodesAt]; trivial
  | n :: ns, [], _, h, _, _ => by simp at h
  | n :: ns, v :: vs, o, hl, hN, hc => by
    rw [NodesAt]
    refine ⟨b, o, v, rfl, hb, by simpa using hc 0 v rfl, hN 0 (by simp) (by simp), ?_⟩
    refine nodesAt_of hb ns vs (o + 1) (by simpa using hl) (fun j h1 h2 => hN (j + 1) (by simpa using h1) (by simpa using h2)) (fun j u hu => ?_)
    have := hc (j + 1) u (by simpa using hu)
    rw [show o + (j + 1) = o + 1 + j by omega] at this
    exact this
/-- Where the data of nodes lie that are gathered in a row v. -/
abbrev RX (base : Nat) (v : Value) : Nat → Prop := fun b => base ≤ b ∧ v.ownBlock ≠ some b
/-- Nodes in a row of one's own. -/
structure Row (w : World) (base : Nat) (v : Value) (ns : List PN) (vs : List Value) : Prop where
  own : w.ownsRow base 78 1 v vs.length vs
  len : ns.length = vs.length
  node : ∀ (j : Nat) (h1 : j < ns.length) (h2 : j < vs.length), NodeAt (RX base v) w vs[j] ns[j]
/-- A node's value is an interface. -/
theorem NodeAt.shape {X : Nat → Prop} {w : World} {n : PN} {v : Value} (h : NodeAt X w v n) : v = .nilIface ∨ ∃ t x, v = .iface t x := by
  cases n <;> rw [NodeAt] at h
  all_goals first
    | (exact .inl h)
    | (exact .inr ⟨_, _, h⟩)
    | (obtain ⟨a, c, e, -⟩ := h; exact .inr ⟨_, _, e⟩)
    | (obtain ⟨nv, e, -⟩ := h; exact .inr ⟨_, _, e⟩)
/-- A node's value is one cell. -/
theorem NodeAt.one {X : Nat → Prop} {w : World} {n : PN} {v : Value} (h : NodeAt X w v n) : v.oneCell' = true := by
  cases n <;> rw [NodeAt] at h
  all_goals first
    | (subst h; rfl)
    | (obtain ⟨a, c, rfl, -⟩ := h; rfl)
    | (obtain ⟨nv, rfl, -⟩ := h; rfl)
/-- What a name and what stands behind it make; none: an error. (Not said of Binding.) -/
def populate (al : Bool) (nm : ByteArray) (ks : List PN) : Option PN :=
  match structNodes nm with
  | none => none
  | some n =>
    if !al && typeInfo nm then none
    else if nm.toList == [79, 114] then some (.or ks)
    else if ks.length != n then none
    else if nm.toList == [65, 110, 121] then some .any
    else if nm.toList == [76, 105, 115, 116] then (match ks with
      | [a, b] => some (.list a b)
      | _ => none)
    else some (.struct nm ks)
theorem underlying125 : Tryz.prog.underlying 125 = some (.slice 78) := by kernel_rfl
theorem info78 : (Tryz.prog.info? 78).map (fun i => (i.zero, i.size, i.bytes)) = some (some .nilIface, 1, 16) := by kernel_rfl
/-- The error or the node. -/
def PopR (X : Nat → Prop) (w' : World) (e : Ending) (r : Option PN) : Prop := match r with
  | none => ∃ v p, e = .returned (.tuple #[v, .iface 184 (.pointer p)])
  | some n => ∃ v, e = .returned (.tuple #[v, .nilIface]) ∧ NodeAt X w' v n
theorem sn_none {nm : ByteArray} (h : structNodes nm = none) (w : World) : Calls Tryz.prog 93 #[.string nm] w fun e w' => e = .returned (.tuple #[.int .i64 0, .bool false]) ∧ w' = w := by
  have := structNodes_calls nm w; rw [h] at this; exact this.mono fun e w' ⟨a, b⟩ => ⟨a, b.symm⟩
theorem sn_some {nm : ByteArray} {n : Nat} (h : structNodes nm = some n) (w : World) : Calls Tryz.prog 93 #[.string nm] w fun e w' => e = .returned (.tuple #[.int .i64 n, .bool true]) ∧ w' = w := by
  have := structNodes_calls nm w; rw [h] at this; exact this.mono fun e w' ⟨a, b⟩ => ⟨a, b.symm⟩
theorem ti_calls {nm : ByteArray} {b : Bool} (h : typeInfo nm = b) (w : World) : Calls Tryz.prog 162 #[.string nm] w fun e w' => e = .returned (.bool b) ∧ w' = w := by
  have := typeInfo_calls nm w; rw [h] at this; exact this.mono fun e w' ⟨a, b⟩ => ⟨a, b.symm⟩
theorem beqI {m n : Nat} {b : Bool} (h : (m == n) = b) : ((m : Int) == (n : Int)) = b := by
  rw [← h, Bool.eq_iff_iff, beq_iff_eq, beq_iff_eq]; omega
set_option maxRecDepth 100000 in
set_option maxHeartbeats 2000000 in
theorem populate_none {X : Nat → Prop} {w : World} {a : Option Addr} {c : Nat} (al : Bool) (nm : ByteArray) (ks : List PN) (h : structNodes nm = none) :
    Calls Tryz.prog 141 #[.string nm, .slice a ks.length c, .bool al] w fun e w' => PopR (fun b => X b ∨ w.heap.size ≤ b) w' e none ∧ Ext w w' := by
  have HS := Lib.hid h
  clear h
  go_enter Tryz.func141, Tryz.ntmps141
  go_wp2_with fail
  refine (sn_none HS.out _).mono ?_
  rintro e w1 ⟨rfl, rfl⟩
  go_wp2_with fail
  refine (errnew_calls _ _).mono ?_
  rintro e w2 ⟨⟨p, rfl⟩, hE⟩
  go_wp2_with fail
  go_ret2
  exact ⟨⟨_, _, rfl⟩, hE⟩
set_option maxRecDepth 100000 in
set_option maxHeartbeats 2000000 in
theorem populate_info {X : Nat → Prop} {w : World} {a : Option Addr} {c n : Nat} (nm : ByteArray) (ks : List PN) (h : structNodes nm = some n) (ht : typeInfo nm = true) :
    Calls Tryz.prog 141 #[.string nm, .slice a ks.length c, .bool false] w fun e w' => PopR (fun b => X b ∨ w.heap.size ≤ b) w' e none ∧ Ext w w' := by
  have HS := Lib.hid h
  have HT := Lib.hid ht
  clear h ht
  go_enter Tryz.func141, Tryz.ntmps141
  go_wp2_with fail
  refine (sn_some HS.out _).mono ?_
  rintro e w1 ⟨rfl, rfl⟩
  go_wp2_with fail
  refine (ti_calls HT.out _).mono ?_
  rintro e w1 ⟨rfl, rfl⟩
  go_wp2_with fail
  refine (errnew_calls _ _).mono ?_
  rintro e w2 ⟨⟨p, rfl⟩, hE⟩
  go_wp2_with fail
  go_ret2
  exact ⟨⟨_, _, rfl⟩, hE⟩
set_option maxRecDepth 100000 in
set_option maxHeartbeats 2000000 in
theorem populate_len {X : Nat → Prop} {w : World} {a : Option Addr} {c n : Nat} (al : Bool) (nm : ByteArray) (ks : List PN) (h : structNodes nm = some n) (hok : al = true ∨ typeInfo nm = false) (h1 : (nm.toList == [79, 114]) = false) (h2 : (ks.length == n) = false) (hk : ks.length ≤ 100000) :
    Calls Tryz.prog 141 #[.string nm, .slice a ks.length c, .bool al] w fun e w' => PopR (fun b => X b ∨ w.heap.size ≤ b) w' e none ∧ Ext w w' := by
  have h2' := beqI h2
  have HS := Lib.hid h
  clear h
  rcases hok with rfl | ht
  · go_enter Tryz.func141, Tryz.ntmps141
    go_wp2_with fail
    refine (sn_some HS.out _).mono ?_
    rintro e w1 ⟨rfl, rfl⟩
    go_wp2_with fail
    refine (errnew_calls _ _).mono ?_
    rintro e w2 ⟨⟨p, rfl⟩, hE⟩
    go_wp2_with fail
    go_ret2
    exact ⟨⟨_, _, rfl⟩, hE⟩
  · have HT := Lib.hid ht
    clear ht
    cases al
    · go_enter Tryz.func141, Tryz.ntmps141
      go_wp2_with fail
      refine (sn_some HS.out _).mono ?_
      rintro e w1 ⟨rfl, rfl⟩
      go_wp2_with fail
      refine (ti_calls HT.out _).mono ?_
      rintro e w1 ⟨rfl, rfl⟩
      go_wp2_with fail
      refine (errnew_calls _ _).mono ?_
      rintro e w2 ⟨⟨p, rfl⟩, hE⟩
      go_wp2_with fail
      go_ret2
      exact ⟨⟨_, _, rfl⟩, hE⟩
    · go_enter Tryz.func141, Tryz.ntmps141
      go_wp2_with fail
      refine (sn_some HS.out _).mono ?_
      rintro e w1 ⟨rfl, rfl⟩
      go_wp2_with fail
      refine (errnew_calls _ _).mono ?_
      rintro e w2 ⟨⟨p, rfl⟩, hE⟩
      go_wp2_with fail
      go_ret2
      exact ⟨⟨_, _, rfl⟩, hE⟩
set_option maxRecDepth 100000 in
set_option maxHeartbeats 2000000 in
theorem populate_any {X : Nat → Prop} {w : World} {a : Option Addr} {c n : Nat} (al : Bool) (nm : ByteArray) (ks : List PN) (h : structNodes nm = some n) (hok : al = true ∨ typeInfo nm = false) (h1 : (nm.toList == [65, 110, 121]) = true) (h2 : (ks.length == n) = true) (hk : ks.length ≤ 100000) :
    Calls Tryz.prog 141 #[.string nm, .slice a ks.length c, .bool al] w fun e w' => PopR (fun b => X b ∨ w.heap.size ≤ b) w' e (some .any) ∧ Ext w w' := by
  have h2' := beqI h2
  obtain rfl := beq_lit h1
  have HS := Lib.hid h
  clear h
  rcases hok with rfl | ht
  · go_enter Tryz.func141, Tryz.ntmps141
    go_wp2_with fail
    refine (sn_some HS.out _).mono ?_
    rintro e w1 ⟨rfl, rfl⟩
    go_wp2_with fail
    go_ret2
    exact ⟨⟨_, rfl, by rw [NodeAt]; rfl⟩, Ext.refl _⟩
  · have HT := Lib.hid ht
    clear ht
    cases al
    · go_enter Tryz.func141, Tryz.ntmps141
      go_wp2_with fail
      refine (sn_some HS.out _).mono ?_
      rintro e w1 ⟨rfl, rfl⟩
      go_wp2_with fail
      refine (ti_calls HT.out _).mono ?_
      rintro e w1 ⟨rfl, rfl⟩
      go_wp2_with fail
      go_ret2
      exact ⟨⟨_, rfl, by rw [NodeAt]; rfl⟩, Ext.refl _⟩
    · go_enter Tryz.func141, Tryz.ntmps141
      go_wp2_with fail
      refine (sn_some HS.out _).mono ?_
      rintro e w1 ⟨rfl, rfl⟩
      go_wp2_with fail
      go_ret2
      exact ⟨⟨_, rfl, by rw [NodeAt]; rfl⟩, Ext.refl _⟩
/-- The values of nodes that lie in a row. -/
theorem NodesAt.values {X : Nat → Prop} {w : World} : ∀ {ns : List PN} {a : Option Addr}, NodesAt X w a ns → ∃ vs : List Value, ns.length = vs.length ∧ (∀ (j : Nat) (h1 : j < ns.length) (h2 : j < vs.length), NodeAt X w vs[j] ns[j]) ∧ (ns ≠ [] → ∃ b o, a = some ⟨b, o, none⟩ ∧ X b ∧ ∀ j u, vs[j]? = some u → w.cell? ⟨b, o + j, none⟩ = some u)
  | [], _, _ => ⟨[], rfl, fun j h1 => absurd h1 (by simp), fun h => absurd rfl h⟩
  | n :: ns, a, e => by
    rw [NodesAt] at e
    obtain ⟨b, o, v, rfl, hb, hc, h1, h2⟩ := e
    obtain ⟨vs, g1, g2, g3⟩ := NodesAt.values h2
    refine ⟨v :: vs, by simp [g1], fun j q1 q2 => ?_, fun _ => ⟨b, o, rfl, hb, fun j u hu => ?_⟩⟩
    · cases j with
      | zero => exact h1
      | succ j => exact g2 j (by simpa using q1) (by simpa using q2)
    · cases j with
      | zero => simp at hu; subst hu; exact hc
      | succ j =>
        have hne : ns ≠ [] := by rintro rfl; cases vs with
          | nil => simp at hu
          | cons _ _ => simp at g1
        obtain ⟨b', o', e', -, hc'⟩ := g3 hne
        obtain ⟨rfl, rfl⟩ : b = b' ∧ o + 1 = o' := by simpa using e'
        rw [show o + (j + 1) = o + 1 + j by omega]
        exact hc' j u (by simpa using hu)
theorem addr_add (b o n : Nat) : (⟨b, o, none⟩ : Addr).add n = ⟨b, o + n, none⟩ := by unfold Addr.add; split <;> simp_all
/-- A copy of a row of nodes. -/
theorem nodes_copied {X : Nat → Prop} {w w' : World} {v : Value} {ns : List PN} {vs : List Value} (hl : ns.length = vs.length) (hN : ∀ (j : Nat) (h1 : j < ns.length) (h2 : j < vs.length), NodeAt X w vs[j] ns[j]) (hE : Ext w w') (hO : w'.ownsRow w.heap.size 78 1 v vs.length vs) :
    ∃ a c, v = .slice a ns.length c ∧ ns.length ≤ c ∧ NodesAt (fun b => X b ∨ w.heap.size ≤ b) w' a ns := by
  rcases hO.2 with ⟨rfl, hn⟩ | ⟨g, cap, cur, rfl, hg, hgg, hnc, -⟩
  · obtain rfl : ns = [] := List.eq_nil_of_length_eq_zero (by rw [hl, hn])
    exact ⟨none, 0, rfl, Nat.le_refl _, by rw [NodesAt]; trivial⟩
  · refine ⟨_, _, by rw [hl], by rw [hl]; exact hnc, nodesAt_of (.inr hg) ns vs 0 hl (fun j h1 h2 => ((hN j h1 h2).mono (hE.keeps X)).imp (fun b hb _ => .inl hb)) (fun j u hu => ?_)⟩
    have := hO.cells (g := g) rfl j u hu
    have hadd : (⟨g, 0, none⟩ : Addr).add j = ⟨g, 0 + j, none⟩ := by unfold Addr.add; split <;> simp_all
    rw [hadd] at this
    exact this
/-- The values of nodes, and where they lie. -/
def ValsAt (X : Nat → Prop) (w : World) (a : Option Addr) (ns : List PN) : Prop :=
  ∃ vs : List Value, ns.length = vs.length ∧ (∀ (j : Nat) (h1 : j < ns.length) (h2 : j < vs.length), NodeAt X w vs[j] ns[j]) ∧ (ns ≠ [] → ∃ b o, a = some ⟨b, o, none⟩ ∧ ∀ j u, vs[j]? = some u → w.cell? ⟨b, o + j, none⟩ = some u)
theorem Row.vals {w : World} {base : Nat} {v : Value} {ns : List PN} {vs : List Value} (h : Row w base v ns vs) : ∃ a c, v = .slice a ns.length c ∧ ns.length ≤ c ∧ ValsAt (RX base v) w a ns ∧ (ns = [] → v = .slice none 0 0 → a = none ∧ c = 0) := by
  rcases h.own.2 with ⟨rfl, hn⟩ | ⟨g, cap, cur, rfl, hg, hgg, hnc, -⟩
  · obtain rfl : ns = [] := List.eq_nil_of_length_eq_zero (by rw [h.len, hn])
    exact ⟨none, 0, rfl, Nat.le_refl _, ⟨vs, h.len, h.node, fun h => absurd rfl h⟩, fun _ _ => ⟨rfl, rfl⟩⟩
  · refine ⟨_, _, by rw [h.len], by rw [h.len]; exact hnc, ⟨vs, h.len, h.node, fun _ => ⟨g, 0, rfl, fun j u hu => ?_⟩⟩, fun _ e => by simp at e⟩
    have := h.own.cells (g := g) rfl j u hu
    have hadd : (⟨g, 0, none⟩ : Addr).add j = ⟨g, 0 + j, none⟩ := by unfold Addr.add; split <;> simp_all
    rw [hadd] at this
    exact this
set_option maxRecDepth 100000 in
set_option maxHeartbeats 2000000 in
theorem populate_or {X : Nat → Prop} {w : World} {a : Option Addr} {c n : Nat} (al : Bool) (nm : ByteArray) (ks : List PN) (h : structNodes nm = some n) (hok : al = true ∨ typeInfo nm = false) (hne : ks ≠ []) (hK : ValsAt X w a ks) (hc : ks.length ≤ c) (h1 : (nm.toList == [79, 114]) = true) (hk : ks.length ≤ 100000) :
    Calls Tryz.prog 141 #[.string nm, .slice a ks.length c, .bool al] w fun e w' => PopR (fun b => X b ∨ w.heap.size ≤ b) w' e (some (.or ks)) ∧ Ext w w' := by
  obtain ⟨i0, hi, hz0, hz1, hz2⟩ := info_parts info78
  obtain ⟨vs, hl, hN, hcl⟩ := hK
  obtain ⟨b, o, rfl, hcell⟩ := hcl hne
  have HN := Lib.hid hN
  have HL := Lib.hid hl
  have hk0 : 0 < ks.length := List.length_pos_iff.2 hne
  clear hN hcl hne hl
  obtain rfl := beq_lit h1
  have HS := Lib.hid h
  clear h
  rcases hok with rfl | ht
  · go_enter Tryz.func141, Tryz.ntmps141
    go_wp2_with fail
    refine (sn_some HS.out _).mono ?_
    rintro e w1 ⟨rfl, rfl⟩
    go_wp2_with (first
      | (at_builtin; refine wpList_append_own _ rfl _ _ 125 rfl w1.heap.size 78 i0 _ 1 16 underlying125 hi hz0 hz1 hz2 rfl (by decide) (.slice none 0 0) 0 [] rfl (World.ownsRow_nil _ _ _ _) ⟨b, o, none⟩ ks.length c vs rfl ?c0 ?c1 ?c2 ?c3 ?c4 (Nat.le_refl _) ?_)
      | go_in)
    case c0 => have := HL.out; omega
    case c3 => unfold maxLen; omega
    case c4 => omega
    case c1 => intro j u hu; rw [addr_add]; exact hcell j u hu
    case c2 =>
      intro u hu
      obtain ⟨j, hj, rfl⟩ := List.getElem_of_mem hu
      exact (HN.out j (by have := HL.out; omega) hj).one
    intro v' w2 hO2 hG hnil
    clear hnil
    have hE2 : Ext w1 w2 := (Ext.refl w1).grown hG (by simp [Value.ownBlock])
    rw [HL.out] at hO2
    obtain ⟨a', c', rfl, hc', hK⟩ := nodes_copied HL.out HN.out hE2 hO2
    have HK := Lib.hid hK
    clear hO2 hG hK
    go_wp2_with fail
    go_ret2
    exact ⟨⟨_, rfl, by rw [NodeAt]; exact ⟨a', c', rfl, hc', HK.out⟩⟩, hE2⟩
  · have HT := Lib.hid ht
    clear ht
    cases al
    · go_enter Tryz.func141, Tryz.ntmps141
      go_wp2_with fail
      refine (sn_some HS.out _).mono ?_
      rintro e w1 ⟨rfl, rfl⟩
      go_wp2_with fail
      refine (ti_calls HT.out _).mono ?_
      rintro e w1 ⟨rfl, rfl⟩
      go_wp2_with (first
        | (at_builtin; refine wpList_append_own _ rfl _ _ 125 rfl w1.heap.size 78 i0 _ 1 16 underlying125 hi hz0 hz1 hz2 rfl (by decide) (.slice none 0 0) 0 [] rfl (World.ownsRow_nil _ _ _ _) ⟨b, o, none⟩ ks.length c vs rfl ?c0 ?c1 ?c2 ?c3 ?c4 (Nat.le_refl _) ?_)
        | go_in)
      case c0 => have := HL.out; omega
      case c3 => unfold maxLen; omega
      case c4 => omega
      case c1 => intro j u hu; rw [addr_add]; exact hcell j u hu
      case c2 =>
        intro u hu
        obtain ⟨j, hj, rfl⟩ := List.getElem_of_mem hu
        exact (HN.out j (by have := HL.out; omega) hj).one
      intro v' w2 hO2 hG hnil
      clear hnil
      have hE2 : Ext w1 w2 := (Ext.refl w1).grown hG (by simp [Value.ownBlock])
      rw [HL.out] at hO2
      obtain ⟨a', c', rfl, hc', hK⟩ := nodes_copied HL.out HN.out hE2 hO2
      have HK := Lib.hid hK
      clear hO2 hG hK
      go_wp2_with fail
      go_ret2
      exact ⟨⟨_, rfl, by rw [NodeAt]; exact ⟨a', c', rfl, hc', HK.out⟩⟩, hE2⟩
    · go_enter Tryz.func141, Tryz.ntmps141
      go_wp2_with fail
      refine (sn_some HS.out _).mono ?_
      rintro e w1 ⟨rfl, rfl⟩
      go_wp2_with (first
        | (at_builtin; refine wpList_append_own _ rfl _ _ 125 rfl w1.heap.size 78 i0 _ 1 16 underlying125 hi hz0 hz1 hz2 rfl (by decide) (.slice none 0 0) 0 [] rfl (World.ownsRow_nil _ _ _ _) ⟨b, o, none⟩ ks.length c vs rfl ?c0 ?c1 ?c2 ?c3 ?c4 (Nat.le_refl _) ?_)
        | go_in)
      case c0 => have := HL.out; omega
      case c3 => unfold maxLen; omega
      case c4 => omega
      case c1 => intro j u hu; rw [addr_add]; exact hcell j u hu
      case c2 =>
        intro u hu
        obtain ⟨j, hj, rfl⟩ := List.getElem_of_mem hu
        exact (HN.out j (by have := HL.out; omega) hj).one
      intro v' w2 hO2 hG hnil
      clear hnil
      have hE2 : Ext w1 w2 := (Ext.refl w1).grown hG (by simp [Value.ownBlock])
      rw [HL.out] at hO2
      obtain ⟨a', c', rfl, hc', hK⟩ := nodes_copied HL.out HN.out hE2 hO2
      have HK := Lib.hid hK
      clear hO2 hG hK
      go_wp2_with fail
      go_ret2
      exact ⟨⟨_, rfl, by rw [NodeAt]; exact ⟨a', c', rfl, hc', HK.out⟩⟩, hE2⟩
set_option maxRecDepth 100000 in
set_option maxHeartbeats 2000000 in
theorem populate_struct {X : Nat → Prop} {w : World} {a : Option Addr} {c n : Nat} (al : Bool) (nm : ByteArray) (ks : List PN) (h : structNodes nm = some n) (hok : al = true ∨ typeInfo nm = false) (hne : ks ≠ []) (hK : ValsAt X w a ks) (hc : ks.length ≤ c) (h1 : (nm.toList == [79, 114]) = false) (h3 : (nm.toList == [65, 110, 121]) = false) (h4 : (nm.toList == [76, 105, 115, 116]) = false) (h5 : (nm.toList == [66, 105, 110, 100, 105, 110, 103]) = false) (h2 : (ks.length == n) = true) (hk : ks.length ≤ 100000) :
    Calls Tryz.prog 141 #[.string nm, .slice a ks.length c, .bool al] w fun e w' => PopR (fun b => X b ∨ w.heap.size ≤ b) w' e (some (.struct nm ks)) ∧ Ext w w' := by
  obtain ⟨i0, hi, hz0, hz1, hz2⟩ := info_parts info78
  obtain ⟨vs, hl, hN, hcl⟩ := hK
  obtain ⟨b, o, rfl, hcell⟩ := hcl hne
  have HN := Lib.hid hN
  have HL := Lib.hid hl
  have hk0 : 0 < ks.length := List.length_pos_iff.2 hne
  clear hN hcl hne hl
  have h2' := beqI h2
  have HS := Lib.hid h
  clear h
  rcases hok with rfl | ht
  · go_enter Tryz.func141, Tryz.ntmps141
    go_wp2_with fail
    refine (sn_some HS.out _).mono ?_
    rintro e w1 ⟨rfl, rfl⟩
    go_wp2_with (first
      | (at_builtin; refine wpList_append_own _ rfl _ _ 125 rfl w1.heap.size 78 i0 _ 1 16 underlying125 hi hz0 hz1 hz2 rfl (by decide) (.slice none 0 0) 0 [] rfl (World.ownsRow_nil _ _ _ _) ⟨b, o, none⟩ ks.length c vs rfl ?c0 ?c1 ?c2 ?c3 ?c4 (Nat.le_refl _) ?_)
      | go_in)
    case c0 => have := HL.out; omega
    case c3 => unfold maxLen; omega
    case c4 => omega
    case c1 => intro j u hu; rw [addr_add]; exact hcell j u hu
    case c2 =>
      intro u hu
      obtain ⟨j, hj, rfl⟩ := List.getElem_of_mem hu
      exact (HN.out j (by have := HL.out; omega) hj).one
    intro v' w2 hO2 hG hnil
    clear hnil
    have hE2 : Ext w1 w2 := (Ext.refl w1).grown hG (by simp [Value.ownBlock])
    rw [HL.out] at hO2
    obtain ⟨a', c', rfl, hc', hK⟩ := nodes_copied HL.out HN.out hE2 hO2
    have HK := Lib.hid hK
    clear hO2 hG hK
    go_wp2_with fail
    go_ret2
    exact ⟨⟨_, rfl, by rw [NodeAt]; exact ⟨a', c', rfl, hc', HK.out⟩⟩, hE2⟩
  · have HT := Lib.hid ht
    clear ht
    cases al
    · go_enter Tryz.func141, Tryz.ntmps141
      go_wp2_with fail
      refine (sn_some HS.out _).mono ?_
      rintro e w1 ⟨rfl, rfl⟩
      go_wp2_with fail
      refine (ti_calls HT.out _).mono ?_
      rintro e w1 ⟨rfl, rfl⟩
      go_wp2_with (first
        | (at_builtin; refine wpList_append_own _ rfl _ _ 125 rfl w1.heap.size 78 i0 _ 1 16 underlying125 hi hz0 hz1 hz2 rfl (by decide) (.slice none 0 0) 0 [] rfl (World.ownsRow_nil _ _ _ _) ⟨b, o, none⟩ ks.length c vs rfl ?c0 ?c1 ?c2 ?c3 ?c4 (Nat.le_refl _) ?_)
        | go_in)
      case c0 => have := HL.out; omega
      case c3 => unfold maxLen; omega
      case c4 => omega
      case c1 => intro j u hu; rw [addr_add]; exact hcell j u hu
      case c2 =>
        intro u hu
        obtain ⟨j, hj, rfl⟩ := List.getElem_of_mem hu
        exact (HN.out j (by have := HL.out; omega) hj).one
      intro v' w2 hO2 hG hnil
      clear hnil
      have hE2 : Ext w1 w2 := (Ext.refl w1).grown hG (by simp [Value.ownBlock])
      rw [HL.out] at hO2
      obtain ⟨a', c', rfl, hc', hK⟩ := nodes_copied HL.out HN.out hE2 hO2
      have HK := Lib.hid hK
      clear hO2 hG hK
      go_wp2_with fail
      go_ret2
      exact ⟨⟨_, rfl, by rw [NodeAt]; exact ⟨a', c', rfl, hc', HK.out⟩⟩, hE2⟩
    · go_enter Tryz.func141, Tryz.ntmps141
      go_wp2_with fail
      refine (sn_some HS.out _).mono ?_
      rintro e w1 ⟨rfl, rfl⟩
      go_wp2_with (first
        | (at_builtin; refine wpList_append_own _ rfl _ _ 125 rfl w1.heap.size 78 i0 _ 1 16 underlying125 hi hz0 hz1 hz2 rfl (by decide) (.slice none 0 0) 0 [] rfl (World.ownsRow_nil _ _ _ _) ⟨b, o, none⟩ ks.length c vs rfl ?c0 ?c1 ?c2 ?c3 ?c4 (Nat.le_refl _) ?_)
        | go_in)
      case c0 => have := HL.out; omega
      case c3 => unfold maxLen; omega
      case c4 => omega
      case c1 => intro j u hu; rw [addr_add]; exact hcell j u hu
      case c2 =>
        intro u hu
        obtain ⟨j, hj, rfl⟩ := List.getElem_of_mem hu
        exact (HN.out j (by have := HL.out; omega) hj).one
      intro v' w2 hO2 hG hnil
      clear hnil
      have hE2 : Ext w1 w2 := (Ext.refl w1).grown hG (by simp [Value.ownBlock])
      rw [HL.out] at hO2
      obtain ⟨a', c', rfl, hc', hK⟩ := nodes_copied HL.out HN.out hE2 hO2
      have HK := Lib.hid hK
      clear hO2 hG hK
      go_wp2_with fail
      go_ret2
      exact ⟨⟨_, rfl, by rw [NodeAt]; exact ⟨a', c', rfl, hc', HK.out⟩⟩, hE2⟩
set_option maxRecDepth 100000 in
set_option maxHeartbeats 2000000 in
theorem populate_list {X : Nat → Prop} {w : World} {a : Option Addr} {c n : Nat} (al : Bool) (nm : ByteArray)  (h : structNodes nm = some n) (hok : al = true ∨ typeInfo nm = false) (p q : PN) (hK : ValsAt X w a [p, q]) (hc : 2 ≤ c) (h1 : (nm.toList == [76, 105, 115, 116]) = true) (hn : n = 2) :
    Calls Tryz.prog 141 #[.string nm, .slice a 2 c, .bool al] w fun e w' => PopR (fun b => X b ∨ w.heap.size ≤ b) w' e (some (.list p q)) ∧ Ext w w' := by
  obtain rfl := beq_lit h1
  subst hn
  obtain ⟨vs, hl, hN, hcl⟩ := hK
  obtain ⟨b, o, rfl, hcell⟩ := hcl (by simp)
  obtain ⟨v0, v1, rfl⟩ : ∃ v0 v1, vs = [v0, v1] := by
    match vs, hl with
    | [x, y], _ => exact ⟨x, y, rfl⟩
  have c0 := hcell 0 v0 rfl
  have c1 := hcell 1 v1 rfl
  have hv0 := hN 0 (by simp) (by simp)
  have hv1 := hN 1 (by simp) (by simp)
  simp only [List.getElem_cons_zero, List.getElem_cons_succ] at hv0 hv1
  have H0 := Lib.hid hv0
  have H1 := Lib.hid hv1
  simp only [Nat.add_zero] at c0
  have hbl := cell_lt c0
  simp only at hbl
  clear hv0 hv1 hN hcl hcell hl
  have HS := Lib.hid h
  clear h
  rcases hok with rfl | ht
  · go_enter Tryz.func141, Tryz.ntmps141
    go_wp2_with fail
    refine (sn_some HS.out _).mono ?_
    rintro e w1 ⟨rfl, rfl⟩
    rcases H0.out.shape with rfl | ⟨t0, x0, rfl⟩ <;> rcases H1.out.shape with rfl | ⟨t1, x1, rfl⟩
    all_goals
      go_wp2_with fail
      go_quiet (fail)
      go_wp2_with fail
      go_ret2
      refine ⟨⟨_, rfl, ?_⟩, Ext.drewN _ _⟩
      rw [NodeAt]
      exact ⟨_, _, rfl, (H0.out.mono ((Ext.drewN _ _).keeps X)).imp (fun _ h _ => .inl h), (H1.out.mono ((Ext.drewN _ _).keeps X)).imp (fun _ h _ => .inl h)⟩
  · have HT := Lib.hid ht
    clear ht
    cases al
    · go_enter Tryz.func141, Tryz.ntmps141
      go_wp2_with fail
      refine (sn_some HS.out _).mono ?_
      rintro e w1 ⟨rfl, rfl⟩
      go_wp2_with fail
      refine (ti_calls HT.out _).mono ?_
      rintro e w1 ⟨rfl, rfl⟩
      rcases H0.out.shape with rfl | ⟨t0, x0, rfl⟩ <;> rcases H1.out.shape with rfl | ⟨t1, x1, rfl⟩
      all_goals
        go_wp2_with fail
        go_quiet (fail)
        go_wp2_with fail
        go_ret2
        refine ⟨⟨_, rfl, ?_⟩, Ext.drewN _ _⟩
        rw [NodeAt]
        exact ⟨_, _, rfl, (H0.out.mono ((Ext.drewN _ _).keeps X)).imp (fun _ h _ => .inl h), (H1.out.mono ((Ext.drewN _ _).keeps X)).imp (fun _ h _ => .inl h)⟩
    · go_enter Tryz.func141, Tryz.ntmps141
      go_wp2_with fail
      refine (sn_some HS.out _).mono ?_
      rintro e w1 ⟨rfl, rfl⟩
      rcases H0.out.shape with rfl | ⟨t0, x0, rfl⟩ <;> rcases H1.out.shape with rfl | ⟨t1, x1, rfl⟩
      all_goals
        go_wp2_with fail
        go_quiet (fail)
        go_wp2_with fail
        go_ret2
        refine ⟨⟨_, rfl, ?_⟩, Ext.drewN _ _⟩
        rw [NodeAt]
        exact ⟨_, _, rfl, (H0.out.mono ((Ext.drewN _ _).keeps X)).imp (fun _ h _ => .inl h), (H1.out.mono ((Ext.drewN _ _).keeps X)).imp (fun _ h _ => .inl h)⟩
set_option maxRecDepth 100000 in
set_option maxHeartbeats 2000000 in
theorem populate_empty {X : Nat → Prop} {w : World} {a : Option Addr} {c n : Nat} (al : Bool) (nm : ByteArray)  (h : structNodes nm = some n) (hok : al = true ∨ typeInfo nm = false) (h1 : (nm.toList == [79, 114]) = false) (h3 : (nm.toList == [65, 110, 121]) = false) (h4 : (nm.toList == [76, 105, 115, 116]) = false) (h5 : (nm.toList == [66, 105, 110, 100, 105, 110, 103]) = false) (hn : n = 0) :
    Calls Tryz.prog 141 #[.string nm, .slice none 0 0, .bool al] w fun e w' => PopR (fun b => X b ∨ w.heap.size ≤ b) w' e (some (.struct nm [])) ∧ Ext w w' := by
  subst hn
  have HS := Lib.hid h
  clear h
  rcases hok with rfl | ht
  · go_enter Tryz.func141, Tryz.ntmps141
    go_wp2_with fail
    refine (sn_some HS.out _).mono ?_
    rintro e w1 ⟨rfl, rfl⟩
    go_wp2_with fail
    go_ret2
    refine ⟨⟨_, rfl, ?_⟩, Ext.refl _⟩
    rw [NodeAt]
    exact ⟨none, 0, rfl, Nat.le_refl _, by rw [NodesAt]; trivial⟩
  · have HT := Lib.hid ht
    clear ht
    cases al
    · go_enter Tryz.func141, Tryz.ntmps141
      go_wp2_with fail
      refine (sn_some HS.out _).mono ?_
      rintro e w1 ⟨rfl, rfl⟩
      go_wp2_with fail
      refine (ti_calls HT.out _).mono ?_
      rintro e w1 ⟨rfl, rfl⟩
      go_wp2_with fail
      go_ret2
      refine ⟨⟨_, rfl, ?_⟩, Ext.refl _⟩
      rw [NodeAt]
      exact ⟨none, 0, rfl, Nat.le_refl _, by rw [NodesAt]; trivial⟩
    · go_enter Tryz.func141, Tryz.ntmps141
      go_wp2_with fail
      refine (sn_some HS.out _).mono ?_
      rintro e w1 ⟨rfl, rfl⟩
      go_wp2_with fail
      go_ret2
      refine ⟨⟨_, rfl, ?_⟩, Ext.refl _⟩
      rw [NodeAt]
      exact ⟨none, 0, rfl, Nat.le_refl _, by rw [NodesAt]; trivial⟩
/-- Names of which nothing is said here. -/
def said (nm : ByteArray) (ks : List PN) : Bool := !(nm.toList == [66, 105, 110, 100, 105, 110, 103]) && !(nm.toList == [79, 114] && ks.length == 0)
theorem populate_calls {X : Nat → Prop} {w : World} {a : Option Addr} {c : Nat} (al : Bool) (nm : ByteArray) (ks : List PN) (hs : said nm ks = true) (hK : ValsAt X w a ks) (hc : ks.length ≤ c) (he : ks = [] → a = none ∧ c = 0) (hk : ks.length ≤ 100000) :
    Calls Tryz.prog 141 #[.string nm, .slice a ks.length c, .bool al] w fun e w' => PopR (fun b => X b ∨ w.heap.size ≤ b) w' e (populate al nm ks) ∧ Ext w w' := by
  simp only [said, Bool.and_eq_true, Bool.not_eq_true'] at hs
  obtain ⟨hb, ho⟩ := hs
  cases hn : structNodes nm with
  | none => rw [show populate al nm ks = none by unfold populate; rw [hn]]; exact populate_none al nm ks hn
  | some n =>
    cases hi : (!al && typeInfo nm)
    · have hok : al = true ∨ typeInfo nm = false := by cases al <;> simp at hi <;> simp [hi]
      cases h1 : (nm.toList == [79, 114])
      · cases h2 : (ks.length == n)
        · rw [show populate al nm ks = none by unfold populate; rw [hn]; simp only [hi, h1, bne, h2]; rfl]
          exact populate_len al nm ks hn hok h1 h2 hk
        · cases h3 : (nm.toList == [65, 110, 121])
          · cases h4 : (nm.toList == [76, 105, 115, 116])
            · rw [show populate al nm ks = some (.struct nm ks) by unfold populate; rw [hn]; simp only [hi, h1, bne, h2, h3, h4]; rfl]
              by_cases hne : ks = []
              · subst hne
                obtain ⟨rfl, rfl⟩ := he rfl
                exact populate_empty (a := none) (c := 0) al nm hn hok h1 h3 h4 hb (by simpa using (eq_of_beq h2).symm)
              · exact populate_struct al nm ks hn hok hne hK hc h1 h3 h4 hb h2 hk
            · obtain rfl := beq_lit h4
              have h2n : n = 2 := by
                have : structNodes ⟨#[76, 105, 115, 116]⟩ = some 2 := by decide +kernel
                rw [this] at hn; exact (Option.some.inj hn).symm
              subst h2n
              match ks, h2, hK, hc with
              | [p, q], _, hK, hc =>
                rw [show populate al ⟨#[76, 105, 115, 116]⟩ [p, q] = some (.list p q) by unfold populate; rw [hn]; simp only [hi, h1, h3, toList_mk]; rfl]
                exact populate_list al _ hn hok p q hK hc (by rw [toList_mk]; rfl) rfl
          · rw [show populate al nm ks = some .any by unfold populate; rw [hn]; simp only [hi, h1, bne, h2, h3]; rfl]
            exact populate_any al nm ks hn hok h3 h2 hk
      · rw [show populate al nm ks = some (.or ks) by unfold populate; rw [hn]; simp only [hi, h1]; rfl]
        have hne : ks ≠ [] := by rintro rfl; rw [h1] at ho; cases ho
        exact populate_or al nm ks hn hok hne hK hc h1 hk
    · rw [show populate al nm ks = none by unfold populate; rw [hn]; simp only [hi]; rfl]
      have : al = false ∧ typeInfo nm = true := by simpa using hi
      obtain ⟨rfl, ht⟩ := this
      exact populate_info nm ks hn ht
set_option maxRecDepth 100000 in
set_option maxHeartbeats 2000000 in
theorem populateM_calls {X : Nat → Prop} {pb hi : Nat} {al fl : Bool} {cur : Item} {S : List Item} {mp : Option Nat} {names : List (List UInt8)} {w : World} {a : Option Addr} {c : Nat} (hP : PSt w pb hi al fl cur S mp names) (nm : ByteArray) (ks : List PN) (hs : said nm ks = true) (hK : ValsAt X w a ks) (hc : ks.length ≤ c) (he : ks = [] → a = none ∧ c = 0) (hk : ks.length ≤ 100000) :
    Calls Tryz.prog 114 #[.pointer (some ⟨pb, 0, none⟩), .string nm, .slice a ks.length c] w fun e w' => PopR (fun b => X b ∨ w.heap.size ≤ b) w' e (populate al nm ks) ∧ Ext w w' := by
  obtain ⟨p0, -, hf⟩ := hP.1.cell
  have HC := Lib.hid (populate_calls (w := w) al nm ks hs hK hc he hk)
  clear hP hs hK hc he
  generalize populate al nm ks = r at HC ⊢
  go_enter Tryz.func114, Tryz.ntmps114
  go_wp2_with fail
  refine HC.out.mono ?_
  rintro e w1 ⟨hr, hE⟩
  cases r with
  | none =>
    obtain ⟨v, p, rfl⟩ := hr
    go_wp2_with fail
    go_ret2
    exact ⟨⟨v, p, rfl⟩, hE⟩
  | some n =>
    obtain ⟨v, rfl, hv⟩ := hr
    have HV := Lib.hid hv
    clear hv
    go_wp2_with fail
    go_ret2
    exact ⟨⟨v, rfl, HV.out⟩, hE⟩
end Go.Proofs.YtigalkobmfbdaaaGreatDoor
