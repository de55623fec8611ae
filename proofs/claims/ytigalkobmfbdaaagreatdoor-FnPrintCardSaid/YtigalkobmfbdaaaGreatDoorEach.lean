/- A region that draws its order: each operation by itself, the last one behind all others. What an operation yields may hang on the world (an address), as long as it is told by a property that outlasts what the others do. Nothing here is about one function. -/
import Derived.Test.YtigalkobmfbdaaaGreatDoorBase
set_option linter.unusedVariables false
set_option linter.unusedSimpArgs false
namespace Go.Proofs.YtigalkobmfbdaaaGreatDoor
open Go.RowKit
def putO (o : Oper) (v : Option Value) (a : Act) : Act := match v with
  | some v => a.put o.dst v
  | none => a
/-- What operations have put so far. -/
def putL : List Oper → List (Option Value) → Act → Act
  | o :: l, v :: vs, a => putL l vs (putO o v a)
  | _, _, a => a
def dsts (l : List Oper) : List Tmp := l.filterMap (·.dst)
theorem putO_comm {o : Oper} {v : Option Value} {a : Act} {d : Option Tmp} {u : Value} (h : ∀ t, d = some t → o.dst ≠ some t) : (putO o v a).put d u = putO o v (a.put d u) := by
  cases v with
  | none => rfl
  | some v => exact (Act.put_comm a u v h).symm
theorem putL_comm : ∀ {l : List Oper} {vs : List (Option Value)} {a : Act} {d : Option Tmp} {u : Value} (_ : ∀ t, d = some t → t ∉ dsts l), (putL l vs a).put d u = putL l vs (a.put d u)
  | [], vs, a, d, u, _ => by cases vs <;> rfl
  | o :: l, [], a, d, u, _ => rfl
  | o :: l, v :: vs, a, d, u, h => by
    rw [putL, putL, putL_comm, putO_comm]
    · intro t ht e
      exact h t ht (by simp [dsts, e])
    · intro t ht hm
      refine h t ht ?_
      unfold dsts at *
      rw [List.filterMap_cons]
      split
      · exact hm
      · exact List.mem_cons_of_mem _ hm
theorem putL_set : ∀ {l : List Oper} {vs : List (Option Value)} {a : Act} {i : Nat} {o : Oper} {v : Value} (_ : (dsts l).Nodup) (_ : l[i]? = some o) (_ : vs[i]? = some none), (putL l vs a).put o.dst v = putL l (vs.set i (some v)) a
  | [], vs, a, i, o, v, hd, ho, hv => by simp at ho
  | p :: l, [], a, i, o, v, hd, ho, hv => by simp at hv
  | p :: l, u :: vs, a, 0, o, v, hd, ho, hv => by
    simp at ho hv
    subst ho; subst hv
    rw [List.set_cons_zero, putL, putL, putL_comm]
    · rfl
    · intro t ht hm
      unfold dsts at hd hm
      rw [List.filterMap_cons, ht] at hd
      exact (List.nodup_cons.1 hd).1 hm
  | p :: l, u :: vs, a, i + 1, o, v, hd, ho, hv => by
    rw [List.set_cons_succ, putL, putL]
    refine putL_set ?_ (by simpa using ho) (by simpa using hv)
    unfold dsts at *
    rw [List.filterMap_cons] at hd
    split at hd
    · exact hd
    · exact (List.nodup_cons.1 hd).2
theorem put_eval_ne (a : Act) {d : Option Tmp} {t : Tmp} (v : Value) (h : d ≠ some t) : (a.put d v).eval (.tmp t) = a.eval (.tmp t) := by
  cases d with
  | none => rfl
  | some d =>
    have : d ≠ t := fun e => h (by rw [e])
    simp [Act.put, Act.eval, Array.getElem?_setIfInBounds, this]
theorem putL_eval_ne : ∀ {l : List Oper} {vs : List (Option Value)} {a : Act} {t : Tmp} (_ : t ∉ dsts l), (putL l vs a).eval (.tmp t) = a.eval (.tmp t)
  | [], vs, a, t, _ => by cases vs <;> rfl
  | o :: l, [], a, t, _ => rfl
  | o :: l, v :: vs, a, t, h => by
    unfold dsts at h
    rw [List.filterMap_cons] at h
    rw [putL, putL_eval_ne]
    · cases v with
      | none => rfl
      | some v =>
        refine put_eval_ne _ _ ?_
        intro e
        rw [e] at h
        simp at h
    · unfold dsts
      split at h
      · exact h
      · exact fun hm => h (List.mem_cons_of_mem _ hm)
theorem putO_size (o : Oper) (v : Option Value) (a : Act) : (putO o v a).tmps.size = a.tmps.size := by
  cases v with
  | none => rfl
  | some v => cases hd : o.dst <;> simp [putO, Act.put, hd]
theorem putL_size : ∀ (l : List Oper) (vs : List (Option Value)) (a : Act), (putL l vs a).tmps.size = a.tmps.size
  | [], vs, a => by cases vs <;> rfl
  | o :: l, [], a => rfl
  | o :: l, v :: vs, a => by rw [putL, putL_size, putO_size]
theorem putL_defers : ∀ (l : List Oper) (vs : List (Option Value)) (a : Act), (putL l vs a).defers = a.defers
  | [], vs, a => by cases vs <;> rfl
  | o :: l, [], a => rfl
  | o :: l, v :: vs, a => by
    rw [putL, putL_defers]
    cases v with
    | none => rfl
    | some v => cases hd : o.dst <;> simp [putO, Act.put, hd]
theorem putL_eval : ∀ {l : List Oper} {vs : List (Option Value)} {a : Act} {i : Nat} {o : Oper} {v : Value} {t : Tmp} (_ : (dsts l).Nodup) (_ : l[i]? = some o) (_ : vs[i]? = some (some v)) (_ : o.dst = some t) (_ : t < a.tmps.size), (putL l vs a).eval (.tmp t) = v
  | [], vs, a, i, o, v, t, hd, ho, hv, ht, hs => by simp at ho
  | p :: l, [], a, i, o, v, t, hd, ho, hv, ht, hs => by simp at hv
  | p :: l, u :: vs, a, 0, o, v, t, hd, ho, hv, ht, hs => by
    simp at ho hv
    subst ho; subst hv
    rw [putL, putL_eval_ne]
    · simp [putO, Act.put, ht, Act.eval, hs]
    · unfold dsts at hd
      rw [List.filterMap_cons, ht] at hd
      exact (List.nodup_cons.1 hd).1
  | p :: l, u :: vs, a, i + 1, o, v, t, hd, ho, hv, ht, hs => by
    rw [putL]
    refine putL_eval ?_ (by simpa using ho) (by simpa using hv) ht (by rw [putO_size]; exact hs)
    unfold dsts at *
    rw [List.filterMap_cons] at hd
    split at hd
    · exact hd
    · exact (List.nodup_cons.1 hd).2
/-- Which operations are listed. -/
def listedL (vs : List (Option Value)) : Array Bool := (vs.map Option.isSome ++ [false]).toArray
theorem listedL_get {vs : List (Option Value)} {i : Nat} (h : i < vs.length) (d : Bool) : (listedL vs).getD i d = (vs[i]).isSome := by
  simp [listedL, List.getElem?_append_left, h]
theorem listedL_last (vs : List (Option Value)) (d : Bool) : (listedL vs).getD vs.length d = false := by
  simp [listedL]
theorem listedL_set {vs : List (Option Value)} {i : Nat} (h : i < vs.length) (v : Value) : (listedL vs).setIfInBounds i true = listedL (vs.set i (some v)) := by
  unfold listedL
  rw [List.setIfInBounds_toArray, List.set_append_left _ _ (by simpa using h), List.map_set]
  rfl
/-- What each operation of the head has to show, wherever it comes up. -/
def EachOK (P : Program) (S : Nat → Value → World → Prop) (w0 : World) (a0 : Act) (l : List Oper) (Q : Exit → Act → World → Prop) (i : Nat) (o : Oper) : Prop :=
  ∀ (a : Act) (w : World), Ext w0 w → a.defers = a0.defers →
    (∀ e ∈ o.after, Region.binds .any e = true → ∀ oe, l[e.on]? = some oe → ∃ v, S e.on v w ∧ ∀ t, oe.dst = some t → a.eval (.tmp t) = v) →
    (∀ t, t ∉ dsts l → a.eval (.tmp t) = a0.eval (.tmp t)) →
    o.wp P a w (fun a' w' => ∃ v, a' = a.put o.dst v ∧ Ext w w' ∧ S i v w') Q
theorem wp_region_each {P : Program} {id : Nat} {Q : Exit → Act → World → Prop} {a0 : Act} {w : World} (S : Nat → Value → World → Prop) {l : List Oper} {z : Oper}
    (hm : P.follows .mixedOrders = true)
    (hg : ∀ o ∈ l ++ [z], o.guard = none)
    (hlow : ∀ (i : Nat) o, (l ++ [z])[i]? = some o → ∀ e ∈ o.after, e.on < i)
    (hd : (dsts l).Nodup) (hin : ∀ t ∈ dsts l, t < a0.tmps.size)
    (cover : ∀ on : Nat → Bool, (∀ (i : Nat) o, l[i]? = some o → on i = true → ∀ e ∈ o.after, Region.binds .any e = true → on e.on = true) → (∀ e ∈ z.after, Region.binds .any e = true → on e.on = true) → ∀ i, i < l.length → on i = true)
    (mono : ∀ i v w w', S i v w → Ext w w' → S i v w')
    (each : ∀ (i : Nat) o, l[i]? = some o → EachOK P S w.drew a0 l Q i o)
    (fin : ∀ (vs : List Value) (w' : World), vs.length = l.length → Ext w.drew w' → (∀ i v, vs[i]? = some v → S i v w') → z.wp P (putL l (vs.map some) a0) w' (fun a w => Q .normal a w) Q) :
    (Code.region id (l ++ [z]).toArray true).wp P Q a0 w := by
  have hz : ∀ o ∈ l ++ [z], ∀ y, Region.wanted o y = true := fun o ho y => by unfold Region.wanted; rw [hg o ho]
  -- the invariant, whatever has been listed of the head
  have key : ∀ (fuel : Nat) (vs : List (Option Value)) (w' : World), vs.length = l.length → vs.countP Option.isSome + fuel = l.length + 1 → Ext w.drew w' →
      (∀ i v, vs[i]? = some (some v) → S i v w') →
      (∀ (i : Nat) o, l[i]? = some o → (vs[i]?.getD none).isSome = true → ∀ e ∈ o.after, Region.binds .any e = true → (vs[e.on]?.getD none).isSome = true) →
      wpAny P .any (l ++ [z]).toArray Q fuel (listedL vs) (putL l vs a0) w' := by
    intro fuel
    induction fuel with
    | zero =>
      intro vs w' hl hc
      have := List.countP_le_length (p := Option.isSome) (l := vs)
      omega
    | succ fuel ih =>
      intro vs w' hl hc hE hS hdown
      have hget : ∀ j, (listedL vs).getD j false = (vs[j]?.getD none).isSome := by
        intro j
        by_cases hj : j < vs.length
        · rw [listedL_get hj]; simp [hj]
        · rw [List.getElem?_eq_none (by omega)]
          simp only [listedL]
          by_cases hj2 : j = vs.length
          · subst hj2; simp
          · simp [List.getElem?_append_right, show vs.length ≤ j by omega, show j - vs.length ≠ 0 by omega]
      refine ⟨fun h => ?_, fun i hi => ?_⟩
      · -- something is ready: the least that is not listed
        exfalso
        have least : ∀ n, n ≤ l.length → (∀ j, j < n → (vs[j]?.getD none).isSome = true) ∨ ∃ j, j < n ∧ (vs[j]?.getD none).isSome = false ∧ ∀ k, k < j → (vs[k]?.getD none).isSome = true := by
          intro n
          induction n with
          | zero => intro _; exact .inl fun j hj => by omega
          | succ n ihn =>
            intro hn
            rcases ihn (by omega) with h1 | ⟨j, h1, h2, h3⟩
            · cases hv : (vs[n]?.getD none).isSome with
              | true =>
                refine .inl fun j hj => ?_
                by_cases e : j = n
                · subst e; exact hv
                · exact h1 j (by omega)
              | false => exact .inr ⟨n, by omega, hv, h1⟩
            · exact .inr ⟨j, by omega, h2, h3⟩
        have hr : ∃ j, j ∈ Region.ready .any (l ++ [z]).toArray (listedL vs) := by
          rcases least l.length (Nat.le_refl _) with h1 | ⟨j, h1, h2, h3⟩
          · refine ⟨l.length, mem_ready.2 ⟨by rw [← hl]; exact listedL_last vs true, z, by simp, fun e he _ => ?_⟩⟩
            rw [hget]
            exact h1 _ (by have := hlow l.length z (by simp) e he; omega)
          · refine ⟨j, mem_ready.2 ⟨?_, l[j], ?_, fun e he _ => ?_⟩⟩
            · rw [listedL_get (by omega)]
              simpa [show j < vs.length by omega] using h2
            · simp [List.getElem?_append_left, h1]
            · rw [hget]
              exact h3 _ (hlow j l[j] (by simp [List.getElem?_append_left, h1]) e he)
        obtain ⟨j, hj⟩ := hr
        rw [h] at hj; cases hj
      · obtain ⟨h1, o, h2, h3⟩ := mem_ready.1 hi
        have ho : o ∈ l ++ [z] := by
          rw [List.getElem?_toArray] at h2
          exact List.mem_of_getElem? h2
        rw [List.getElem?_toArray] at h2
        unfold wpOp
        rw [List.getElem?_toArray, h2]
        simp only
        rw [if_pos (hz o ho _)]
        left
        by_cases hil : i < l.length
        · have h2' : l[i]? = some o := by rw [List.getElem?_append_left hil] at h2; exact h2
          have hvi : vs[i]? = some none := by
            rw [listedL_get (by omega)] at h1
            rw [List.getElem?_eq_getElem (by omega)]
            cases hv : vs[i] with
            | none => rfl
            | some v => rw [hv] at h1; cases h1
          refine Oper.wp_mono ?_ (each i o h2' (putL l vs a0) w' hE (putL_defers _ _ _) ?_ (fun t ht => putL_eval_ne ht))
          · rintro a' w2 ⟨v, rfl, hE2, hSv⟩
            rw [putL_set hd h2' hvi, listedL_set (by omega)]
            refine ih _ w2 (by simpa using hl) ?_ (hE.trans hE2) ?_ ?_
            · have hiv : i < vs.length := by omega
              have e1 : vs[i] = none := by rw [List.getElem?_eq_getElem hiv] at hvi; exact Option.some.inj hvi
              rw [List.countP_set hiv, e1]
              simp
              omega
            · intro j u hj
              by_cases e : i = j
              · subst e
                rw [List.getElem?_set_self (by omega)] at hj
                cases hj; exact hSv
              · rw [List.getElem?_set_ne e] at hj
                exact mono _ _ _ _ (hS j u hj) hE2
            · intro j p hp hj e he hb
              by_cases eji : i = j
              · subst eji
                rw [h2'] at hp; cases hp
                have := h3 e he hb
                rw [hget] at this
                by_cases e2 : i = e.on
                · rw [← e2, List.getElem?_set_self (by omega)]; rfl
                · rw [List.getElem?_set_ne e2]; exact this
              · rw [List.getElem?_set_ne eji] at hj
                have := hdown j p hp hj e he hb
                by_cases e2 : i = e.on
                · rw [← e2, List.getElem?_set_self (by omega)]; rfl
                · rw [List.getElem?_set_ne e2]; exact this
          · intro e he hb oe hoe
            have := h3 e he hb
            rw [hget] at this
            have hlt : e.on < vs.length := by have := (List.getElem?_eq_some_iff.1 hoe).1; omega
            rw [List.getElem?_eq_getElem hlt] at this
            cases hv : vs[e.on] with
            | none => rw [hv] at this; cases this
            | some v =>
              have hve : vs[e.on]? = some (some v) := by rw [List.getElem?_eq_getElem hlt, hv]
              refine ⟨v, hS _ _ hve, fun t ht => putL_eval hd hoe hve ht (hin t ?_)⟩
              unfold dsts
              rw [List.mem_filterMap]
              exact ⟨oe, List.mem_of_getElem? hoe, ht⟩
        · -- the last one
          have hin' : i = l.length := by
            have := (List.getElem?_eq_some_iff.1 h2).1
            simp at this; omega
          subst hin'
          have : z = o := by simpa using h2
          subst this
          have hall := cover (fun j => (vs[j]?.getD none).isSome) hdown (fun e he hb => by rw [← hget]; exact h3 e he hb)
          obtain ⟨us, rfl⟩ : ∃ us : List Value, vs = us.map some := by
            refine ⟨vs.map fun v => v.getD undef, ?_⟩
            rw [List.map_map]
            refine List.ext_getElem (by simp) fun j q1 q2 => ?_
            have := hall j (by omega)
            simp only [q1, List.getElem?_eq_getElem, Option.getD_some] at this
            simp
            cases hv : vs[j] with
            | none => rw [hv] at this; cases this
            | some v => simp
          refine Oper.wp_mono ?_ (fin us w' (by simpa using hl) hE (fun j v hj => hS j v (by simp [hj])))
          intro a' w2 hQ
          have hcount : (us.map some).countP Option.isSome = us.length := by
            rw [List.countP_map]; simp [Function.comp_def]
          have hf : fuel = 0 := by
            rw [hcount] at hc
            simp at hl
            omega
          subst hf
          refine ⟨?_, hQ⟩
          rw [List.eq_nil_iff_forall_not_mem]
          intro j hj
          obtain ⟨q1, p, q2, -⟩ := mem_ready.1 hj
          rw [List.getElem?_toArray] at q2
          have hjl := (List.getElem?_eq_some_iff.1 q2).1
          simp at hjl hl
          by_cases e : j = l.length
          · subst e
            simp [listedL, hl] at q1
          · rw [getD_set_ne true (Ne.symm e), listedL_get (by simp; omega)] at q1
            simp at q1
  refine wp_region_any hm ?_
  have hsz : (l ++ [z]).toArray.size = l.length + 1 := by simp
  have h0 : (Array.replicate (l ++ [z]).toArray.size false) = listedL (List.replicate l.length none) := by
    rw [hsz]
    unfold listedL
    apply Array.ext'
    simp [List.replicate_succ', List.map_replicate]
  have hput : ∀ (l : List Oper) (a : Act), putL l (List.replicate l.length none) a = a := by
    intro l
    induction l with
    | nil => intro a; rfl
    | cons o l ih => intro a; rw [List.length_cons, List.replicate_succ, putL]; exact ih a
  have := key (l.length + 1) (List.replicate l.length none) w.drew (by simp) (by rw [List.countP_replicate]; simp) (Ext.refl _) (fun i v h => by simp [List.getElem?_replicate] at h) (fun i o _ h => by
    simp [List.getElem?_replicate] at h
    split at h <;> simp at h)
  rw [hput] at this
  rw [h0, hsz]
  exact this
end Go.Proofs.YtigalkobmfbdaaaGreatDoor
