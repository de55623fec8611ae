/- A run of code without loops and calls, by evaluation: what the evaluator answers, the code does. For the functions that are one switch over a text. -/
import Derived.Test.YtigalkobmfbdaaaGreatDoorBaseZ1
namespace Go.Proofs.YtigalkobmfbdaaaGreatDoor
open Go.RowKit
/-- What a test has told of its slot. -/
def know (a : Act) (x : Operand) (b : Bool) : Act :=
  match x with
  | .tmp t => a.put (some t) (.bool b)
  | _ => a
theorem know_same {a : Act} {x : Operand} {b : Bool} (h : a.eval x = .bool b) : know a x b = a := by
  cases x with
  | tmp t =>
    have ht : t < a.tmps.size := by
      rcases Nat.lt_or_ge t a.tmps.size with h1 | h1
      · exact h1
      · simp [Act.eval, Array.getElem?_eq_none h1, undef] at h
    have e : a.tmps[t] = .bool b := by simpa [Act.eval, Array.getD_eq_getD_getElem?, Array.getElem?_eq_getElem ht] using h
    have hs : a.tmps.setIfInBounds t (.bool b) = a.tmps := by
      refine Array.ext_getElem? fun i => ?_
      rw [Array.getElem?_setIfInBounds]
      split
      · rename_i hi; subst hi; simp [Array.getElem?_eq_getElem ht, e]
      · rfl
    show Act.mk (a.tmps.setIfInBounds t (.bool b)) a.defers = a
    rw [hs]
  | _ => rfl
section
variable {R : Type} (P : Program)
/-- One operation after the other. -/
def opsK (ops : Array Oper) : List Oper → Act → World → (Act → World → Option R) → Option R
  | [], a, w, K => K a w
  | o :: rest, a, w, K =>
    bif Region.wanted o (yielded ops a.tmps) then
      match (execOp a.eval o).run P w with
      | .ok (.value v) w' => opsK ops rest (a.put o.dst v) w' K
      | .ok .skip w' => opsK ops rest (a.put o.dst undef) w' K
      | _ => none
    else opsK ops rest (a.put o.dst undef) w K
/-- A piece of code. -/
def runK : Code → Act → World → (Exit → Act → World → Option R) → Option R
  | .skip, a, w, K => K .normal a w
  | .seq c d, a, w, K => runK c a w fun e a w => match e with
    | .normal => runK d a w K
    | e => K e a w
  | .cond x c d, a, w, K => match a.eval x with
    | .bool b => bif b then runK c (know a x true) w K else runK d (know a x false) w K
    | _ => none
  | .block id c, a, w, K => runK c a w fun e a w => match e with
    | .exit j => if j = id then K .normal a w else K (.exit j) a w
    | e => K e a w
  | .ret, a, w, K => K .ret a w
  | .exit id, a, w, K => K (.exit id) a w
  | .region _ ops false, a, w, K => opsK P ops ops.toList a w fun a w => K .normal a w
  | _, _, _, _ => none
end
section
variable {R : Type} {P : Program}
theorem opsK_sound {ops : Array Oper} {Q : Exit → Act → World → Prop} {r : R} : ∀ (l : List Oper) (a : Act) (w : World) (K : Act → World → Option R),
    opsK P ops l a w K = some r → (∀ a w, K a w = some r → Q .normal a w) → wpList P ops Q l a w
  | [], a, w, K, h, hq => hq a w h
  | o :: rest, a, w, K, h, hq => by
    simp only [opsK] at h
    unfold wpList
    split
    · rename_i hw
      rw [hw, cond_true] at h
      refine .inl ?_
      unfold Oper.wp
      split at h
      · rename_i hr; rw [hr]; exact opsK_sound rest _ _ K h hq
      · rename_i hr; rw [hr]; exact opsK_sound rest _ _ K h hq
      · cases h
    · rename_i hw
      rw [Bool.not_eq_true] at hw
      rw [hw, cond_false] at h
      exact opsK_sound rest _ _ K h hq
theorem runK_sound {r : R} : ∀ (c : Code) (a : Act) (w : World) (K : Exit → Act → World → Option R) (Q : Exit → Act → World → Prop),
    runK P c a w K = some r → (∀ e a w, K e a w = some r → Q e a w) → c.wp P Q a w
  | .skip, a, w, K, Q, h, hq => wp_skip (hq _ _ _ h)
  | .seq c d, a, w, K, Q, h, hq => wp_seq (runK_sound c a w _ _ h fun e a w he => by
      cases e with
      | normal => exact runK_sound d a w K Q he hq
      | _ => exact hq _ _ _ he)
  | .cond x c d, a, w, K, Q, h, hq => by
    simp only [runK] at h
    split at h
    · rename_i b hb
      refine wp_cond hb ?_
      cases b
      · rw [cond_false, know_same hb] at h; exact runK_sound d a w K Q h hq
      · rw [cond_true, know_same hb] at h; exact runK_sound c a w K Q h hq
    · cases h
  | .block id c, a, w, K, Q, h, hq => wp_block (runK_sound c a w _ _ h fun e a w he => by
      cases e with
      | exit j =>
        simp only at he
        unfold Exit.inBlock
        split at he
        · rename_i hj; simp only [hj, if_true]; exact hq _ _ _ he
        · rename_i hj; simp only [hj, if_false]; exact hq _ _ _ he
      | _ => exact hq _ _ _ he)
  | .ret, a, w, K, Q, h, hq => wp_ret (hq _ _ _ h)
  | .exit id, a, w, K, Q, h, hq => wp_exit (hq _ _ _ h)
  | .region id ops false, a, w, K, Q, h, hq => wp_region_list (opsK_sound ops.toList a w _ h fun a w he => hq _ _ _ he)
  | .region id ops true, _, _, _, _, h, _ => by simp [runK] at h
  | .loop _, _, _, _, _, h, _ => by simp [runK] at h
  | .rangeFunc .., _, _, _, _, h, _ => by simp [runK] at h
  | .scope _, _, _, _, _, h, _ => by simp [runK] at h
  | .label _, _, _, _, _, h, _ => by simp [runK] at h
  | .goto _, _, _, _, _, h, _ => by simp [runK] at h
  | .refuse _, _, _, _, _, h, _ => by simp [runK] at h
/-- The results that lie in temporaries. -/
def resK (rs : List ResultVar) (tmps : Array Value) : Option Value :=
  match rs with
  | [.tmp t] => some (tmps.getD t undef)
  | [.tmp t, .tmp u] => some (.tuple #[tmps.getD t undef, tmps.getD u undef])
  | _ => none
theorem resK_sound {fn : Func} {tmps : Array Value} {v : Value} (h : resK fn.results.toList tmps = some v) (w : World) : (results fn tmps).run P w = .ok v w := by
  unfold resK at h
  split at h
  · rename_i t he
    have e : fn.results = #[.tmp t] := by rw [← Array.toArray_toList (xs := fn.results), he]
    injection h with h
    rw [← h]
    exact results_tmp e tmps P w
  · rename_i t u he
    have e : fn.results = #[.tmp t, .tmp u] := by rw [← Array.toArray_toList (xs := fn.results), he]
    injection h with h
    rw [← h]
    exact results_tmp2 e tmps P w
  · cases h
/-- A call's answer and the world behind it. -/
def callK (P : Program) (fn : Func) (args : Array Value) (w : World) : Option (Value × World) :=
  match fn.body with
  | none => none
  | some c => runK P c { tmps := args ++ Array.replicate (fn.ntmps - args.size) undef, defers := [] } w fun e a w =>
    match e, a.defers with
    | .ret, [] => (resK fn.results.toList a.tmps).map fun v => (v, w)
    | _, _ => none
theorem callK_sound {f : FuncId} {fn : Func} {args : Array Value} {w w1 : World} {v : Value} (hf : P.funcs[f]? = some fn)
    (h : callK P fn args w = some (v, w1)) : Calls P f args w fun e w' => e = .returned v ∧ w1 = w' := by
  unfold callK at h
  cases hb : fn.body with
  | none => rw [hb] at h; cases h
  | some c =>
    rw [hb] at h
    refine calls_of_wp hf hb (runK_sound c _ w _ _ h fun e a w' he => ?_)
    split at he
    · rename_i hd
      simp only [Option.map_eq_some_iff, Prod.mk.injEq] at he
      obtain ⟨v', hr, rfl, rfl⟩ := he
      exact ⟨hd, v', resK_sound hr w', rfl, rfl⟩
    · cases he
end
end Go.Proofs.YtigalkobmfbdaaaGreatDoor
