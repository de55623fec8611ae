/- Sets of places below 64 in one number: a place is set, a place is asked for. -/
import Derived.Laws.Entries
set_option linter.unusedVariables false
set_option linter.unusedSimpArgs false
namespace Go.Proofs.YtigalkobmfbdaaaGreatDoor
theorem wrap_pow (i : Nat) (h : i < 64) : IntKind.u64.wrap (1 * 2 ^ i)=((BitVec.twoPow 64 i).toNat : Int):=by
 have h2 : (2 : Nat) ^ i < 2 ^ 64:=Nat.pow_lt_pow_right (by decide) h
 rw [BitVec.toNat_twoPow,Nat.mod_eq_of_lt h2]
 unfold IntKind.wrap
 have hb : IntKind.u64.bits=64:=rfl
 have hs : IntKind.u64.signed=false:=rfl
 rw [hb,hs]
 simp only [Bool.false_and,Bool.false_eq_true,if_false,Int.one_mul]
 rw [show ((2 : Int) ^ i)=(((2 : Nat) ^ i : Nat) : Int) by simp]
 rw [show ((2 : Int) ^ 64)=(((2 : Nat) ^ 64 : Nat) : Int) by simp]
 rw [<- Int.natCast_emod,Nat.mod_eq_of_lt h2]
theorem ofInt_back (T : BitVec 64) : BitVec.ofInt 64 (T.toNat : Int)=T:=by
 rw [BitVec.ofInt_natCast,BitVec.ofNat_toNat,BitVec.setWidth_eq]
theorem wrap_back (T : BitVec 64) : IntKind.u64.wrap (T.toNat : Int)=(T.toNat : Int):=by
 have h2:=T.isLt
 unfold IntKind.wrap
 have hb : IntKind.u64.bits=64:=rfl
 have hs : IntKind.u64.signed=false:=rfl
 rw [hb,hs]
 simp only [Bool.false_and,Bool.false_eq_true,if_false]
 rw [show ((2 : Int) ^ 64)=(((2 : Nat) ^ 64 : Nat) : Int) by simp]
 rw [<- Int.natCast_emod,Nat.mod_eq_of_lt h2]
theorem bits_or (T U : BitVec 64) : bits .or .u64 (T.toNat : Int) (U.toNat : Int)=((T ||| U).toNat : Int):=by
 have h : bits .or .u64 (T.toNat : Int) (U.toNat : Int)=IntKind.u64.wrap ((BitVec.ofInt 64 (T.toNat : Int) ||| BitVec.ofInt 64 (U.toNat : Int)).toNat : Int):=rfl
 rw [h,ofInt_back,ofInt_back,wrap_back]
theorem bits_and (T U : BitVec 64) : bits .and .u64 (T.toNat : Int) (U.toNat : Int)=((T &&& U).toNat : Int):=by
 have h : bits .and .u64 (T.toNat : Int) (U.toNat : Int)=IntKind.u64.wrap ((BitVec.ofInt 64 (T.toNat : Int) &&& BitVec.ofInt 64 (U.toNat : Int)).toNat : Int):=rfl
 rw [h,ofInt_back,ofInt_back,wrap_back]
theorem or_set (T : BitVec 64) (i : Nat) (h : i < 64) : bits .or .u64 (T.toNat : Int) (IntKind.u64.wrap (1 * 2 ^ i))=((T ||| BitVec.twoPow 64 i).toNat : Int):=by
 rw [wrap_pow i h,bits_or]
theorem get_set (T : BitVec 64) (i j : Nat) (h : i < 64) (hj : j < 64) : (T ||| BitVec.twoPow 64 i).getLsbD j=(T.getLsbD j || j == i):=by
 rw [BitVec.getLsbD_or,BitVec.getLsbD_twoPow]
 congr 1
 simp [h]
 by_cases e : i=j
 ·subst e;simp
 ·rw [decide_eq_false e]
  exact (beq_eq_false_iff_ne.2 (fun h=>e h.symm)).symm
theorem and_get (T : BitVec 64) (i : Nat) (h : i < 64) : (bits .and .u64 (T.toNat : Int) (IntKind.u64.wrap (1 * 2 ^ i)) != 0)=T.getLsbD i:=by
 rw [wrap_pow i h,bits_and,BitVec.and_twoPow]
 cases hb : T.getLsbD i with
 | false=>simp
 | true =>
  have h2 : (2 : Nat) ^ i < 2 ^ 64:=Nat.pow_lt_pow_right (by decide) h
  rw [if_pos rfl,BitVec.toNat_twoPow,Nat.mod_eq_of_lt h2]
  have h3 : 0 < 2 ^ i:=Nat.two_pow_pos i
  generalize 2 ^ i=q at *
  have h4 : ((q : Nat) : Int) ≠ 0:=by omega
  exact bne_iff_ne.2 h4
end Go.Proofs.YtigalkobmfbdaaaGreatDoor
