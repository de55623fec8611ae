/- How many nodes a pattern has, and the small guards of the statements: nodes, Nodes, zzFits1, first, written. -/
import Derived.Test.YtigalkobmfbdaaaGreatDoorGoodZ2
import Derived.Test.YtigalkobmfbdaaaGreatDoorMix2a
set_option linter.unusedVariables false
set_option linter.unusedSimpArgs false
set_option maxRecDepth 100000
set_option maxHeartbeats 1000000
namespace Go.Proofs.YtigalkobmfbdaaaGreatDoor
open Go.RowKit
mutual
def nodesF : Tree -> Int -> Int × Int
 | .mk _ _ ks,n=>((nodesL ks (0,n - 1)).1 + 1,(nodesL ks (0,n - 1)).2)
def nodesL : List Tree -> Int × Int -> Int × Int
 | [],s=>s
 | t :: ts,s=>if s.2 <= 0 then s else nodesL ts (max s.1 (nodesF t s.2).1,(nodesF t s.2).2)
end
theorem nodesF_eq (t : Tree) (n : Int) : nodesF t n=((nodesL t.kids (0,n - 1)).1 + 1,(nodesL t.kids (0,n - 1)).2):=by
 cases t;simp only [nodesF,Tree.kids]
theorem nodesL_bound (ts : List Tree) (ih : ∀ (j : Nat) (hj : j < ts.length) (n : Int),1 <= n -> 0 <= (nodesF ts[j] n).2 /\ 1 <= (nodesF ts[j] n).1 /\ (nodesF ts[j] n).1 + (nodesF ts[j] n).2 <= n) :
  ∀ (s : Int × Int) (N : Int),0 <= s.1 -> 0 <= s.2 -> s.1 + s.2 <= N -> 0 <= (nodesL ts s).1 /\ 0 <= (nodesL ts s).2 /\ (nodesL ts s).1 + (nodesL ts s).2 <= N:=by
 induction ts with
 | nil=>intro s N h1 h2 h3;simp only [nodesL];exact ⟨h1,h2,h3⟩
 | cons t ts iht =>
  intro s N h1 h2 h3
  unfold nodesL
  split
  ·exact ⟨h1,h2,h3⟩
  ·have:=ih 0 (by simp) s.2 (by omega)
   simp only [List.getElem_cons_zero] at this
   refine iht (fun j hj n hn=>?_) _ N (by omega) this.1 (by simp only;omega)
   have:=ih (j + 1) (by simpa using hj) n hn
   simpa using this
theorem nodesF_bound (t : Tree) : ∀ n : Int,1 <= n -> 0 <= (nodesF t n).2 /\ 1 <= (nodesF t n).1 /\ (nodesF t n).1 + (nodesF t n).2 <= n:=by
 induction t using Tree.ind with | h t ih=>?_
 intro n hn
 rw [nodesF_eq]
 have:=nodesL_bound t.kids ih (0,n - 1) (n - 1) (by simp) (by simp;omega) (by simp)
 simp only
 omega
theorem nodes_calls (t : Tree) : ∀ (a : Option Addr) (c : Nat) (n : Int) (lb : Nat) (w0 w : World),TreeAt w0 a c t -> Ext w0 w -> w0.heap.size <= lb -> Blk w lb #[.int .i64 n] 3 -> 1 <= n -> n <= 1000 →
  Calls Tryz.prog 45 #[treeV t a c,.pointer (some ⟨lb,0,none⟩)] w fun e w'=>e=.returned (.int .i64 (nodesF t n).1) /\ Blk w' lb #[.int .i64 (nodesF t n).2] 3 /\ ExtM (·=lb) w w':=by
 induction t using Tree.ind with | h t ih=>?_
 intro a c n lb w0 w hT hE0 hlb hB h1 h1000
 have HF:=Lib.hid (nodesF_eq t n)
 have hbd:=nodesL_bound t.kids (fun j hj=>nodesF_bound t.kids[j]) (0,n - 1) (n - 1) (by simp) (by simp;omega) (by simp)
 obtain ⟨hc,hl,-⟩:=hT.kids
 have c0 : w.cell? ⟨lb,0,none⟩=some (.int .i64 n):=by rw [hB.cell];rfl
 have f0:=hB.frozen 0
 have lt0:=hB.lt
 go_enter Tryz.func45,Tryz.ntmps45
 go_wp2_with fail
 obtain ⟨W,hW⟩ : ∃ W : World,W=(w.setCell ⟨lb,0,none⟩ (.int .i64 (n - 1))).alloc (.cells #[.string t.kind,.string t.text,.slice a t.kids.length c] 24):=⟨_,rfl⟩
 rw [<- hW]
 have HB : Blk W lb #[.int .i64 (n - 1)] 3:=by rw [hW];exact (hB.set 0 _).ext (Ext.alloc _ _)
 have HE : ExtM (·=lb) w W:=by rw [hW];exact ((ExtM.refl (·=lb) w).setCell (p:=⟨lb,0,none⟩) (.inl rfl) _).ext (Ext.alloc _ _)
 have hE1 : Ext w0 W:=HE.toExt hE0 (fun i hi h=>by omega)
 clear hW
 go_loopw [5,16] (fun d i w'=>∃ (j : Nat) (dp m : Int),i=.int .i64 j /\ d=.int .i64 dp /\ j <= t.kids.length /\ nodesL t.kids (0,n - 1)=nodesL (t.kids.drop j) (dp,m) /\ 0 <= dp /\ 0 <= m /\ dp + m <= n - 1 /\ Blk w' lb #[.int .i64 m] 3 /\ ExtM (·=lb) W w') (fun _ i _=>t.kids.length - (intOf i).toNat)
 case atStart=>exact ⟨0,0,n - 1,rfl,rfl,Nat.zero_le _,rfl,by omega,by omega,by omega,HB,ExtM.refl _ _⟩
 case round =>
  obtain ⟨j,dp,m,rfl,rfl,hj,hL,hd,hm,hdm,HB1,HE1⟩:=hrel
  have HL:=Lib.hid hL
  clear hL
  have hE2 : Ext w0 wr:=HE1.toExt hE1 (fun i hi h=>by omega)
  have c1 : wr.cell? ⟨lb,0,none⟩=some (.int .i64 m):=by rw [HB1.cell];rfl
  have l1:=HB1.lt
  by_cases hlt : j < t.kids.length
  ·obtain ⟨b,o,a',c',rfl,hbl,p0,p1,p2,hkt⟩:=hT.kid j hlt
   replace p0:=hE2.keep p0
   replace p1:=hE2.keep p1
   replace p2:=hE2.keep p2
   have hbl:=Nat.lt_of_lt_of_le hbl hE2.size
   have hdrop:=Lib.hid (List.drop_eq_getElem_cons hlt)
   by_cases hm0 : m <= 0
   ·go_wp2_with fail
    go_ret
    refine ⟨ret_int ?_,?_,(HE.trans' HE1).ext (Ext.alloc _ _)⟩
    ·rw [HF.out,HL.out,hdrop.out];simp only [nodesL,if_pos hm0]
    ·rw [HF.out,HL.out,hdrop.out];simp only [nodesL,if_pos hm0];exact HB1.ext (Ext.alloc _ _)
   ·have hbk:=nodesF_bound t.kids[j] m (by omega)
    go_wp2_with fail
    refine (ih j hlt a' c' m lb w0 _ hkt (hE2.trans (Ext.alloc _ _)) hlb (HB1.ext (Ext.alloc _ _)) (by omega) (by omega)).mono ?_
    rintro e w2 ⟨rfl,HB2,HE2⟩
    have HE3:=(Ext.alloc _ _).extM HE2
    go_wp2_with fail
    refine ⟨⟨j + 1,max dp (nodesF t.kids[j] m).1,(nodesF t.kids[j] m).2,by go_num,?_,by omega,?_,by omega,by omega,by omega,HB2,HE1.trans' HE3⟩,by simp [intOf];omega⟩
    ·congr 1;split <;> omega
    ·rw [HL.out,hdrop.out];simp only [nodesL,if_neg (Int.not_le.2 hm0)]
  ·obtain rfl : j=t.kids.length:=by omega
   go_wp2_with fail
   go_ret
   have hdrop : t.kids.drop t.kids.length=[]:=List.drop_of_length_le (Nat.le_refl _)
   refine ⟨ret_int ?_,?_,HE.trans' HE1⟩
   ·rw [HF.out,HL.out,hdrop];simp only [nodesL]
   ·rw [HF.out,HL.out,hdrop];simp only [nodesL];exact HB1
def nodesOf (t : Tree) : Int × Int:=(1000 - (nodesF t 1000).2,(nodesF t 1000).1)
theorem nodesOf_calls (t : Tree) (a : Option Addr) (c : Nat) (w : World) (hT : TreeAt w a c t) :
  Calls Tryz.prog 19 #[treeV t a c] w fun e w'=>e=.returned (.tuple #[.int .i64 (nodesOf t).1,.int .i64 (nodesOf t).2]) /\ Ext w w':=by
 have hbd:=nodesF_bound t 1000 (by omega)
 go_enter Tryz.func19,Tryz.ntmps19
 go_wp2_with fail
 refine (nodes_calls t a c 1000 _ w _ hT ?_ ?_ ?_ (by omega) (by omega)).mono ?_
 ·exact (Ext.alloc _ _).trans (Ext.alloc _ _)
 ·simp
 ·have:=Blk.new (w.alloc (.cells #[.string t.kind,.string t.text,.slice a t.kids.length c] 24)) #[.int .i64 1000] 3
  simpa using this
 rintro e w1 ⟨rfl,hB,hE⟩
 have hc : w1.cell? ⟨w.heap.size + 1,0,none⟩=some (.int .i64 (nodesF t 1000).2):=by rw [hB.cell];rfl
 have hE2 : Ext w w1:=hE.toExt ((Ext.alloc _ _).trans (Ext.alloc _ _)) (fun i hi h=>by omega)
 go_wp2_with fail
 go_ret2
 exact ⟨rfl,hE2⟩
def fitsT (t : Tree) : Bool:=decide (t.kind.size <= 2147483647) && decide (t.text.size <= 2147483647) && decide (t.kids.length <= 2147483647)
theorem fitsT_calls (t : Tree) (a : Option Addr) (c : Nat) (w : World) (hT : TreeAt w a c t) :
  Calls Tryz.prog 18 #[treeV t a c] w fun e w'=>e=.returned (.bool (fitsT t)) /\ Ext w w':=by
 have hs:=hT.sizes
 have hk:=hT.kids
 by_cases h1 : t.kind.size <= 2147483647
 ·by_cases h2 : t.text.size <= 2147483647
  ·by_cases h3 : t.kids.length <= 2147483647
   ·have HF:=Lib.hid (show fitsT t=true by unfold fitsT;rw [decide_eq_true h1,decide_eq_true h2,decide_eq_true h3];rfl)
    go_enter Tryz.func18,Tryz.ntmps18
    go_wp2_with fail
    go_ret
    exact ⟨ret_bool HF.out.symm,Ext.alloc _ _⟩
   ·have HF:=Lib.hid (show fitsT t=false by unfold fitsT;rw [decide_eq_true h1,decide_eq_true h2,decide_eq_false h3];rfl)
    go_enter Tryz.func18,Tryz.ntmps18
    go_wp2_with fail
    go_ret
    exact ⟨ret_bool HF.out.symm,Ext.alloc _ _⟩
  ·have HF:=Lib.hid (show fitsT t=false by unfold fitsT;rw [decide_eq_true h1,decide_eq_false h2];rfl)
   go_enter Tryz.func18,Tryz.ntmps18
   go_wp2_with fail
   go_ret
   exact ⟨ret_bool HF.out.symm,Ext.alloc _ _⟩
 ·have HF:=Lib.hid (show fitsT t=false by unfold fitsT;rw [decide_eq_false h1];rfl)
  go_enter Tryz.func18,Tryz.ntmps18
  go_wp2_with fail
  go_ret
  exact ⟨ret_bool HF.out.symm,Ext.alloc _ _⟩
mutual
def first : Tree -> Bool
 | .mk k _ ks=>if k.toList == [79,114] then firstAll ks else decide (0 < (fields k).length)
def firstAll : List Tree -> Bool
 | []=>true
 | t :: ts=>first t && firstAll ts
end
theorem firstAll_eq (ts : List Tree) : firstAll ts=ts.all first:=by
 induction ts with
 | nil=>rfl
 | cons t ts ih=>simp [firstAll,ih]
theorem first_eq (t : Tree) : first t=if t.kind.toList == [79,114] then t.kids.all first else decide (0 < (fields t.kind).length):=by
 cases t;simp only [first,firstAll_eq,Tree.kind,Tree.kids];rfl
theorem first_calls (t : Tree) : ∀ (a : Option Addr) (c : Nat) (w : World),TreeAt w a c t -> Calls Tryz.prog 29 #[treeV t a c] w fun e w'=>e=.returned (.bool (first t)) /\ Ext w w':=by
 induction t using Tree.ind with | h t ih=>?_
 intro a c w hT
 obtain ⟨hc,hl,-⟩:=hT.kids
 have HF:=Lib.hid (first_eq t)
 cases ho : (t.kind.toList == [79,114])
 ·have HO:=Lib.hid ho
  go_enter Tryz.func29,Tryz.ntmps29
  go_wp2_with fail
  refine (fields_calls _ _).mono ?_
  rintro e w' ⟨a1,c1,rfl,h1,h2,hs,hE⟩
  go_wp2_with fail
  go_ret
  exact ⟨ret_bool (by rw [HF.out,HO.out,Bool.eq_iff_iff];simp),hE.of_alloc⟩
 ·have HO:=Lib.hid ho
  go_enter Tryz.func29,Tryz.ntmps29
  go_wp2_with fail
  go_loopw [11] (fun i w'=>∃ j : Nat,i=.int .i64 j /\ j <= t.kids.length /\ (t.kids.take j).all first=true /\ Ext (w.alloc (.cells #[.string t.kind,.string t.text,.slice a t.kids.length c] 24)) w') (fun i _=>t.kids.length - (intOf i).toNat)
  case atStart=>exact ⟨0,rfl,Nat.zero_le _,rfl,Ext.refl _⟩
  case round =>
   obtain ⟨j,rfl,hj,hb,hB⟩:=hrel
   have HB:=Lib.hid hb
   obtain ⟨hr,hf,hs⟩:=hB.rules
   simp at hr hf
   clear hb
   by_cases hlt : j < t.kids.length
   ·obtain ⟨b,o,a',c',rfl,hbl,h1,h2,h3,ht⟩:=hT.kid j hlt
    go_wp2_with fail
    refine (ih j hlt a' c' _ (ht.mono (hB.of_alloc.trans (Ext.alloc _ _)))).mono ?_
    rintro e w' ⟨rfl,hb2⟩
    cases hbj : first t.kids[j]
    ·have HJ:=Lib.hid hbj
     go_wp2_with fail
     go_ret
     exact ⟨ret_bool (by rw [HF.out,HO.out,if_pos rfl,all_of_get _ _ j hlt HJ.out]),hB.of_alloc.trans hb2.of_alloc⟩
    ·have HJ:=Lib.hid hbj
     go_wp2_with fail
     exact ⟨⟨j + 1,by go_num,by omega,by rw [all_take_succ _ _ _ hlt,HB.out,HJ.out];rfl,hB.trans hb2.of_alloc⟩,by simp [intOf];omega⟩
   ·obtain rfl : j=t.kids.length:=by omega
    go_wp2_with fail
    go_ret
    exact ⟨ret_bool (by rw [any_kids_take] at HB;rw [HF.out,HO.out,if_pos rfl,HB.out]),hB.of_alloc⟩
def written (t : Tree) : Bool:=decide ((nodesOf t).1 <= 60) && decide ((nodesOf t).2 <= 10) && good t 97
end Go.Proofs.YtigalkobmfbdaaaGreatDoor
