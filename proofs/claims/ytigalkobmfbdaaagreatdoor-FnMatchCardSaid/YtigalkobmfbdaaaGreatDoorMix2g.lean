/- Parts of a syntax (impl.Syn) in memory: given by value, the kids in a slice. -/
import Derived.Test.YtigalkobmfbdaaaGreatDoorTextZ2
import Derived.Test.YtigalkobmfbdaaaGreatDoorMix2h
set_option linter.unusedVariables false
set_option linter.unusedSimpArgs false
namespace Go.Proofs.YtigalkobmfbdaaaGreatDoor
open Go.RowKit
inductive Syn where
 | mk (kind : ByteArray) (null : Bool) (text : ByteArray) (num : Int) (kids : List Syn)
def Syn.kind : Syn -> ByteArray | .mk k _ _ _ _=>k
def Syn.null : Syn -> Bool | .mk _ b _ _ _=>b
def Syn.text : Syn -> ByteArray | .mk _ _ x _ _=>x
def Syn.num : Syn -> Int | .mk _ _ _ n _=>n
def Syn.kids : Syn -> List Syn | .mk _ _ _ _ ks=>ks
theorem skind_mk (k b x n ks) : (Syn.mk k b x n ks).kind=k:=rfl
theorem snull_mk (k b x n ks) : (Syn.mk k b x n ks).null=b:=rfl
theorem stext_mk (k b x n ks) : (Syn.mk k b x n ks).text=x:=rfl
theorem snum_mk (k b x n ks) : (Syn.mk k b x n ks).num=n:=rfl
theorem skids_mk (k b x n ks) : (Syn.mk k b x n ks).kids=ks:=rfl
abbrev i64 (n : Int) : Prop:=(Lit.int .i64 n).wf=true
mutual
def SynIn (X : Nat -> Prop) (w : World) : Option Addr -> Nat -> Syn -> Prop
 | a,c,.mk k _ x n ks=>(k.size <= 140737488351232 /\ x.size <= 140737488351232 /\ i64 n) /\ ks.length <= c /\ c <= 140737488351232 /\ SynsIn X w a ks
def SynsIn (X : Nat -> Prop) (w : World) : Option Addr -> List Syn -> Prop
 | _,[]=>True
 | a,t :: ts=>∃ b o a' c',a=some ⟨b,o,none⟩ /\ X b /\ w.cell? ⟨b,o,none⟩=some (.string t.kind) /\ w.cell? ⟨b,o + 1,none⟩=some (.bool t.null) /\ w.cell? ⟨b,o + 2,none⟩=some (.string t.text) /\ w.cell? ⟨b,o + 3,none⟩=some (.int .i64 t.num) /\ w.cell? ⟨b,o + 4,none⟩=some (.slice a' t.kids.length c') /\ SynIn X w a' c' t /\ SynsIn X w (some ⟨b,o + 5,none⟩) ts
end
abbrev synV (t : Syn) (a : Option Addr) (c : Nat) : Value:=.agg #[.string t.kind,.bool t.null,.string t.text,.int .i64 t.num,.slice a t.kids.length c]
mutual
theorem SynIn.turn {X Y : Nat -> Prop} {w w' : World} (h : ∀ b o v,X b -> w.cell? ⟨b,o,none⟩=some v -> Y b /\ w'.cell? ⟨b,o,none⟩=some v) : ∀ {a : Option Addr} {c : Nat} {t : Syn},SynIn X w a c t -> SynIn Y w' a c t
 | _,_,.mk _ _ _ _ _,⟨hs,hc,hl,hk⟩=>⟨hs,hc,hl,SynsIn.turn h hk⟩
theorem SynsIn.turn {X Y : Nat -> Prop} {w w' : World} (h : ∀ b o v,X b -> w.cell? ⟨b,o,none⟩=some v -> Y b /\ w'.cell? ⟨b,o,none⟩=some v) : ∀ {a : Option Addr} {ts : List Syn},SynsIn X w a ts -> SynsIn Y w' a ts
 | _,[],_=>trivial
 | _,_ :: _,⟨b,o,a',c',ha,hb,h1,h2,h3,h4,h5,ht,hk⟩=>⟨b,o,a',c',ha,(h _ _ _ hb h1).1,(h _ _ _ hb h1).2,(h _ _ _ hb h2).2,(h _ _ _ hb h3).2,(h _ _ _ hb h4).2,(h _ _ _ hb h5).2,SynIn.turn h ht,SynsIn.turn h hk⟩
end
theorem SynIn.mono {X : Nat -> Prop} {w w' : World} (h : Ext w w') {a : Option Addr} {c : Nat} {t : Syn} (ht : SynIn X w a c t) : SynIn X w' a c t:=ht.turn fun _ _ _ hb hc=>⟨hb,h.keep hc⟩
theorem SynIn.imp {X Y : Nat -> Prop} {w : World} (h : ∀ b,X b -> b < w.heap.size -> Y b) {a : Option Addr} {c : Nat} {t : Syn} (ht : SynIn X w a c t) : SynIn Y w a c t:=ht.turn fun b _ _ hb hc=>⟨h b hb (cell_lt hc),hc⟩
theorem SynsIn.get {X : Nat -> Prop} {w : World} : ∀ {ts : List Syn} {a : Option Addr} (_ : SynsIn X w a ts) (j : Nat) (hj : j < ts.length),
  ∃ b o a' c',a=some ⟨b,o,none⟩ /\ b < w.heap.size /\ X b /\ w.cell? ⟨b,o + j * 5,none⟩=some (.string ts[j].kind) /\ w.cell? ⟨b,o + j * 5 + 1,none⟩=some (.bool ts[j].null) /\ w.cell? ⟨b,o + j * 5 + 2,none⟩=some (.string ts[j].text) /\ w.cell? ⟨b,o + j * 5 + 3,none⟩=some (.int .i64 ts[j].num) /\ w.cell? ⟨b,o + j * 5 + 4,none⟩=some (.slice a' ts[j].kids.length c') /\ SynIn X w a' c' ts[j]
 | t :: ts,a,⟨b,o,a',c',ha,hb,h1,h2,h3,h4,h5,ht,hk⟩,0,_=>⟨b,o,a',c',ha,cell_lt h1,hb,by simpa using h1,by simpa using h2,by simpa using h3,by simpa using h4,by simpa using h5,ht⟩
 | t :: ts,a,⟨b,o,_,_,ha,hb,h1,h2,h3,h4,h5,ht,hk⟩,j + 1,hj=>by
  obtain ⟨b',o',a',c',ha',hlt,hb',h1',h2',h3',h4',h5',ht'⟩:=SynsIn.get hk j (by simpa using hj)
  obtain ⟨rfl,rfl⟩ : b=b' /\ o + 5=o':=by simpa using ha'
  have e : o + 5 + j * 5=o + (j + 1) * 5:=by omega
  rw [e] at h1' h2' h3' h4' h5'
  exact ⟨b,o,a',c',ha,hlt,hb',h1',h2',h3',h4',h5',ht'⟩
theorem SynIn.kids {X : Nat -> Prop} {w : World} {a : Option Addr} {c : Nat} {t : Syn} (h : SynIn X w a c t) : t.kids.length <= c /\ c <= 140737488351232 /\ SynsIn X w a t.kids:=by cases t;exact h.2
theorem SynIn.sizes {X : Nat -> Prop} {w : World} {a : Option Addr} {c : Nat} {t : Syn} (h : SynIn X w a c t) : t.kind.size <= 140737488351232 /\ t.text.size <= 140737488351232 /\ i64 t.num:=by cases t;exact h.1
theorem SynIn.kid {X : Nat -> Prop} {w : World} {a : Option Addr} {c : Nat} {t : Syn} (h : SynIn X w a c t) (j : Nat) (hj : j < t.kids.length) :
  ∃ b o a' c',a=some ⟨b,o,none⟩ /\ b < w.heap.size /\ X b /\ w.cell? ⟨b,o + j * 5,none⟩=some (.string t.kids[j].kind) /\ w.cell? ⟨b,o + j * 5 + 1,none⟩=some (.bool t.kids[j].null) /\ w.cell? ⟨b,o + j * 5 + 2,none⟩=some (.string t.kids[j].text) /\ w.cell? ⟨b,o + j * 5 + 3,none⟩=some (.int .i64 t.kids[j].num) /\ w.cell? ⟨b,o + j * 5 + 4,none⟩=some (.slice a' t.kids[j].kids.length c') /\ SynIn X w a' c' t.kids[j] :=
 h.kids.2.2.get j hj
theorem Syn.ind {P : Syn -> Prop} (h : ∀ t : Syn,(∀ (j : Nat) (hj : j < t.kids.length),P t.kids[j]) -> P t) : ∀ t,P t:=by
 intro t
 refine Syn.rec (motive_1:=P) (motive_2:=fun ts=>∀ (j : Nat) (hj : j < ts.length),P ts[j]) ?_ ?_ ?_ t
 ·intro k b x n ks ih
  exact h (.mk k b x n ks) ih
 ·intro j hj
  exact absurd hj (by simp)
 ·intro t ts ht hts j hj
  cases j with
  | zero=>exact ht
  | succ j=>simpa using hts j (by simpa using hj)
end Go.Proofs.YtigalkobmfbdaaaGreatDoor
set_option maxRecDepth 100000
set_option maxHeartbeats 1000000
namespace Go.Proofs.YtigalkobmfbdaaaGreatDoor
open Go.RowKit
mutual
def partsF : Syn -> Int -> Int × Int
 | .mk _ _ _ _ ks,n=>((partsL ks (0,n - 1)).1 + 1,(partsL ks (0,n - 1)).2)
def partsL : List Syn -> Int × Int -> Int × Int
 | [],s=>s
 | t :: ts,s=>if s.2 <= 0 then s else partsL ts (max s.1 (partsF t s.2).1,(partsF t s.2).2)
end
theorem partsF_eq (t : Syn) (n : Int) : partsF t n=((partsL t.kids (0,n - 1)).1 + 1,(partsL t.kids (0,n - 1)).2):=by
 cases t;simp only [partsF,Syn.kids]
theorem partsL_bound (ts : List Syn) (ih : ∀ (j : Nat) (hj : j < ts.length) (n : Int),1 <= n -> 0 <= (partsF ts[j] n).2 /\ 1 <= (partsF ts[j] n).1 /\ (partsF ts[j] n).1 + (partsF ts[j] n).2 <= n) :
  ∀ (s : Int × Int) (N : Int),0 <= s.1 -> 0 <= s.2 -> s.1 + s.2 <= N -> 0 <= (partsL ts s).1 /\ 0 <= (partsL ts s).2 /\ (partsL ts s).1 + (partsL ts s).2 <= N:=by
 induction ts with
 | nil=>intro s N h1 h2 h3;simp only [partsL];exact ⟨h1,h2,h3⟩
 | cons t ts iht =>
  intro s N h1 h2 h3
  unfold partsL
  split
  ·exact ⟨h1,h2,h3⟩
  ·have:=ih 0 (by simp) s.2 (by omega)
   simp only [List.getElem_cons_zero] at this
   refine iht (fun j hj n hn=>?_) _ N (by omega) this.1 (by simp only;omega)
   have:=ih (j + 1) (by simpa using hj) n hn
   simpa using this
theorem partsF_bound (t : Syn) : ∀ n : Int,1 <= n -> 0 <= (partsF t n).2 /\ 1 <= (partsF t n).1 /\ (partsF t n).1 + (partsF t n).2 <= n:=by
 induction t using Syn.ind with | h t ih=>?_
 intro n hn
 rw [partsF_eq]
 have:=partsL_bound t.kids ih (0,n - 1) (n - 1) (by simp) (by simp;omega) (by simp)
 simp only
 omega
theorem parts_calls (t : Syn) : ∀ (X : Nat -> Prop) (a : Option Addr) (c : Nat) (n : Int) (lb : Nat) (w0 w : World),SynIn X w0 a c t -> Ext w0 w -> w0.heap.size <= lb -> Blk w lb #[.int .i64 n] 3 -> 1 <= n -> n <= 1000 →
  Calls Tryz.prog 68 #[synV t a c,.pointer (some ⟨lb,0,none⟩)] w fun e w'=>e=.returned (.int .i64 (partsF t n).1) /\ Blk w' lb #[.int .i64 (partsF t n).2] 3 /\ ExtM (·=lb) w w':=by
 induction t using Syn.ind with | h t ih=>?_
 intro X a c n lb w0 w hT hE0 hlb hB h1 h1000
 have HF:=Lib.hid (partsF_eq t n)
 have hbd:=partsL_bound t.kids (fun j hj=>partsF_bound t.kids[j]) (0,n - 1) (n - 1) (by simp) (by simp;omega) (by simp)
 obtain ⟨hc,hl,-⟩:=hT.kids
 have c0 : w.cell? ⟨lb,0,none⟩=some (.int .i64 n):=by rw [hB.cell];rfl
 have f0:=hB.frozen 0
 have lt0:=hB.lt
 go_enter Tryz.func68,Tryz.ntmps68
 go_wp2_with fail
 obtain ⟨W,hW⟩ : ∃ W : World,W=(w.setCell ⟨lb,0,none⟩ (.int .i64 (n - 1))).alloc (.cells #[.string t.kind,.bool t.null,.string t.text,.int .i64 t.num,.slice a t.kids.length c] 52):=⟨_,rfl⟩
 rw [<- hW]
 have HB : Blk W lb #[.int .i64 (n - 1)] 3:=by rw [hW];exact (hB.set 0 _).ext (Ext.alloc _ _)
 have HE : ExtM (·=lb) w W:=by rw [hW];exact ((ExtM.refl (·=lb) w).setCell (p:=⟨lb,0,none⟩) (.inl rfl) _).ext (Ext.alloc _ _)
 have hE1 : Ext w0 W:=HE.toExt hE0 (fun i hi h=>by omega)
 clear hW
 go_loopw [5,16] (fun d i w'=>∃ (j : Nat) (dp m : Int),i=.int .i64 j /\ d=.int .i64 dp /\ j <= t.kids.length /\ partsL t.kids (0,n - 1)=partsL (t.kids.drop j) (dp,m) /\ 0 <= dp /\ 0 <= m /\ dp + m <= n - 1 /\ Blk w' lb #[.int .i64 m] 3 /\ ExtM (·=lb) W w') (fun _ i _=>t.kids.length - (intOf i).toNat)
 case atStart=>exact ⟨0,0,n - 1,rfl,rfl,Nat.zero_le _,rfl,by omega,by omega,by omega,HB,ExtM.refl _ _⟩
 case round =>
  obtain ⟨j,dp,m,rfl,rfl,hj,hL,hd,hm,hdm,HB1,HE1⟩:=hrel
  have HL:=Lib.hid hL
  clear hL
  have hE2 : Ext w0 wr:=HE1.toExt hE1 (fun i hi h=>by omega)
  have c1 : wr.cell? ⟨lb,0,none⟩=some (.int .i64 m):=by rw [HB1.cell];rfl
  have l1:=HB1.lt
  by_cases hlt : j < t.kids.length
  ·obtain ⟨b,o,a',c',rfl,hbl,-,p0,p1,p2,p3,p4,hkt⟩:=hT.kid j hlt
   replace p0:=hE2.keep p0
   replace p1:=hE2.keep p1
   replace p2:=hE2.keep p2
   replace p3:=hE2.keep p3
   replace p4:=hE2.keep p4
   have hbl:=Nat.lt_of_lt_of_le hbl hE2.size
   have hdrop:=Lib.hid (List.drop_eq_getElem_cons hlt)
   by_cases hm0 : m <= 0
   ·go_wp2_with fail
    go_ret
    refine ⟨ret_int ?_,?_,(HE.trans' HE1).ext (Ext.alloc _ _)⟩
    ·rw [HF.out,HL.out,hdrop.out];simp only [partsL,if_pos hm0]
    ·rw [HF.out,HL.out,hdrop.out];simp only [partsL,if_pos hm0];exact HB1.ext (Ext.alloc _ _)
   ·have hbk:=partsF_bound t.kids[j] m (by omega)
    go_wp2_with fail
    refine (ih j hlt X a' c' m lb w0 _ hkt (hE2.trans (Ext.alloc _ _)) hlb (HB1.ext (Ext.alloc _ _)) (by omega) (by omega)).mono ?_
    rintro e w2 ⟨rfl,HB2,HE2⟩
    have HE3:=(Ext.alloc _ _).extM HE2
    go_wp2_with fail
    refine ⟨⟨j + 1,max dp (partsF t.kids[j] m).1,(partsF t.kids[j] m).2,by go_num,?_,by omega,?_,by omega,by omega,by omega,HB2,HE1.trans' HE3⟩,by simp [intOf];omega⟩
    ·congr 1;split <;> omega
    ·rw [HL.out,hdrop.out];simp only [partsL,if_neg (Int.not_le.2 hm0)]
  ·obtain rfl : j=t.kids.length:=by omega
   go_wp2_with fail
   go_ret
   have hdrop : t.kids.drop t.kids.length=[]:=List.drop_of_length_le (Nat.le_refl _)
   refine ⟨ret_int ?_,?_,HE.trans' HE1⟩
   ·rw [HF.out,HL.out,hdrop];simp only [partsL]
   ·rw [HF.out,HL.out,hdrop];simp only [partsL];exact HB1
def partsOf (t : Syn) : Int × Int:=(1000 - (partsF t 1000).2,(partsF t 1000).1)
theorem partsOf_calls (t : Syn) {X : Nat -> Prop} (a : Option Addr) (c : Nat) (w : World) (hT : SynIn X w a c t) :
  Calls Tryz.prog 40 #[synV t a c] w fun e w'=>e=.returned (.tuple #[.int .i64 (partsOf t).1,.int .i64 (partsOf t).2]) /\ Ext w w':=by
 have hbd:=partsF_bound t 1000 (by omega)
 go_enter Tryz.func40,Tryz.ntmps40
 go_wp2_with fail
 refine (parts_calls t X a c 1000 _ w _ hT ?_ ?_ ?_ (by omega) (by omega)).mono ?_
 ·exact (Ext.alloc _ _).trans (Ext.alloc _ _)
 ·simp
 ·have:=Blk.new (w.alloc (.cells #[.string t.kind,.bool t.null,.string t.text,.int .i64 t.num,.slice a t.kids.length c] 52)) #[.int .i64 1000] 3
  simpa using this
 rintro e w1 ⟨rfl,hB,hE⟩
 have hc : w1.cell? ⟨w.heap.size + 1,0,none⟩=some (.int .i64 (partsF t 1000).2):=by rw [hB.cell];rfl
 have hE2 : Ext w w1:=hE.toExt ((Ext.alloc _ _).trans (Ext.alloc _ _)) (fun i hi h=>by omega)
 go_wp2_with fail
 go_ret2
 exact ⟨rfl,hE2⟩
def fitsS (t : Syn) : Bool:=decide (t.kind.size <= 2147483647) && decide (t.text.size <= 2147483647) && decide (t.kids.length <= 2147483647)
theorem fitsS_calls (t : Syn) {X : Nat -> Prop} (a : Option Addr) (c : Nat) (w : World) (hT : SynIn X w a c t) :
  Calls Tryz.prog 34 #[synV t a c] w fun e w'=>e=.returned (.bool (fitsS t)) /\ Ext w w':=by
 have hs:=hT.sizes
 have hk:=hT.kids
 by_cases h1 : t.kind.size <= 2147483647
 ·by_cases h2 : t.text.size <= 2147483647
  ·by_cases h3 : t.kids.length <= 2147483647
   ·have HF:=Lib.hid (show fitsS t=true by unfold fitsS;rw [decide_eq_true h1,decide_eq_true h2,decide_eq_true h3];rfl)
    go_enter Tryz.func34,Tryz.ntmps34
    go_wp2_with fail
    go_ret
    exact ⟨ret_bool HF.out.symm,Ext.alloc _ _⟩
   ·have HF:=Lib.hid (show fitsS t=false by unfold fitsS;rw [decide_eq_true h1,decide_eq_true h2,decide_eq_false h3];rfl)
    go_enter Tryz.func34,Tryz.ntmps34
    go_wp2_with fail
    go_ret
    exact ⟨ret_bool HF.out.symm,Ext.alloc _ _⟩
  ·have HF:=Lib.hid (show fitsS t=false by unfold fitsS;rw [decide_eq_true h1,decide_eq_false h2];rfl)
   go_enter Tryz.func34,Tryz.ntmps34
   go_wp2_with fail
   go_ret
   exact ⟨ret_bool HF.out.symm,Ext.alloc _ _⟩
 ·have HF:=Lib.hid (show fitsS t=false by unfold fitsS;rw [decide_eq_false h1];rfl)
  go_enter Tryz.func34,Tryz.ntmps34
  go_wp2_with fail
  go_ret
  exact ⟨ret_bool HF.out.symm,Ext.alloc _ _⟩
end Go.Proofs.YtigalkobmfbdaaaGreatDoor
set_option maxRecDepth 100000
set_option maxHeartbeats 4000000
namespace Go.Proofs.YtigalkobmfbdaaaGreatDoor
open Go.RowKit
def fitsL (c : Int) (k : ByteArray) : Bool :=
 if c == 101 then expressions.any (fun y=>y.toList == k.toList)
 else if c == 115 then statements.any (fun y=>y.toList == k.toList)
 else if c == 105 then k.toList == [73,100,101,110,116]
 else if c == 99 then k.toList == [67,97,108,108,69,120,112,114]
 else if c == 66 then k.toList == [66,108,111,99,107,83,116,109,116]
 else false
mutual
def right : Syn -> Int -> ByteArray -> Bool
 | .mk k nl x n ks,c,of =>
  if c == 116 then !nl && (k.toList == [84,111,107,101,110] && n == 0 && ks.length == 0) && (tokens of).any (fun y=>y.toList == x.toList)
  else if c == 110 then !nl && (k.toList == [115,116,114,105,110,103] && n == 0 && ks.length == 0) && word x.toList
  else if c == 98 then !nl && (k.toList == [98,111,111,108] && x.toList == [] && (n == 0 || n == 1) && ks.length == 0)
  else if c == 108 then (!nl || ks.length == 0) && k.toList == [91,93,69,120,112,114] && (x.toList == [] && n == 0) && rightAll ks 101
  else if c == 109 then (!nl || ks.length == 0) && k.toList == [91,93,83,116,109,116] && (x.toList == [] && n == 0) && rightAll ks 115
  else if (c == 69 || c == 83) && k.toList == [] then !nl && (x.toList == [] && n == 0) && ks.length == 0
  else !nl && fitsL (if c == 69 then 101 else if c == 83 then 115 else c) k && (x.toList == [] && n == 0) && ks.length == (asked k).size && rightArgs ks (asked k).toList k
def rightAll : List Syn -> Int -> Bool
 | [],_=>true
 | t :: ts,c=>right t c ⟨#[]⟩ && rightAll ts c
def rightArgs : List Syn -> List UInt8 -> ByteArray -> Bool
 | [],_,_=>true
 | _ :: _,[],_=>false
 | t :: ts,c :: cs,k=>right t c.toNat k && rightArgs ts cs k
end
def RightC (c : Int) (of : ByteArray) (t : Syn) : Prop:=∀ (X : Nat -> Prop) (a : Option Addr) (cap : Nat) (w : World),SynIn X w a cap t →
 Calls Tryz.prog 41 #[synV t a cap,.int .u8 c,.string of] w fun e w'=>BoolRes (right t c of=true) e /\ Ext w w'
theorem Blk5 {w : World} {b : Nat} {p q r s u : Value} {t : TypeId} (h : Blk w b #[p,q,r,s,u] t) : w.cell? ⟨b,0,none⟩=some p /\ w.cell? ⟨b,1,none⟩=some q /\ w.cell? ⟨b,2,none⟩=some r /\ w.cell? ⟨b,3,none⟩=some s /\ w.cell? ⟨b,4,none⟩=some u :=
 ⟨by rw [h.cell];rfl,by rw [h.cell];rfl,by rw [h.cell];rfl,by rw [h.cell];rfl,by rw [h.cell];rfl⟩
theorem right_mk (k : ByteArray) (nl : Bool) (x : ByteArray) (n : Int) (ks : List Syn) (c : Int) (of : ByteArray) : right (.mk k nl x n ks) c of=(
  if c == 116 then !nl && (k.toList == [84,111,107,101,110] && n == 0 && ks.length == 0) && (tokens of).any (fun y=>y.toList == x.toList)
  else if c == 110 then !nl && (k.toList == [115,116,114,105,110,103] && n == 0 && ks.length == 0) && word x.toList
  else if c == 98 then !nl && (k.toList == [98,111,111,108] && x.toList == [] && (n == 0 || n == 1) && ks.length == 0)
  else if c == 108 then (!nl || ks.length == 0) && k.toList == [91,93,69,120,112,114] && (x.toList == [] && n == 0) && rightAll ks 101
  else if c == 109 then (!nl || ks.length == 0) && k.toList == [91,93,83,116,109,116] && (x.toList == [] && n == 0) && rightAll ks 115
  else if (c == 69 || c == 83) && k.toList == [] then !nl && (x.toList == [] && n == 0) && ks.length == 0
  else !nl && fitsL (if c == 69 then 101 else if c == 83 then 115 else c) k && (x.toList == [] && n == 0) && ks.length == (asked k).size && rightArgs ks (asked k).toList k):=by
 conv=>lhs;unfold right
theorem right_t (t : Syn) (of : ByteArray) : RightC 116 of t:=by
 intro X a cap w hT
 obtain ⟨k,nl,x,n,ks⟩:=t
 have hs:=hT.sizes
 have hK:=hT.kids
 simp only [synV,skind_mk,snull_mk,stext_mk,snum_mk,skids_mk] at *
 have HR:=Lib.hid (right_mk k nl x n ks 116 of)
 clear hT
 cases nl
 ·cases h1 : (k.toList == [84,111,107,101,110]) <;> cases h0 : (x.toList == []) <;> cases h2 : (n == 0) <;> cases h3 : ((ks.length : Int) == 0)
  all_goals first
   | (go_enter Tryz.func41,Tryz.ntmps41
      go_big_wp2_with fail
      go_quiet (fail)
      go_big_wp2_with fail
      go_ret
      exact ⟨⟨false,rfl,fun h=>by cases h⟩,(Ext.alloc _ _).trans (Ext.drewN _ _)⟩)
   | skip
  all_goals
   have hbx:=Blk5 (Blk.new w #[.string k,.bool false,.string x,.int .i64 n,.slice a ks.length cap] 52)
   have b2:=hbx.2.2.1
   have b0:=hbx.1
   have b3:=hbx.2.2.2.1
   have b4:=hbx.2.2.2.2
   have KX:=Lib.hid (Ext.alloc w (.cells #[.string k,.bool false,.string x,.int .i64 n,.slice a ks.length cap] 52))
   clear hbx
   have HL:=Lib.hid (tokens_le of)
   go_enter Tryz.func41,Tryz.ntmps41
   go_big_wp2_with fail
   go_region_held3 (fun w'=>w'.cell? ⟨w.heap.size,0,none⟩=some (.string k) /\ w'.cell? ⟨w.heap.size,2,none⟩=some (.string x) /\ w'.cell? ⟨w.heap.size,3,none⟩=some (.int .i64 n) /\ w'.cell? ⟨w.heap.size,4,none⟩=some (.slice a ks.length cap)) (go_keep)
    (first
     | (go_at_call 58;refine (among_calls _ _ _ _ _ HS.out (by have:=HL.out;omega)).mono ?_;rintro e w2 ⟨rfl,rfl⟩)
     | (go_at_call 69;refine (tokens_calls of _).mono ?_;rintro e w1 ⟨a1,c1,rfl,hl,hl',hs1,hE1⟩;have HS:=Lib.hid hs1;have KE:=Lib.hid (((KX.out.trans (Ext.drew _)).trans hE1));have k2:=hE1.keep ((Ext.drew _).keep b2);have k0:=hE1.keep ((Ext.drew _).keep b0);have k3:=hE1.keep ((Ext.drew _).keep b3);have k4:=hE1.keep ((Ext.drew _).keep b4);clear hs1 hE1))
   go_big_wp2_with fail
   go_ret
   refine ⟨⟨_,rfl,fun h=>?_⟩,KE.out⟩
   have h3' : (ks.length == 0)=true:=by simpa using h3
   rw [HR.out,if_pos (by decide),h1,h2,h3',h]
   rfl
 ·go_enter Tryz.func41,Tryz.ntmps41
  go_big_wp2_with fail
  go_ret
  exact ⟨⟨false,rfl,fun h=>by cases h⟩,Ext.alloc _ _⟩
theorem right_n (t : Syn) (of : ByteArray) : RightC 110 of t:=by
 intro X a cap w hT
 obtain ⟨k,nl,x,n,ks⟩:=t
 have hs:=hT.sizes
 have hK:=hT.kids
 simp only [synV,skind_mk,snull_mk,stext_mk,snum_mk,skids_mk] at *
 have HR:=Lib.hid (right_mk k nl x n ks 110 of)
 clear hT
 cases nl
 ·cases h1 : (k.toList == [115,116,114,105,110,103]) <;> cases h0 : (x.toList == []) <;> cases h2 : (n == 0) <;> cases h3 : ((ks.length : Int) == 0)
  all_goals first
   | (go_enter Tryz.func41,Tryz.ntmps41
      go_big_wp2_with fail
      go_ret
      exact ⟨⟨false,rfl,fun h=>by cases h⟩,Ext.alloc _ _⟩)
   | skip
  all_goals
   have KX:=Lib.hid (Ext.alloc w (.cells #[.string k,.bool false,.string x,.int .i64 n,.slice a ks.length cap] 52))
   go_enter Tryz.func41,Tryz.ntmps41
   go_big_wp2_with fail
   refine (word_calls x _ hs.2.1).mono ?_
   rintro e w1 ⟨rfl,rfl⟩
   go_big_wp2_with fail
   go_ret
   refine ⟨⟨_,rfl,fun h=>?_⟩,KX.out⟩
   have h3' : (ks.length == 0)=true:=by simpa using h3
   rw [HR.out,if_neg (by decide),if_pos (by decide),h1,h2,h3',h]
   rfl
 ·go_enter Tryz.func41,Tryz.ntmps41
  go_big_wp2_with fail
  go_ret
  exact ⟨⟨false,rfl,fun h=>by cases h⟩,Ext.alloc _ _⟩
theorem right_b (t : Syn) (of : ByteArray) : RightC 98 of t:=by
 intro X a cap w hT
 obtain ⟨k,nl,x,n,ks⟩:=t
 have hs:=hT.sizes
 have hK:=hT.kids
 simp only [synV,skind_mk,snull_mk,stext_mk,snum_mk,skids_mk] at *
 have HR:=Lib.hid (right_mk k nl x n ks 98 of)
 clear hT
 cases nl
 ·cases h1 : (k.toList == [98,111,111,108]) <;> cases h0 : (x.toList == []) <;> cases h2 : (n == 0) <;> cases h4 : (n == 1) <;> cases h3 : ((ks.length : Int) == 0)
  all_goals
   go_enter Tryz.func41,Tryz.ntmps41
   go_big_wp2_with fail
   go_ret
   refine ⟨⟨_,rfl,fun h=>?_⟩,Ext.alloc _ _⟩
   first
    | (cases h;done)
    | (have h3' : (ks.length == 0)=true:=by simpa using h3
       rw [HR.out,if_neg (by decide),if_neg (by decide),if_pos (by decide),h1,h0,h2,h4,h3']
       rfl)
 ·go_enter Tryz.func41,Tryz.ntmps41
  go_big_wp2_with fail
  go_ret
  exact ⟨⟨false,rfl,fun h=>by cases h⟩,Ext.alloc _ _⟩
end Go.Proofs.YtigalkobmfbdaaaGreatDoor
