/- match of two parts: they are compared. -/
import Derived.Test.YtigalkobmfbdaaaGreatDoorCmp2Z2
import Derived.Test.YtigalkobmfbdaaaGreatDoorMix2e
set_option linter.unusedVariables false
set_option linter.unusedSimpArgs false
set_option maxRecDepth 100000
set_option maxHeartbeats 4000000
namespace Go.Proofs.YtigalkobmfbdaaaGreatDoor
open Go.RowKit
theorem wrap_cases {k : ByteArray} {i : Nat} (h : wrapIx k=some i) : (k=⟨#[80,97,114,101,110,69,120,112,114]⟩ /\ i=0) \/ (k=⟨#[69,120,112,114,83,116,109,116]⟩ /\ i=0) \/ (k=⟨#[66,108,111,99,107,83,116,109,116]⟩ /\ i=0) \/ (k=⟨#[76,97,98,101,108,101,100,83,116,109,116]⟩ /\ i=1):=by
 unfold wrapIx at h
 split at h
 ·rename_i e
  simp only [Bool.or_eq_true] at e
  cases h
  rcases e with (e | e) | e
  ·exact .inl ⟨beq_lit e,rfl⟩
  ·exact .inr (.inl ⟨beq_lit e,rfl⟩)
  ·exact .inr (.inr (.inl ⟨beq_lit e,rfl⟩))
 ·split at h
  ·rename_i e;cases h;exact .inr (.inr (.inr ⟨beq_lit e,rfl⟩))
  ·cases h
theorem wrap_no {k : ByteArray} (h : wrapIx k=none) : (k.toList == [80,97,114,101,110,69,120,112,114])=false /\ (k.toList == [69,120,112,114,83,116,109,116])=false /\ (k.toList == [66,108,111,99,107,83,116,109,116])=false /\ (k.toList == [76,97,98,101,108,101,100,83,116,109,116])=false:=by
 unfold wrapIx at h
 split at h
 ·cases h
 ·rename_i e
  split at h
  ·cases h
  ·rename_i e2
   simp only [Bool.or_eq_true,not_or,Bool.not_eq_true] at e e2
   exact ⟨e.1.1,e.1.2,e.2,e2⟩
theorem other_tests : ∀ k ∈ [⟨#[]⟩,⟨#[84,111,107,101,110]⟩,⟨#[115,116,114,105,110,103]⟩,⟨#[98,111,111,108]⟩,⟨#[91,93,69,120,112,114]⟩,⟨#[91,93,83,116,109,116]⟩] ++ (expressions ++ statements),(k.toList == [68,101,99,108,83,116,109,116])=false /\ (k.toList == [70,105,101,108,100,76,105,115,116])=false:=by decide +kernel
theorem Form.kind {t : Syn} (h : Form t) : t.kind ∈ [⟨#[]⟩,⟨#[84,111,107,101,110]⟩,⟨#[115,116,114,105,110,103]⟩,⟨#[98,111,111,108]⟩,⟨#[91,93,69,120,112,114]⟩,⟨#[91,93,83,116,109,116]⟩] ++ (expressions ++ statements):=by
 cases h with
 | nothing=>rw [skind_mk];exact List.mem_append_left _ (by simp)
 | leaf k x n h=>rw [skind_mk];rcases h with ⟨rfl | rfl,-⟩ | ⟨rfl,-⟩ <;> exact List.mem_append_left _ (by simp)
 | list k nl ks h=>rw [skind_mk];rcases h with rfl | rfl <;> exact List.mem_append_left _ (by simp)
 | node k ks h=>rw [skind_mk];exact List.mem_append_right _ h
theorem wrap_at {X : Nat -> Prop} {w : World} {v : Value} {t : Syn} (hf : Form t) {i : Nat} (hw : wrapIx t.kind=some i) (h : PtrIn X w v t) :
  ∃ b g o c p,v=.pointer (some ⟨b,0,none⟩) /\ w.cell? ⟨b,0,none⟩=some (.string t.kind) /\ w.cell? ⟨b,1,none⟩=some (.bool false) /\ w.cell? ⟨b,4,none⟩=some (.slice (some ⟨g,o,none⟩) t.kids.length c) /\ t.kids.length <= c /\ t.kids.length <= 5 /\ w.cell? ⟨g,o + i,none⟩=some (.pointer p) /\ ∃ hi : i < t.kids.length,PtrIn X w (.pointer p) t.kids[i] /\ RS t.kids[i] /\ leafK t.kids[i].kind=false /\ bareS t=bareS t.kids[i] /\ sizeS t.kids[i] < sizeS t /\ (∀ u,eqS t u=eqS t.kids[i] u) /\ (∀ u,mixC t u=mixC t.kids[i] u):=by
 obtain ⟨k,ks,rfl,hk,hi,hr,hlf⟩:=hf.wrap hw
 rw [skind_mk] at hw
 have hne : (Syn.mk k false ⟨#[]⟩ 0 ks).kind.toList ≠ []:=by
  rw [skind_mk]
  rcases wrap_cases hw with ⟨rfl,-⟩ | ⟨rfl,-⟩ | ⟨rfl,-⟩ | ⟨rfl,-⟩ <;> decide +kernel
 obtain ⟨b,a,c,rfl,hX,-,h0,h1,-,-,h4,hc,hP⟩:=h.blk hne
 simp only [skind_mk,snull_mk,skids_mk] at *
 obtain ⟨g,o,u,rfl,-,hcell,hpt⟩:=hP.get i hi
 obtain ⟨p,rfl⟩:=ptr_shape hpt
 have hl5 : ks.length <= 5:=by
  cases hf with
  | node k ks hk' hl ha =>
   rw [hl,<- (zfields_ok k hk').1];exact zfields_small k
  | list k nl ks h' =>
   rcases h' with rfl | rfl <;> rcases wrap_cases hw with ⟨e,-⟩ | ⟨e,-⟩ | ⟨e,-⟩ | ⟨e,-⟩ <;> exact absurd e (by decide)
  | nothing=>simp
  | leaf=>simp
 refine ⟨b,g,o,c,p,rfl,h0,h1,h4,hc,hl5,hcell,hi,hpt,hr,hlf,bareS_wrap hw hi,?_,fun u=>eqS_wrap hw hi u,fun u=>mixC_wrap hw hi u⟩
 have:=sizeS_kid ks i hi
 rw [sizeS_mk]
 omega
theorem cmp_left {l r : Syn} (hl : Form l) {i : Nat} (hw : wrapIx l.kind=some i) (ih : ∀ hi : i < l.kids.length,CmpC l.kids[i] r) : CmpC l r:=by
 intro X mb w lv rv m3 hL hR
 obtain ⟨b,g,o,c,p,rfl,h0,h1,h4,hc,hl5,hp,hi,hP,-,-,-,-,he,-⟩:=wrap_at hl hw hL
 have lt0:=cell_lt h0
 have ltm:=cell_lt m3
 have HC:=Lib.hid (ih hi)
 have HE:=Lib.hid (he r)
 obtain ⟨t1,t2,t3,t4,t5,t6,t7,t8,t9,t10,t11,t12⟩:=ta_nil
 have HP:=Lib.hid (And.intro hP hR)
 clear ih he hP hR hL
 rcases wrap_cases hw with ⟨hk,rfl⟩ | ⟨hk,rfl⟩ | ⟨hk,rfl⟩ | ⟨hk,rfl⟩
 all_goals
  rw [hk] at h0
  clear hk hw
  go_enter Tryz.func95,Tryz.ntmps95
  go_wp2_with fail
  refine (zz_field h0 h4 hc (by omega) hi hp (by decide +kernel) (by decide +kernel)).mono ?_
  rintro e w1 ⟨rfl,hE1⟩
  replace m3:=hE1.keep m3
  have KE:=Lib.hid hE1
  clear hE1
  go_wp2_with fail
  refine (HC.out X mb w1 (.pointer p) rv m3 (HP.out.1.mono (KE.out.keeps X)) (HP.out.2.mono (KE.out.keeps X))).mono ?_
  rintro e w2 ⟨⟨q,rfl,hq⟩,hE2⟩
  have K2:=Lib.hid (And.intro hq hE2)
  clear hq hE2
  go_wp2_with fail
  go_ret2
  exact ⟨⟨q,by rw [HE.out];rfl,fun h=>K2.out.1 (by rw [<- HE.out];exact h)⟩,KE.out.trans K2.out.2⟩
theorem eqS_bare {l t u : Syn} (hl : wrapIx l.kind=none) (hb : bareS t=bareS u) : eqS l t=eqS l u:=by
 cases l
 rw [skind_mk] at hl
 rw [eqS_none hl,eqS_none hl,hb]
theorem mixC_bare {l t u : Syn} (hl : wrapIx l.kind=none) (hb : bareS t=bareS u) : mixC l t=mixC l u:=by
 cases l
 rw [skind_mk] at hl
 rw [mixC_none hl,mixC_none hl,hb]
theorem flat_at {X : Nat -> Prop} {w : World} {v : Value} {t : Syn} (hf : Form t) (h : PtrIn X w v t) (hne : t.kind.toList ≠ []) (hlf : leafK t.kind=false) :
  ∃ b a c,v=.pointer (some ⟨b,0,none⟩) /\ w.cell? ⟨b,0,none⟩=some (.string t.kind) /\ w.cell? ⟨b,1,none⟩=some (.bool t.null) /\ w.cell? ⟨b,4,none⟩=some (.slice a t.kids.length c) /\ t.kids.length <= c /\ PtrsIn X w a t.kids /\ (t.kind.toList == [68,101,99,108,83,116,109,116])=false /\ (t.kind.toList == [70,105,101,108,100,76,105,115,116])=false:=by
 obtain ⟨b,a,c,rfl,hX,-,h0,h1,-,-,h4,hc,hP⟩:=h.blk hne
 have:=other_tests _ hf.kind
 exact ⟨b,a,c,rfl,h0,h1,h4,hc,hP,this.1,this.2⟩
theorem cmp_right {l r : Syn} (hl : Form l) (hll : leafK l.kind=false) (hwl : wrapIx l.kind=none) (hr : Form r) {i : Nat} (hw : wrapIx r.kind=some i) (ih : ∀ hi : i < r.kids.length,CmpC l r.kids[i]) : CmpC l r:=by
 intro X mb w lv rv m3 hL hR
 obtain ⟨b,g,o,c,p,rfl,h0,h1,h4,hc,hl5,hp,hi,hP,-,-,hbr,-,-,-⟩:=wrap_at hr hw hR
 have lt0:=cell_lt h0
 have ltm:=cell_lt m3
 have HC:=Lib.hid (ih hi)
 have HE:=Lib.hid (eqS_bare hwl hbr)
 have HB:=Lib.hid hbr
 obtain ⟨t1,t2,t3,t4,t5,t6,t7,t8,t9,t10,t11,t12⟩:=ta_nil
 have HP:=Lib.hid (And.intro hL hP)
 obtain ⟨n1,n2,n3,n4⟩:=wrap_no hwl
 by_cases hne : l.kind.toList=[]
 ·obtain rfl : lv=.pointer none:=hL.nil hne
  clear ih hbr hP hR hL hne
  rcases wrap_cases hw with ⟨hk,rfl⟩ | ⟨hk,rfl⟩ | ⟨hk,rfl⟩ | ⟨hk,rfl⟩
  all_goals
   rw [hk] at h0
   clear hk hw
   go_enter Tryz.func95,Tryz.ntmps95
   go_wp2_with fail
   refine (zz_field h0 h4 hc (by omega) hi hp (by decide +kernel) (by decide +kernel)).mono ?_
   rintro e w1 ⟨rfl,hE1⟩
   replace m3:=hE1.keep m3
   have KE:=Lib.hid hE1
   clear hE1
   go_wp2_with fail
   refine (HC.out X mb w1 _ (.pointer p) m3 (HP.out.1.mono (KE.out.keeps X)) (HP.out.2.mono (KE.out.keeps X))).mono ?_
   rintro e w2 ⟨⟨q,rfl,hq⟩,hE2⟩
   have K2:=Lib.hid (And.intro hq hE2)
   clear hq hE2
   go_wp2_with fail
   go_ret2
   exact ⟨⟨q,by rw [HE.out];rfl,fun h=>by rw [HB.out];exact K2.out.1 (by rw [<- HE.out];exact h)⟩,KE.out.trans K2.out.2⟩
 ·obtain ⟨b1,a1,c1,rfl,k0,k1,k4,-,-,d1,d2⟩:=flat_at hl hL hne hll
  have lt1:=cell_lt k0
  clear ih hbr hP hR hL hne
  rcases wrap_cases hw with ⟨hk,rfl⟩ | ⟨hk,rfl⟩ | ⟨hk,rfl⟩ | ⟨hk,rfl⟩
  all_goals
   rw [hk] at h0
   clear hk hw
   go_enter Tryz.func95,Tryz.ntmps95
   go_wp2_with fail
   refine (zz_field h0 h4 hc (by omega) hi hp (by decide +kernel) (by decide +kernel)).mono ?_
   rintro e w1 ⟨rfl,hE1⟩
   replace m3:=hE1.keep m3
   have KE:=Lib.hid hE1
   clear hE1
   go_wp2_with fail
   refine (HC.out X mb w1 _ (.pointer p) m3 (HP.out.1.mono (KE.out.keeps X)) (HP.out.2.mono (KE.out.keeps X))).mono ?_
   rintro e w2 ⟨⟨q,rfl,hq⟩,hE2⟩
   have K2:=Lib.hid (And.intro hq hE2)
   clear hq hE2
   go_wp2_with fail
   go_ret2
   exact ⟨⟨q,by rw [HE.out];rfl,fun h=>by rw [HB.out];exact K2.out.1 (by rw [<- HE.out];exact h)⟩,KE.out.trans K2.out.2⟩
theorem zfields_ne : ∀ k ∈ expressions ++ statements,(zfields k != [])=true:=by decide +kernel
theorem is_node_yes {w : World} {b : Nat} {k : ByteArray} (h0 : w.cell? ⟨b,0,none⟩=some (.string k)) (hk : k ∈ expressions ++ statements) : Calls Tryz.prog 127 #[.pointer (some ⟨b,0,none⟩)] w fun e w'=>e=.returned (.bool true) /\ Ext w w':=by
 have:=is_node h0
 rw [zfields_ne k hk] at this
 exact this
theorem is_node_no {w : World} {b : Nat} {k : ByteArray} (h0 : w.cell? ⟨b,0,none⟩=some (.string k)) (hk : (zfields k != [])=false) : Calls Tryz.prog 127 #[.pointer (some ⟨b,0,none⟩)] w fun e w'=>e=.returned (.bool false) /\ Ext w w':=by
 have:=is_node h0
 rw [hk] at this
 exact this
theorem nil_ptr (b : Nat) (w : World) : (binOp BinOp.eql 96 (.pointer none) (.pointer (some ⟨b,0,none⟩))).run Tryz.prog w=.ok (.bool false) w:=by kernel_rfl
theorem cmp_nothing {l r : Syn} (hl : Form l) (hr : Form r) (hll : leafK l.kind=false) (hlr : leafK r.kind=false) (hwl : wrapIx l.kind=none) (hwr : wrapIx r.kind=none) (h : l.kind.toList=[] \/ r.kind.toList=[]) (he : eqS l r=(l.kind.toList == r.kind.toList)) : CmpC l r:=by
 intro X mb w lv rv m3 hL hR
 have ltm:=cell_lt m3
 obtain ⟨t1,t2,t3,t4,t5,t6,t7,t8,t9,t10,t11,t12⟩:=ta_nil
 obtain ⟨n1,n2,n3,n4⟩:=wrap_no hwl
 obtain ⟨m1',m2',m3',m4'⟩:=wrap_no hwr
 have HE:=Lib.hid he
 clear he
 by_cases h1 : l.kind.toList=[]
 ·obtain rfl : lv=.pointer none:=hL.nil h1
  by_cases h2 : r.kind.toList=[]
  ·obtain rfl : rv=.pointer none:=hR.nil h2
   have HN:=Lib.hid (And.intro h1 h2)
   have HR:=Lib.hid hR
   clear h1 h2 hR hL h
   go_enter Tryz.func95,Tryz.ntmps95
   go_wp2_with fail
   go_ret2
   refine ⟨⟨none,by rw [HE.out,HN.out.1,HN.out.2];rfl,fun _=>?_⟩,Ext.refl _⟩
   have hb : bareS r=r:=by
    cases r
    exact bareS_none hwr
   rw [hb]
   exact HR.out
  ·obtain ⟨b1,a1,c1,rfl,k0,k1,k4,-,-,d1,d2⟩:=flat_at hr hR h2 hlr
   have lt1:=cell_lt k0
   have HN : Hid ((l.kind.toList == r.kind.toList)=false):=Lib.hid (by rw [h1];exact beq_eq_false_iff_ne.2 (fun e=>h2 e.symm))
   have hnull : r.null=false \/ (r.kind.toList == [66,97,115,105,99,76,105,116])=false:=by
    cases hr with
    | nothing=>exact .inl rfl
    | leaf=>exact .inl rfl
    | node=>exact .inl rfl
    | list k nl ks hk=>right;rw [skind_mk];rcases hk with rfl | rfl <;> decide +kernel
   clear h1 h2 hR hL h
   have tq:=nil_ptr b1
   rcases hnull with hn | hn
   ·rw [hn] at k1
    cases hbl : (r.kind.toList == [66,97,115,105,99,76,105,116])
    all_goals
     go_enter Tryz.func95,Tryz.ntmps95
     go_wp2_with fail
     go_ret2
     rw [HE.out,HN.out]
     exact ⟨⟨_,rfl,fun h=>by cases h⟩,Ext.refl _⟩
   ·go_enter Tryz.func95,Tryz.ntmps95
    go_wp2_with fail
    go_ret2
    rw [HE.out,HN.out]
    exact ⟨⟨_,rfl,fun h=>by cases h⟩,Ext.refl _⟩
 ·obtain ⟨b1,a1,c1,rfl,k0,k1,k4,-,-,d1,d2⟩:=flat_at hl hL h1 hll
  have lt1:=cell_lt k0
  have h2:=h.resolve_left h1
  obtain rfl : rv=.pointer none:=hR.nil h2
  have HN : Hid ((l.kind.toList == r.kind.toList)=false):=Lib.hid (by rw [h2];exact beq_eq_false_iff_ne.2 h1)
  clear h1 h2 hR hL h
  go_enter Tryz.func95,Tryz.ntmps95
  go_wp2_with fail
  go_ret2
  rw [HE.out,HN.out]
  exact ⟨⟨_,rfl,fun h=>by cases h⟩,Ext.refl _⟩
theorem cmp_nodes {N : Nat} (hN : N <= 100000) (ih : CmpIH N) {k k' : ByteArray} {xs ys : List Syn} (hl : Form (.mk k false ⟨#[]⟩ 0 xs)) (hr : Form (.mk k' false ⟨#[]⟩ 0 ys)) (hk : k ∈ expressions ++ statements) (hk' : k' ∈ expressions ++ statements) (hwl : wrapIx k=none) (hwr : wrapIx k'=none) (hs : sizeSs xs + sizeSs ys < N) (hm : mixC (.mk k false ⟨#[]⟩ 0 xs) (.mk k' false ⟨#[]⟩ 0 ys)=false) : CmpC (.mk k false ⟨#[]⟩ 0 xs) (.mk k' false ⟨#[]⟩ 0 ys):=by
 intro X mb w lv rv m3 hL hR
 have ltm:=cell_lt m3
 obtain ⟨t1,t2,t3,t4,t5,t6,t7,t8,t9,t10,t11,t12⟩:=ta_nil
 obtain ⟨n1,n2,n3,n4⟩:=wrap_no hwl
 obtain ⟨m1',m2',m3',m4'⟩:=wrap_no hwr
 have hlf : ∀ k ∈ expressions ++ statements,leafK k=false:=by decide +kernel
 obtain ⟨b1,a1,c1,rfl,p0,p1,p4,hc1,hP1,d1,d2⟩:=flat_at hl hL (by rw [skind_mk];exact node_ne k hk) (by rw [skind_mk];exact hlf k hk)
 obtain ⟨b2,a2,c2,rfl,q0,q1,q4,hc2,hP2,e1,e2⟩:=flat_at hr hR (by rw [skind_mk];exact node_ne k' hk') (by rw [skind_mk];exact hlf k' hk')
 simp only [skind_mk,snull_mk,skids_mk] at p0 p1 p4 q0 q1 q4 hc1 hc2 hP1 hP2 d1 d2 e1 e2
 have lt1:=cell_lt p0
 have lt2:=cell_lt q0
 have hlk : ∀ k ∈ expressions ++ statements,lisK k=false:=by decide +kernel
 have hargs : ∀ {k : ByteArray} {ks : List Syn},k ∈ expressions ++ statements -> Form (.mk k false ⟨#[]⟩ 0 ks) -> ks.length=(asked k).size /\ rightArgs ks (asked k).toList k=true:=by
  intro k ks hk hf
  cases hf with
  | node k ks h h1 h2=>exact ⟨h1,h2⟩
  | nothing=>exact absurd (nodeK_of hk) (by decide +kernel)
  | leaf k x n h=>exact absurd (nodeK_of hk) (by rcases h with ⟨rfl | rfl,-⟩ | ⟨rfl,-⟩ <;> decide +kernel)
  | list k nl ks h=>exact absurd (nodeK_of hk) (by rcases h with rfl | rfl <;> decide +kernel)
 obtain ⟨x1,x2⟩:=hargs hk hl
 obtain ⟨y1,y2⟩:=hargs hk' hr
 have hE : eqS (.mk k false ⟨#[]⟩ 0 xs) (.mk k' false ⟨#[]⟩ 0 ys)=(k.toList == k'.toList && (xs.length == ys.length && eqL xs ys)):=by
  rw [eqS_none hwl,bareS_none hwr]
  simp [stext_mk,snum_mk,skids_mk,skind_mk,Bool.and_assoc]
 have HE:=Lib.hid hE
 have HB : Hid (bareS (.mk k' false ⟨#[]⟩ 0 ys)=.mk k' false ⟨#[]⟩ 0 ys):=Lib.hid (bareS_none hwr)
 have HR:=Lib.hid hR
 have HK:=Lib.hid (And.intro hk hk')
 have HA : ∀ (wq : World),Ext w wq -> Calls Tryz.prog 128 #[.pointer (some ⟨mb,0,none⟩),.pointer (some ⟨b1,0,none⟩),.pointer (some ⟨b2,0,none⟩)] wq fun e w'=>(∃ p,e=.returned (.tuple #[.pointer p,.bool (k.toList == k'.toList && (xs.length == ys.length && eqL xs ys))]) /\ ((k.toList == k'.toList && (xs.length == ys.length && eqL xs ys))=true -> p=some ⟨b2,0,none⟩)) /\ Ext wq w':=by
  intro wq hEq
  cases hkk : (k.toList == k'.toList)
  ·refine (ast_other hkk (hEq.keep p0) (hEq.keep q0)).mono ?_
   rintro e w' ⟨rfl,hx⟩
   exact ⟨⟨none,by simp,by simp⟩,hx⟩
  ·obtain rfl : k=k':=toList_inj (eq_of_beq hkk)
   have hlen : (xs.length == ys.length)=true:=by rw [x1,y1];simp
   rw [hlen,Bool.true_and,Bool.true_and]
   have hm' : mixL xs ys=false:=by
    rw [mixC_none hwl,bareS_none hwr,skind_mk,skids_mk,hlk k hk] at hm
    simpa using hm
   exact ast_walk hN ih hk x1 y1 x2 y2 hs hm' (hEq.keep m3) (hEq.keep p0) (hEq.keep p1) (hEq.keep p4) hc1 (hP1.mono (hEq.keeps X)) (hEq.keep q0) (hEq.keep q1) (hEq.keep q4) hc2 (hP2.mono (hEq.keeps X))
 have HC:=Lib.hid HA
 generalize (k.toList == k'.toList && (xs.length == ys.length && eqL xs ys))=bb at *
 clear hE HA hP1 hP2 hL hR hm hs x1 x2 y1 y2 hl hr hk hk' ih hlk hlf hargs
 cases hbl : (k'.toList == [66,97,115,105,99,76,105,116])
 all_goals
  go_enter Tryz.func95,Tryz.ntmps95
  go_wp2_with fail
  refine (is_node_yes p0 HK.out.1).mono ?_
  rintro e w1 ⟨rfl,hE1⟩
  replace q0:=hE1.keep q0
  have K1:=Lib.hid hE1
  clear hE1
  go_wp2_with fail
  refine (is_node_yes q0 HK.out.2).mono ?_
  rintro e w2 ⟨rfl,hE2⟩
  have K2:=Lib.hid (K1.out.trans hE2)
  clear hE2
  go_wp2_with fail
  refine (HC.out w2 K2.out).mono ?_
  rintro e w3 ⟨⟨q,rfl,hq⟩,hE3⟩
  have K3:=Lib.hid (And.intro hq (K2.out.trans hE3))
  clear hq hE3
  go_wp2_with fail
  go_ret2
  exact ⟨⟨q,by rw [HE.out];rfl,fun h=>by rw [HE.out] at h;obtain rfl:=K3.out.1 h;rw [HB.out];exact HR.out.mono (K3.out.2.keeps X)⟩,K3.out.2⟩
theorem fits_stmt {w : World} {b : Nat} (h0 : w.cell? ⟨b,0,none⟩=some (.string ⟨#[91,93,83,116,109,116]⟩)) : Calls Tryz.prog 129 #[.string ⟨#[91,93,69,120,112,114]⟩,.pointer (some ⟨b,0,none⟩)] w fun e w'=>e=.returned (.bool false) /\ w'=w:=by
 have lt:=cell_lt h0
 have HC : Hid (Calls Tryz.prog 148 #[.pointer (some ⟨b,0,none⟩)] w fun e w'=>e=.returned (.bool false) /\ w'=w):=Lib.hid (by
  go_enter Tryz.func148,Tryz.ntmps148
  go_wp2_with fail
  go_ret
  exact ⟨rfl,rfl⟩)
 go_enter Tryz.func129,Tryz.ntmps129
 go_wp2_with fail
 refine HC.out.mono ?_
 rintro e w1 ⟨rfl,rfl⟩
 go_wp2_with fail
 go_ret
 exact ⟨rfl,rfl⟩
theorem cmp_mixed {k k' : ByteArray} {nl nl' : Bool} {xs ys : List Syn} (h : (k=⟨#[91,93,69,120,112,114]⟩ /\ k'=⟨#[91,93,83,116,109,116]⟩) \/ (k=⟨#[91,93,83,116,109,116]⟩ /\ k'=⟨#[91,93,69,120,112,114]⟩)) (hl : Form (.mk k nl ⟨#[]⟩ 0 xs)) (hr : Form (.mk k' nl' ⟨#[]⟩ 0 ys)) : CmpC (.mk k nl ⟨#[]⟩ 0 xs) (.mk k' nl' ⟨#[]⟩ 0 ys):=by
 intro X mb w lv rv m3 hL hR
 have ltm:=cell_lt m3
 obtain ⟨t1,t2,t3,t4,t5,t6,t7,t8,t9,t10,t11,t12⟩:=ta_nil
 have hE : eqS (.mk k nl ⟨#[]⟩ 0 xs) (.mk k' nl' ⟨#[]⟩ 0 ys)=false:=by
  have hkk : (k.toList == k'.toList)=false:=by rcases h with ⟨rfl,rfl⟩ | ⟨rfl,rfl⟩ <;> decide +kernel
  rw [eqS_none (by rcases h with ⟨rfl,rfl⟩ | ⟨rfl,rfl⟩ <;> decide +kernel),bareS_none (by rcases h with ⟨rfl,rfl⟩ | ⟨rfl,rfl⟩ <;> decide +kernel),skind_mk,hkk]
  simp
 have HE:=Lib.hid hE
 have hne : k.toList ≠ [] /\ k'.toList ≠ [] /\ leafK k=false /\ leafK k'=false:=by rcases h with ⟨rfl,rfl⟩ | ⟨rfl,rfl⟩ <;> decide +kernel
 obtain ⟨b1,a1,c1,rfl,p0,p1,p4,hc1,hP1,-,-⟩:=flat_at hl hL hne.1 hne.2.2.1
 obtain ⟨b2,a2,c2,rfl,q0,q1,q4,hc2,hP2,-,-⟩:=flat_at hr hR hne.2.1 hne.2.2.2
 simp only [skind_mk,snull_mk,skids_mk] at p0 p1 p4 q0 q1 q4 hc1 hc2 hP1 hP2
 have lt1:=cell_lt p0
 have lt2:=cell_lt q0
 clear hE hL hR hl hr hP1 hP2 hne
 rcases h with ⟨rfl,rfl⟩ | ⟨rfl,rfl⟩
 all_goals
  go_enter Tryz.func95,Tryz.ntmps95
  go_wp2_with fail
  refine (is_node_no p0 (by decide +kernel)).mono ?_
  rintro e w1 ⟨rfl,hE1⟩
  have K1:=Lib.hid hE1
  replace p0:=hE1.keep p0
  replace q0:=hE1.keep q0
  replace lt1:=cell_lt p0
  replace lt2:=cell_lt q0
  clear hE1
  go_wp2_with fail
  go_loopw [229] (fun i wr=>i=.int .i64 0 /\ wr=w1.alloc (.cells #[.string ⟨#[91,93,69,120,112,114]⟩,.string ⟨#[91,93,83,116,109,116]⟩,.string ⟨#[91,93,70,105,101,108,100]⟩] 9)) (fun _ _=>0)
  case atStart=>exact ⟨rfl,rfl⟩
  case round =>
   obtain ⟨rfl,rfl⟩:=hrel
   replace p0:=(Ext.alloc w1 (.cells #[.string ⟨#[91,93,69,120,112,114]⟩,.string ⟨#[91,93,83,116,109,116]⟩,.string ⟨#[91,93,70,105,101,108,100]⟩] 9)).keep p0
   replace q0:=(Ext.alloc w1 (.cells #[.string ⟨#[91,93,69,120,112,114]⟩,.string ⟨#[91,93,83,116,109,116]⟩,.string ⟨#[91,93,70,105,101,108,100]⟩] 9)).keep q0
   have lt1':=cell_lt p0
   have lt2':=cell_lt q0
   go_wp2_with fail
   first
    | refine (fits_stmt q0).mono ?_
    | refine (fits_stmt p0).mono ?_
   rintro e w3 ⟨rfl,rfl⟩
   go_wp2_with fail
   go_ret2
   rw [HE.out]
   exact ⟨⟨_,rfl,fun h=>by cases h⟩,K1.out.trans (Ext.alloc _ _)⟩
end Go.Proofs.YtigalkobmfbdaaaGreatDoor
