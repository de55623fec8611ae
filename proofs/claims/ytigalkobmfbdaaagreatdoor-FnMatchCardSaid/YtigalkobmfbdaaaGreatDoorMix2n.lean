/- match of a node and a part: what is around the part for form alone; which method is called. -/
import Derived.Test.YtigalkobmfbdaaaGreatDoorMix2l
import Derived.Test.YtigalkobmfbdaaaGreatDoorCmp4Z2
import Derived.Test.YtigalkobmfbdaaaGreatDoorTabZ2
import Derived.Test.YtigalkobmfbdaaaGreatDoorMix2e
import Derived.Test.YtigalkobmfbdaaaGreatDoorMix2k
set_option linter.unusedVariables false
set_option linter.unusedSimpArgs false
set_option maxRecDepth 100000
set_option maxHeartbeats 4000000
namespace Go.Proofs.YtigalkobmfbdaaaGreatDoor
open Go.RowKit
def Two (R : Option Addr -> Bool -> World -> Prop) (e : Ending) (w : World) : Prop:=∃ p b,e=.returned (.tuple #[.pointer p,.bool b]) /\ R p b w
theorem iface_eq (t : TypeId) (x : Value) (w : World) : (binOp BinOp.eql 78 (.iface t x) .nilIface).run Tryz.prog w=.ok (.bool false) w:=by kernel_rfl
theorem iface_ne (t : TypeId) (x : Value) (w : World) : (binOp BinOp.neq 78 (.iface t x) .nilIface).run Tryz.prog w=.ok (.bool true) w:=by kernel_rfl
theorem mt_unwrap {t : TypeId} {x : Value} {X : Nat -> Prop} {mb : Nat} {R : Option Addr -> Bool -> World -> Prop} (r : Syn) : RS r -> ∀ (w : World) (pv : Value),w.cell? ⟨mb,3,none⟩=some (.bool false) -> PtrIn X w pv r →
  (∀ w' pv',Ext w w' -> PtrIn X w' pv' (bareS r) -> Calls Tryz.prog 95 #[.pointer (some ⟨mb,0,none⟩),.iface t x,.pointer none,pv'] w' (Two R)) →
  Calls Tryz.prog 95 #[.pointer (some ⟨mb,0,none⟩),.iface t x,.pointer none,pv] w (Two R):=by
 induction r using Syn.ind with | h r ih=>?_
 intro hr w pv m3 hP hK
 cases hw : wrapIx r.kind with
 | none =>
  have hb : bareS r=r:=by
   cases r
   exact bareS_none hw
  exact hK w pv (Ext.refl _) (by rw [hb];exact hP)
 | some i =>
  obtain ⟨b,g,o,c,p,rfl,h0,h1,h4,hc,hl5,hp,hi,hPk,hrk,-,hbr,-,-,-⟩:=wrap_at hr.form hw hP
  have lt0:=cell_lt h0
  have ltm:=cell_lt m3
  have HI:=Lib.hid (ih i hi hrk)
  have HQ:=Lib.hid hPk
  have HK:=Lib.hid hK
  have HB:=Lib.hid hbr
  have e1:=iface_eq t x
  clear ih hPk hK hP hbr
  rcases wrap_cases hw with ⟨hk,rfl⟩ | ⟨hk,rfl⟩ | ⟨hk,rfl⟩ | ⟨hk,rfl⟩
  all_goals
   rw [hk] at h0
   clear hk hw
   go_enter Tryz.func95,Tryz.ntmps95
   go_wp2_with fail
   refine (zz_field h0 h4 hc (by omega) hi hp (by decide +kernel) (by decide +kernel)).mono ?_
   rintro e w1 ⟨rfl,hE1⟩
   replace m3:=hE1.keep m3
   have KE:=Lib.hid hE1
   clear hE1
   go_wp2_with fail
   refine (HI.out w1 (.pointer p) m3 (HQ.out.mono (KE.out.keeps X)) (fun w' pv' hx hp'=>HK.out w' pv' (KE.out.trans hx) (by rw [HB.out];exact hp'))).mono ?_
   rintro e w2 ⟨q,bb,rfl,hR⟩
   have KR:=Lib.hid hR
   clear hR
   go_wp2_with fail
   go_ret2
   exact ⟨q,bb,rfl,KR.out⟩
def Bare (w : World) (pv : Value) : Prop:=pv=.pointer none \/ ∃ b k nl,pv=.pointer (some ⟨b,0,none⟩) /\ w.cell? ⟨b,0,none⟩=some (.string k) /\ w.cell? ⟨b,1,none⟩=some (.bool nl) /\ (k.toList == [80,97,114,101,110,69,120,112,114])=false /\ (k.toList == [69,120,112,114,83,116,109,116])=false /\ (k.toList == [66,108,111,99,107,83,116,109,116])=false /\ (k.toList == [76,97,98,101,108,101,100,83,116,109,116])=false /\ (k.toList == [68,101,99,108,83,116,109,116])=false /\ (k.toList == [70,105,101,108,100,76,105,115,116])=false /\ ((k.toList == [66,97,115,105,99,76,105,116])=false \/ nl=false)
theorem bare_in {X : Nat -> Prop} {w : World} {pv : Value} {r : Syn} (hr : RS r) (hw : wrapIx r.kind=none) (h : PtrIn X w pv r) : Bare w pv:=by
 by_cases hne : r.kind.toList=[]
 ·exact .inl (h.nil hne)
 ·obtain ⟨b,a,c,rfl,-,-,h0,h1,-⟩:=h.blk hne
  obtain ⟨n1,n2,n3,n4⟩:=wrap_no hw
  have hf:=hr.form
  have ho:=other_tests _ hf.kind
  refine .inr ⟨b,r.kind,r.null,rfl,h0,h1,n1,n2,n3,n4,ho.1,ho.2,?_⟩
  cases hf with
  | nothing=>exact .inr rfl
  | leaf=>exact .inr rfl
  | node=>exact .inr rfl
  | list k nl ks hk=>left;rw [skind_mk];rcases hk with rfl | rfl <;> decide +kernel
theorem disp_any {x pv : Value} {mb : Nat} {w : World} {R : Option Addr -> Bool -> World -> Prop} (m3 : w.cell? ⟨mb,3,none⟩=some (.bool false)) (hb : Bare w pv) (hC : Calls Tryz.prog 224 #[x,.pointer (some ⟨mb,0,none⟩),pv] w (Two R)) :
  Calls Tryz.prog 95 #[.pointer (some ⟨mb,0,none⟩),.iface 130 x,.pointer none,pv] w (Two R):=by
 have ltm:=cell_lt m3
 have HC:=Lib.hid hC
 have e1:=iface_eq 130 x
 have e2:=iface_ne 130 x
 have e3 : ∀ w : World,(Instr.typeAssert (.iface 130 x) 78 199 true).run Tryz.prog w=.ok (.tuple #[.iface 130 x,.bool true]) w:=fun w=>by kernel_rfl
 have e4 : ∀ w : World,(method 199 130 x "Match").run Tryz.prog w=.ok (224,x) w:=fun w=>by kernel_rfl
 clear hC
 rcases hb with rfl | ⟨b,k,nl,rfl,h0,h1,n1,n2,n3,n4,n5,n6,hn⟩
 ·go_enter Tryz.func95,Tryz.ntmps95
  go_wp2_with fail
  refine HC.out.mono ?_
  rintro e w2 ⟨q,bb,rfl,hR⟩
  have KR:=Lib.hid hR
  clear hR
  go_wp2_with fail
  go_ret2
  exact ⟨q,bb,rfl,KR.out⟩
 ·have lt0:=cell_lt h0
  rcases hn with hn | rfl
  ·go_enter Tryz.func95,Tryz.ntmps95
   go_wp2_with fail
   refine HC.out.mono ?_
   rintro e w2 ⟨q,bb,rfl,hR⟩
   have KR:=Lib.hid hR
   clear hR
   go_wp2_with fail
   go_ret2
   exact ⟨q,bb,rfl,KR.out⟩
  ·cases hn : (k.toList == [66,97,115,105,99,76,105,116])
   all_goals
    go_enter Tryz.func95,Tryz.ntmps95
    go_wp2_with fail
    refine HC.out.mono ?_
    rintro e w2 ⟨q,bb,rfl,hR⟩
    have KR:=Lib.hid hR
    clear hR
    go_wp2_with fail
    go_ret2
    exact ⟨q,bb,rfl,KR.out⟩
theorem disp_nil {x pv : Value} {mb : Nat} {w : World} {R : Option Addr -> Bool -> World -> Prop} (m3 : w.cell? ⟨mb,3,none⟩=some (.bool false)) (hb : Bare w pv) (hC : Calls Tryz.prog 227 #[x,.pointer (some ⟨mb,0,none⟩),pv] w (Two R)) :
  Calls Tryz.prog 95 #[.pointer (some ⟨mb,0,none⟩),.iface 131 x,.pointer none,pv] w (Two R):=by
 have ltm:=cell_lt m3
 have HC:=Lib.hid hC
 have e1:=iface_eq 131 x
 have e2:=iface_ne 131 x
 have e3 : ∀ w : World,(Instr.typeAssert (.iface 131 x) 78 199 true).run Tryz.prog w=.ok (.tuple #[.iface 131 x,.bool true]) w:=fun w=>by kernel_rfl
 have e4 : ∀ w : World,(method 199 131 x "Match").run Tryz.prog w=.ok (227,x) w:=fun w=>by kernel_rfl
 clear hC
 rcases hb with rfl | ⟨b,k,nl,rfl,h0,h1,n1,n2,n3,n4,n5,n6,hn⟩
 ·go_enter Tryz.func95,Tryz.ntmps95
  go_wp2_with fail
  refine HC.out.mono ?_
  rintro e w2 ⟨q,bb,rfl,hR⟩
  have KR:=Lib.hid hR
  clear hR
  go_wp2_with fail
  go_ret2
  exact ⟨q,bb,rfl,KR.out⟩
 ·have lt0:=cell_lt h0
  rcases hn with hn | rfl
  ·go_enter Tryz.func95,Tryz.ntmps95
   go_wp2_with fail
   refine HC.out.mono ?_
   rintro e w2 ⟨q,bb,rfl,hR⟩
   have KR:=Lib.hid hR
   clear hR
   go_wp2_with fail
   go_ret2
   exact ⟨q,bb,rfl,KR.out⟩
  ·cases hn : (k.toList == [66,97,115,105,99,76,105,116])
   all_goals
    go_enter Tryz.func95,Tryz.ntmps95
    go_wp2_with fail
    refine HC.out.mono ?_
    rintro e w2 ⟨q,bb,rfl,hR⟩
    have KR:=Lib.hid hR
    clear hR
    go_wp2_with fail
    go_ret2
    exact ⟨q,bb,rfl,KR.out⟩
theorem disp_str {x pv : Value} {mb : Nat} {w : World} {R : Option Addr -> Bool -> World -> Prop} (m3 : w.cell? ⟨mb,3,none⟩=some (.bool false)) (hb : Bare w pv) (hC : Calls Tryz.prog 230 #[x,.pointer (some ⟨mb,0,none⟩),pv] w (Two R)) :
  Calls Tryz.prog 95 #[.pointer (some ⟨mb,0,none⟩),.iface 132 x,.pointer none,pv] w (Two R):=by
 have ltm:=cell_lt m3
 have HC:=Lib.hid hC
 have e1:=iface_eq 132 x
 have e2:=iface_ne 132 x
 have e3 : ∀ w : World,(Instr.typeAssert (.iface 132 x) 78 199 true).run Tryz.prog w=.ok (.tuple #[.iface 132 x,.bool true]) w:=fun w=>by kernel_rfl
 have e4 : ∀ w : World,(method 199 132 x "Match").run Tryz.prog w=.ok (230,x) w:=fun w=>by kernel_rfl
 clear hC
 rcases hb with rfl | ⟨b,k,nl,rfl,h0,h1,n1,n2,n3,n4,n5,n6,hn⟩
 ·go_enter Tryz.func95,Tryz.ntmps95
  go_wp2_with fail
  refine HC.out.mono ?_
  rintro e w2 ⟨q,bb,rfl,hR⟩
  have KR:=Lib.hid hR
  clear hR
  go_wp2_with fail
  go_ret2
  exact ⟨q,bb,rfl,KR.out⟩
 ·have lt0:=cell_lt h0
  rcases hn with hn | rfl
  ·go_enter Tryz.func95,Tryz.ntmps95
   go_wp2_with fail
   refine HC.out.mono ?_
   rintro e w2 ⟨q,bb,rfl,hR⟩
   have KR:=Lib.hid hR
   clear hR
   go_wp2_with fail
   go_ret2
   exact ⟨q,bb,rfl,KR.out⟩
  ·cases hn : (k.toList == [66,97,115,105,99,76,105,116])
   all_goals
    go_enter Tryz.func95,Tryz.ntmps95
    go_wp2_with fail
    refine HC.out.mono ?_
    rintro e w2 ⟨q,bb,rfl,hR⟩
    have KR:=Lib.hid hR
    clear hR
    go_wp2_with fail
    go_ret2
    exact ⟨q,bb,rfl,KR.out⟩
theorem disp_tok {x pv : Value} {mb : Nat} {w : World} {R : Option Addr -> Bool -> World -> Prop} (m3 : w.cell? ⟨mb,3,none⟩=some (.bool false)) (hb : Bare w pv) (hC : Calls Tryz.prog 235 #[x,.pointer (some ⟨mb,0,none⟩),pv] w (Two R)) :
  Calls Tryz.prog 95 #[.pointer (some ⟨mb,0,none⟩),.iface 134 x,.pointer none,pv] w (Two R):=by
 have ltm:=cell_lt m3
 have HC:=Lib.hid hC
 have e1:=iface_eq 134 x
 have e2:=iface_ne 134 x
 have e3 : ∀ w : World,(Instr.typeAssert (.iface 134 x) 78 199 true).run Tryz.prog w=.ok (.tuple #[.iface 134 x,.bool true]) w:=fun w=>by kernel_rfl
 have e4 : ∀ w : World,(method 199 134 x "Match").run Tryz.prog w=.ok (235,x) w:=fun w=>by kernel_rfl
 clear hC
 rcases hb with rfl | ⟨b,k,nl,rfl,h0,h1,n1,n2,n3,n4,n5,n6,hn⟩
 ·go_enter Tryz.func95,Tryz.ntmps95
  go_wp2_with fail
  refine HC.out.mono ?_
  rintro e w2 ⟨q,bb,rfl,hR⟩
  have KR:=Lib.hid hR
  clear hR
  go_wp2_with fail
  go_ret2
  exact ⟨q,bb,rfl,KR.out⟩
 ·have lt0:=cell_lt h0
  rcases hn with hn | rfl
  ·go_enter Tryz.func95,Tryz.ntmps95
   go_wp2_with fail
   refine HC.out.mono ?_
   rintro e w2 ⟨q,bb,rfl,hR⟩
   have KR:=Lib.hid hR
   clear hR
   go_wp2_with fail
   go_ret2
   exact ⟨q,bb,rfl,KR.out⟩
  ·cases hn : (k.toList == [66,97,115,105,99,76,105,116])
   all_goals
    go_enter Tryz.func95,Tryz.ntmps95
    go_wp2_with fail
    refine HC.out.mono ?_
    rintro e w2 ⟨q,bb,rfl,hR⟩
    have KR:=Lib.hid hR
    clear hR
    go_wp2_with fail
    go_ret2
    exact ⟨q,bb,rfl,KR.out⟩
theorem disp_list {x pv : Value} {mb : Nat} {w : World} {R : Option Addr -> Bool -> World -> Prop} (m3 : w.cell? ⟨mb,3,none⟩=some (.bool false)) (hb : Bare w pv) (hC : Calls Tryz.prog 238 #[x,.pointer (some ⟨mb,0,none⟩),pv] w (Two R)) :
  Calls Tryz.prog 95 #[.pointer (some ⟨mb,0,none⟩),.iface 136 x,.pointer none,pv] w (Two R):=by
 have ltm:=cell_lt m3
 have HC:=Lib.hid hC
 have e1:=iface_eq 136 x
 have e2:=iface_ne 136 x
 have e3 : ∀ w : World,(Instr.typeAssert (.iface 136 x) 78 199 true).run Tryz.prog w=.ok (.tuple #[.iface 136 x,.bool true]) w:=fun w=>by kernel_rfl
 have e4 : ∀ w : World,(method 199 136 x "Match").run Tryz.prog w=.ok (238,x) w:=fun w=>by kernel_rfl
 clear hC
 rcases hb with rfl | ⟨b,k,nl,rfl,h0,h1,n1,n2,n3,n4,n5,n6,hn⟩
 ·go_enter Tryz.func95,Tryz.ntmps95
  go_wp2_with fail
  refine HC.out.mono ?_
  rintro e w2 ⟨q,bb,rfl,hR⟩
  have KR:=Lib.hid hR
  clear hR
  go_wp2_with fail
  go_ret2
  exact ⟨q,bb,rfl,KR.out⟩
 ·have lt0:=cell_lt h0
  rcases hn with hn | rfl
  ·go_enter Tryz.func95,Tryz.ntmps95
   go_wp2_with fail
   refine HC.out.mono ?_
   rintro e w2 ⟨q,bb,rfl,hR⟩
   have KR:=Lib.hid hR
   clear hR
   go_wp2_with fail
   go_ret2
   exact ⟨q,bb,rfl,KR.out⟩
  ·cases hn : (k.toList == [66,97,115,105,99,76,105,116])
   all_goals
    go_enter Tryz.func95,Tryz.ntmps95
    go_wp2_with fail
    refine HC.out.mono ?_
    rintro e w2 ⟨q,bb,rfl,hR⟩
    have KR:=Lib.hid hR
    clear hR
    go_wp2_with fail
    go_ret2
    exact ⟨q,bb,rfl,KR.out⟩
theorem disp_bind {x pv : Value} {mb : Nat} {w : World} {R : Option Addr -> Bool -> World -> Prop} (m3 : w.cell? ⟨mb,3,none⟩=some (.bool false)) (hb : Bare w pv) (hC : Calls Tryz.prog 243 #[x,.pointer (some ⟨mb,0,none⟩),pv] w (Two R)) :
  Calls Tryz.prog 95 #[.pointer (some ⟨mb,0,none⟩),.iface 138 x,.pointer none,pv] w (Two R):=by
 have ltm:=cell_lt m3
 have HC:=Lib.hid hC
 have e1:=iface_eq 138 x
 have e2:=iface_ne 138 x
 have e3 : ∀ w : World,(Instr.typeAssert (.iface 138 x) 78 199 true).run Tryz.prog w=.ok (.tuple #[.iface 138 x,.bool true]) w:=fun w=>by kernel_rfl
 have e4 : ∀ w : World,(method 199 138 x "Match").run Tryz.prog w=.ok (243,x) w:=fun w=>by kernel_rfl
 clear hC
 rcases hb with rfl | ⟨b,k,nl,rfl,h0,h1,n1,n2,n3,n4,n5,n6,hn⟩
 ·go_enter Tryz.func95,Tryz.ntmps95
  go_wp2_with fail
  refine HC.out.mono ?_
  rintro e w2 ⟨q,bb,rfl,hR⟩
  have KR:=Lib.hid hR
  clear hR
  go_wp2_with fail
  go_ret2
  exact ⟨q,bb,rfl,KR.out⟩
 ·have lt0:=cell_lt h0
  rcases hn with hn | rfl
  ·go_enter Tryz.func95,Tryz.ntmps95
   go_wp2_with fail
   refine HC.out.mono ?_
   rintro e w2 ⟨q,bb,rfl,hR⟩
   have KR:=Lib.hid hR
   clear hR
   go_wp2_with fail
   go_ret2
   exact ⟨q,bb,rfl,KR.out⟩
  ·cases hn : (k.toList == [66,97,115,105,99,76,105,116])
   all_goals
    go_enter Tryz.func95,Tryz.ntmps95
    go_wp2_with fail
    refine HC.out.mono ?_
    rintro e w2 ⟨q,bb,rfl,hR⟩
    have KR:=Lib.hid hR
    clear hR
    go_wp2_with fail
    go_ret2
    exact ⟨q,bb,rfl,KR.out⟩
theorem disp_or {x pv : Value} {mb : Nat} {w : World} {R : Option Addr -> Bool -> World -> Prop} (m3 : w.cell? ⟨mb,3,none⟩=some (.bool false)) (hb : Bare w pv) (hC : Calls Tryz.prog 247 #[x,.pointer (some ⟨mb,0,none⟩),pv] w (Two R)) :
  Calls Tryz.prog 95 #[.pointer (some ⟨mb,0,none⟩),.iface 140 x,.pointer none,pv] w (Two R):=by
 have ltm:=cell_lt m3
 have HC:=Lib.hid hC
 have e1:=iface_eq 140 x
 have e2:=iface_ne 140 x
 have e3 : ∀ w : World,(Instr.typeAssert (.iface 140 x) 78 199 true).run Tryz.prog w=.ok (.tuple #[.iface 140 x,.bool true]) w:=fun w=>by kernel_rfl
 have e4 : ∀ w : World,(method 199 140 x "Match").run Tryz.prog w=.ok (247,x) w:=fun w=>by kernel_rfl
 clear hC
 rcases hb with rfl | ⟨b,k,nl,rfl,h0,h1,n1,n2,n3,n4,n5,n6,hn⟩
 ·go_enter Tryz.func95,Tryz.ntmps95
  go_wp2_with fail
  refine HC.out.mono ?_
  rintro e w2 ⟨q,bb,rfl,hR⟩
  have KR:=Lib.hid hR
  clear hR
  go_wp2_with fail
  go_ret2
  exact ⟨q,bb,rfl,KR.out⟩
 ·have lt0:=cell_lt h0
  rcases hn with hn | rfl
  ·go_enter Tryz.func95,Tryz.ntmps95
   go_wp2_with fail
   refine HC.out.mono ?_
   rintro e w2 ⟨q,bb,rfl,hR⟩
   have KR:=Lib.hid hR
   clear hR
   go_wp2_with fail
   go_ret2
   exact ⟨q,bb,rfl,KR.out⟩
  ·cases hn : (k.toList == [66,97,115,105,99,76,105,116])
   all_goals
    go_enter Tryz.func95,Tryz.ntmps95
    go_wp2_with fail
    refine HC.out.mono ?_
    rintro e w2 ⟨q,bb,rfl,hR⟩
    have KR:=Lib.hid hR
    clear hR
    go_wp2_with fail
    go_ret2
    exact ⟨q,bb,rfl,KR.out⟩
end Go.Proofs.YtigalkobmfbdaaaGreatDoor
namespace Go.Proofs.YtigalkobmfbdaaaGreatDoor
open Go.RowKit
theorem bare_bare {r : Syn} (hr : RS r) : bareS (bareS r)=bareS r:=by
 have hw:=hr.bare.2
 generalize bareS r=u at *
 cases u
 exact bareS_none hw
theorem peel_bare (r : Syn) : RS r -> peelS (bareS r)=peelS r:=by
 induction r using Syn.ind with | h r ih=>?_
 intro hr
 cases hw : wrapIx r.kind with
 | none =>
  have hb : bareS r=r:=by
   cases r
   exact bareS_none hw
  rw [hb]
 | some i =>
  obtain ⟨k,ks,rfl,-,hi,hrk,-⟩:=hr.form.wrap hw
  rw [skind_mk] at hw
  rw [bareS_wrap hw hi,peelS_wrap hw hi]
  exact ih i hi hrk
mutual
theorem mt_bare {nm : Names} {r : Syn} (hr : RS r) : ∀ (wi : Bool) (n : PN) (S : SL),mt nm wi n (bareS r) S=mt nm wi n r S
 | _,.nul,_=>by rw [mt,mt]
 | _,.any,_=>by rw [mt,mt,bare_bare hr]
 | _,.nil,_=>by rw [mt,mt,bare_bare hr]
 | _,.str s,_=>by rw [mt,mt,bare_bare hr]
 | _,.tok s,_=>by rw [mt,mt]
 | wi,.struct k [],S=>by rw [mt,mt,peel_bare r hr] <;> (intro q hq;simp at hq)
 | wi,.struct k [q],S=>by rw [mt,mt,peel_bare r hr,bare_bare hr,mt_bare hr wi q S]
 | wi,.struct k (_ :: _ :: _),S=>by rw [mt,mt,peel_bare r hr] <;> (intro q hq;simp at hq)
 | wi,.list h t,S=>by rw [mt,mt,bare_bare hr]
 | wi,.bind x n i,S=>by rw [mt,mt,bare_bare hr,mt_bare hr wi n S]
 | wi,.or ks,S=>by rw [mt,mt,mtOr_bare hr ks S]
 | _,.and _,_=>by rw [mt,mt]
 | _,.index _ _ _,_=>by rw [mt,mt]
theorem mtOr_bare {nm : Names} {r : Syn} (hr : RS r) : ∀ (ks : List PN) (S : SL),mtOr nm ks (bareS r) S=mtOr nm ks r S
 | [],S=>by rw [mtOr,mtOr]
 | q :: qs,S=>by rw [mtOr,mtOr,mt_bare hr true q S,mtOr_bare hr qs S]
end
theorem RZ.bare {r : Syn} (h : RZ r) : RZ (bareS r) /\ wrapIx (bareS r).kind=none:=⟨⟨h.1.bare.1,Nat.le_trans (bare_size r h.1) h.2⟩,h.1.bare.2⟩
def MtP (nm : Names) (mb tb : Nat) (w : World) (rv : Value) (wi : Bool) (S S' : SL) (st : List (BitVec 64)) (T : BitVec 64) (ok : Bool) (o : Syn) (p : Option Addr) (b : Bool) (w' : World) : Prop :=
 b=ok /\ ∃ rv' T',(ok=true -> PtrIn (XB mb tb rv') w' (.pointer p) o /\ RZ o) /\ MAt nm mb tb w' rv' S' (st ++ [T']) /\ Adv nm wi S S' T T' /\ Trn mb tb rv rv' w w'
theorem MtP.ext {nm : Names} {mb tb : Nat} {w w1 : World} {rv : Value} {wi : Bool} {S S' : SL} {st : List (BitVec 64)} {T : BitVec 64} {ok : Bool} {o : Syn} {p : Option Addr} {b : Bool} {w' : World} (hE : Ext w w1) (h : MtP nm mb tb w1 rv wi S S' st T ok o p b w') : MtP nm mb tb w rv wi S S' st T ok o p b w':=by
 obtain ⟨h1,rv',T',h2,h3,h4,h5⟩:=h
 exact ⟨h1,rv',T',h2,h3,h4,(Trn.of_ext hE).trans h5⟩
def MtC (nm : Names) (n : PN) : Prop:=∀ (wi : Bool) (r : Syn) (S : SL) (ok : Bool) (o : Syn) (S' : SL),RZ r -> mt nm wi n r S=some (ok,o,S') →
 ∀ (mb tb : Nat) (w : World) (rv : Value) (st : List (BitVec 64)) (T : BitVec 64) (nv pv : Value),st.length + n.cnt <= 1000 -> MAt nm mb tb w rv S (st ++ [T]) -> NodeAt (XB mb tb rv) w nv n -> PtrIn (XB mb tb rv) w pv r →
 Calls Tryz.prog 95 #[.pointer (some ⟨mb,0,none⟩),nv,.pointer none,pv] w (Two (MtP nm mb tb w rv wi S S' st T ok o))
def MtB (nm : Names) (n : PN) : Prop:=∀ (wi : Bool) (r : Syn) (S : SL) (ok : Bool) (o : Syn) (S' : SL),RZ r -> wrapIx r.kind=none -> mt nm wi n r S=some (ok,o,S') →
 ∀ (mb tb : Nat) (w : World) (rv : Value) (st : List (BitVec 64)) (T : BitVec 64) (nv pv : Value),st.length + n.cnt <= 1000 -> MAt nm mb tb w rv S (st ++ [T]) -> NodeAt (XB mb tb rv) w nv n -> PtrIn (XB mb tb rv) w pv r →
 Calls Tryz.prog 95 #[.pointer (some ⟨mb,0,none⟩),nv,.pointer none,pv] w (Two (MtP nm mb tb w rv wi S S' st T ok o))
theorem NodeAt.iface {X : Nat -> Prop} {w : World} {n : PN} {v : Value} (h : NodeAt X w v n) (hn : n.isNul=false) : ∃ t x,v=.iface t x:=by
 rcases h.shape with rfl | h'
 ·cases n <;> rw [NodeAt] at h
  all_goals first
   | (cases hn;done)
   | (cases h;done)
   | (obtain ⟨a,c,e,-⟩:=h;cases e;done)
   | (obtain ⟨nv,e,-⟩:=h;cases e;done)
 ·exact h'
theorem mt_of_bare {nm : Names} {n : PN} (h : MtB nm n) : MtC nm n:=by
 intro wi r S ok o S' hr hm mb tb w rv st T nv pv hc hM hN hP
 have hnn : n.isNul=false:=by
  cases n <;> first | rfl | (rw [mt] at hm;cases hm)
 obtain ⟨t,x,rfl⟩:=hN.iface hnn
 obtain ⟨ba,bc,c0,c1,c2,c3,-⟩:=hM.cells
 refine mt_unwrap r hr.1 w pv c3 hP (fun w' pv' hE hP'=>?_)
 have hb:=hr.bare
 refine (h wi (bareS r) S ok o S' hb.1 hb.2 (by rw [mt_bare hr.1];exact hm) mb tb w' rv st T _ pv' hc (hM.ext hE) (hN.mono (hE.keeps _)) hP').mono ?_
 rintro e w2 ⟨p,b,rfl,hR⟩
 exact ⟨p,b,rfl,hR.ext hE⟩
theorem mt_bare_eq {r : Syn} (hw : wrapIx r.kind=none) : bareS r=r:=by
 cases r
 exact bareS_none hw
end Go.Proofs.YtigalkobmfbdaaaGreatDoor
set_option maxRecDepth 100000
set_option maxHeartbeats 1000000
namespace Go.Proofs.YtigalkobmfbdaaaGreatDoor
open Go.RowKit
def tokL : List ByteArray:=[⟨#[73,78,84]⟩,⟨#[70,76,79,65,84]⟩,⟨#[73,77,65,71]⟩,⟨#[67,72,65,82]⟩,⟨#[83,84,82,73,78,71]⟩,⟨#[43]⟩,⟨#[45]⟩,⟨#[42]⟩,⟨#[47]⟩,⟨#[37]⟩,⟨#[38]⟩,⟨#[124]⟩,⟨#[94]⟩,⟨#[60,60]⟩,⟨#[62,62]⟩,⟨#[38,94]⟩,⟨#[43,61]⟩,⟨#[45,61]⟩,⟨#[42,61]⟩,⟨#[47,61]⟩,⟨#[37,61]⟩,⟨#[38,61]⟩,⟨#[124,61]⟩,⟨#[94,61]⟩,⟨#[60,60,61]⟩,⟨#[62,62,61]⟩,⟨#[38,94,61]⟩,⟨#[38,38]⟩,⟨#[124,124]⟩,⟨#[60,45]⟩,⟨#[43,43]⟩,⟨#[45,45]⟩,⟨#[61,61]⟩,⟨#[60]⟩,⟨#[62]⟩,⟨#[61]⟩,⟨#[33]⟩,⟨#[33,61]⟩,⟨#[60,61]⟩,⟨#[62,61]⟩,⟨#[58,61]⟩,⟨#[46,46,46]⟩,⟨#[73,77,80,79,82,84]⟩,⟨#[86,65,82]⟩,⟨#[84,89,80,69]⟩,⟨#[67,79,78,83,84]⟩,⟨#[66,82,69,65,75]⟩,⟨#[67,79,78,84,73,78,85,69]⟩,⟨#[71,79,84,79]⟩,⟨#[70,65,76,76,84,72,82,79,85,71,72]⟩]
def isTok (s : ByteArray) : Bool:=tokL.any fun x=>s.toList == x.toList
theorem sw_any {α : Type} (s : ByteArray) (v d : α) : ∀ l : List ByteArray,sw s (l.map fun x=>(x,v)) d=if (l.any fun x=>s.toList == x.toList) then v else d
 | []=>rfl
 | x :: l=>by
  rw [List.map_cons,sw,sw_any s v d l,List.any_cons]
  cases s.toList == x.toList <;> rfl
theorem tok_run (s : ByteArray) (w : World) : callK Tryz.prog Tryz.f234 #[.string s] w=sw s (tokL.map fun x=>(x,some (Value.tuple #[.string s,.bool true],w))) (some (Value.tuple #[.string ⟨#[]⟩,.bool false],w)):=by kernel_rfl
theorem tok_yes {s : ByteArray} (h : isTok s=true) (w : World) : Calls Tryz.prog 234 #[.string s] w fun e w'=>e=.returned (.tuple #[.string s,.bool true]) /\ w=w' :=
 callK_sound Tryz.func234 ((tok_run s w).trans (by rw [sw_any,if_pos (show (tokL.any fun x=>s.toList == x.toList)=true from h)]))
theorem tok_no {s : ByteArray} (h : isTok s=false) (w : World) : Calls Tryz.prog 234 #[.string s] w fun e w'=>e=.returned (.tuple #[.string ⟨#[]⟩,.bool false]) /\ w=w' :=
 callK_sound Tryz.func234 ((tok_run s w).trans (by rw [sw_any,if_neg (by rw [show (tokL.any fun x=>s.toList == x.toList)=false from h];decide)]))
theorem maybe_yes {s : ByteArray} (h : isTok s=true) (w : World) : Calls Tryz.prog 233 #[.iface 132 (.string s)] w fun e w'=>e=.returned (.tuple #[.iface 134 (.string s),.bool true]) /\ Ext w w':=by
 obtain ⟨t1,t2,t3,t4,t5,t6,t7,t8,t9,t10,t11,t12⟩:=ta_132 (.string s)
 have HT:=Lib.hid (tok_yes h)
 clear h
 go_enter Tryz.func233,Tryz.ntmps233
 go_wp2_with fail
 refine (HT.out _).mono ?_
 rintro e w1 ⟨rfl,rfl⟩
 go_wp2_with fail
 go_ret2
 exact ⟨rfl,by first | exact Ext.refl _ | exact Ext.alloc _ _ | exact (Ext.alloc _ _).trans (Ext.alloc _ _)⟩
theorem maybe_no {s : ByteArray} (h : isTok s=false) (w : World) : Calls Tryz.prog 233 #[.iface 132 (.string s)] w fun e w'=>e=.returned (.tuple #[.iface 132 (.string s),.bool false]) /\ Ext w w':=by
 obtain ⟨t1,t2,t3,t4,t5,t6,t7,t8,t9,t10,t11,t12⟩:=ta_132 (.string s)
 have HT:=Lib.hid (tok_no h)
 clear h
 go_enter Tryz.func233,Tryz.ntmps233
 go_wp2_with fail
 refine (HT.out _).mono ?_
 rintro e w1 ⟨rfl,rfl⟩
 go_wp2_with fail
 go_ret2
 exact ⟨rfl,by first | exact Ext.refl _ | exact Ext.alloc _ _ | exact (Ext.alloc _ _).trans (Ext.alloc _ _)⟩
theorem tokens_tok : ∀ x ∈ tokensT,∀ y ∈ x.2,isTok y=true:=by decide +kernel
theorem right_tok {t : Syn} (h : RS t) (hk : t.kind.toList=[84,111,107,101,110]) : isTok t.text=true:=by
 obtain ⟨c,hc,of,h⟩:=h
 obtain ⟨k,nl,x,n,ks⟩:=t
 rw [skind_mk] at hk
 have hk' : k=⟨#[84,111,107,101,110]⟩:=beq_lit (beq_iff_eq.2 hk)
 subst hk'
 rw [stext_mk]
 have hno : ∀ {c : Int},nodeL c -> ¬ (fitsL c ⟨#[84,111,107,101,110]⟩=true):=by
  intro c hc
  rcases hc with rfl | rfl | rfl | rfl | rfl <;> decide +kernel
 simp only [letters,List.mem_cons,List.not_mem_nil,or_false] at hc
 rcases hc with rfl | rfl | rfl | rfl | rfl | rfl | rfl | rfl | rfl | rfl | rfl | rfl
 ·obtain ⟨-,-,-,-,ha⟩:=rs_t h
  rw [List.any_eq_true] at ha
  obtain ⟨y,hy,e⟩:=ha
  rw [<- toList_inj (eq_of_beq e)]
  rcases sw_cases of tokensT [] with ⟨e2,-⟩ | ⟨z,hz,-,e2⟩
  ·have e3 : tokens of=[]:=e2
   rw [e3] at hy;cases hy
  ·have e3 : tokens of=z.2:=e2
   rw [e3] at hy
   exact tokens_tok z hz y hy
 ·exact absurd (rs_n h).2.1 (by decide +kernel)
 ·exact absurd (rs_b h).2.1 (by decide +kernel)
 ·exact absurd (rs_l h).2.1 (by decide +kernel)
 ·exact absurd (rs_m h).2.1 (by decide +kernel)
 ·rw [right_low_69 _ _ _ _ _ _ (by decide +kernel)] at h
  exact absurd (rs_node (.inl rfl) h).2.1 (hno (.inl rfl))
 ·rw [right_low_83 _ _ _ _ _ _ (by decide +kernel)] at h
  exact absurd (rs_node (.inr (.inl rfl)) h).2.1 (hno (.inr (.inl rfl)))
 ·exact absurd (rs_node (.inl rfl) h).2.1 (hno (.inl rfl))
 ·exact absurd (rs_node (.inr (.inl rfl)) h).2.1 (hno (.inr (.inl rfl)))
 ·exact absurd (rs_node (.inr (.inr (.inl rfl))) h).2.1 (hno (.inr (.inr (.inl rfl))))
 ·exact absurd (rs_node (.inr (.inr (.inr (.inl rfl)))) h).2.1 (hno (.inr (.inr (.inr (.inl rfl)))))
 ·exact absurd (rs_node (.inr (.inr (.inr (.inr rfl)))) h).2.1 (hno (.inr (.inr (.inr (.inr rfl)))))
end Go.Proofs.YtigalkobmfbdaaaGreatDoor
set_option maxRecDepth 100000
set_option maxHeartbeats 1000000
namespace Go.Proofs.YtigalkobmfbdaaaGreatDoor
open Go.RowKit
theorem mtP_same {nm : Names} {mb tb : Nat} {w : World} {rv : Value} {wi : Bool} {S : SL} {st : List (BitVec 64)} {T : BitVec 64} {o : Syn} (hM : MAt nm mb tb w rv S (st ++ [T])) {w' : World} (hE : Ext w w') {p : Option Addr} {b : Bool} (hP : b=true -> PtrIn (XB mb tb rv) w' (.pointer p) o /\ RZ o) : MtP nm mb tb w rv wi S S st T b o p b w' :=
 ⟨rfl,rv,T,hP,hM.ext hE,Adv.refl _ _ _ _,Trn.of_ext hE⟩
theorem any_calls (pv mv : Value) (w : World) : Calls Tryz.prog 224 #[.agg #[],mv,pv] w fun e w'=>e=.returned (.tuple #[pv,.bool true]) /\ Ext w w':=by
 go_enter Tryz.func224,Tryz.ntmps224
 go_wp2_with fail
 go_ret2
 exact ⟨rfl,Ext.alloc _ _⟩
theorem mtB_any (nm : Names) : MtB nm .any:=by
 intro wi r S ok o S' hr hw hm mb tb w rv st T nv pv hc hM hN hP
 rw [mt,mt_bare_eq hw] at hm
 cases hm
 rw [NodeAt] at hN
 subst hN
 obtain ⟨ba,bc,c0,c1,c2,c3,-⟩:=hM.cells
 obtain ⟨p,rfl⟩:=hP.ptr
 refine disp_any c3 (bare_in hr.1 hw hP) ((any_calls _ _ w).mono ?_)
 rintro e w' ⟨rfl,hE⟩
 exact ⟨p,true,rfl,mtP_same hM hE fun _=>⟨hP.mono (hE.keeps _),hr⟩⟩
theorem nil_none (mv : Value) (w : World) : Calls Tryz.prog 227 #[.agg #[],mv,.pointer none] w fun e w'=>e=.returned (.tuple #[.pointer none,.bool true]) /\ Ext w w':=by
 go_enter Tryz.func227,Tryz.ntmps227
 go_wp2_with fail
 go_ret2
 exact ⟨rfl,Ext.alloc _ _⟩
theorem nil_some {mv : Value} {w : World} {b : Nat} {k : ByteArray} (h0 : w.cell? ⟨b,0,none⟩=some (.string k)) (h1 : w.cell? ⟨b,1,none⟩=some (.bool false)) (hk : k.size <= 100000) : Calls Tryz.prog 227 #[.agg #[],mv,.pointer (some ⟨b,0,none⟩)] w fun e w'=>e=.returned (.tuple #[.pointer none,.bool false]) /\ Ext w w':=by
 have lt0:=cell_lt h0
 have HN : ∀ w2 : World,Ext w w2 -> Calls Tryz.prog 127 #[.pointer (some ⟨b,0,none⟩)] w2 fun e w'=>e=.returned (.bool (zfields k != [])) /\ Ext w2 w':=fun w2 hE=>is_node (hE.keep h0)
 have HL : ∀ w2 : World,Ext w w2 -> Calls Tryz.prog 147 #[.pointer (some ⟨b,0,none⟩)] w2 fun e w'=>e=.returned (.bool (decide (2 < k.size) && (k.extract 0 2).toList == [91,93])) /\ w'=w2:=fun w2 hE=>is_list (hE.keep h0) hk
 generalize (zfields k != [])=b1 at *
 generalize (decide (2 < k.size) && (k.extract 0 2).toList == [91,93])=b2 at *
 have KN:=Lib.hid HN
 have KL:=Lib.hid HL
 have hE1:=Ext.alloc w (.cells #[] 131)
 replace h0:=hE1.keep h0
 replace h1:=hE1.keep h1
 have KE:=Lib.hid hE1
 clear HN HL hE1
 cases b1 <;> cases b2
 all_goals
  go_enter Tryz.func227,Tryz.ntmps227
  go_wp2_with fail
  generalize w.alloc (.cells #[] 131)=w1 at *
  have x0:=Exts.cell h0
  have x1:=Exts.cell h1
  have lt1 : ∀ e : Exts w1,b < e.val.heap.size:=fun e=>cell_lt (x0 e)
  refine wp_region_ext (by kernel_rfl) (by kernel_rfl) ?_
  repeat (first
   | go_big_quiet_skip
   | (go_big_quiet_want;go_big_quiet_op;first
     | go_big_quiet_on
     | (refine ⟨_,fun e=>Calls.ext_of (KN.out e.val (KE.out.trans e.ext)),?_⟩;go_big_quiet_on)
     | (refine ⟨_,fun e=>Calls.ext_of ((KL.out e.val (KE.out.trans e.ext)).mono fun _ _ h=>⟨h.1,h.2 ▸ Ext.refl _⟩),?_⟩;go_big_quiet_on)))
  refine wpQuiet_nil ?_
  intro e
  obtain ⟨w7,hE7⟩:=e
  go_wp2_with fail
  go_ret2
  exact ⟨rfl,KE.out.trans hE7⟩
theorem kind_small : ∀ k ∈ [⟨#[]⟩,⟨#[84,111,107,101,110]⟩,⟨#[115,116,114,105,110,103]⟩,⟨#[98,111,111,108]⟩,⟨#[91,93,69,120,112,114]⟩,⟨#[91,93,83,116,109,116]⟩] ++ (expressions ++ statements),k.size <= 100:=by decide +kernel
theorem mtB_nil (nm : Names) : MtB nm .nil:=by
 intro wi r S ok o S' hr hw hm mb tb w rv st T nv pv hc hM hN hP
 rw [mt,mt_bare_eq hw] at hm
 rw [NodeAt] at hN
 subst hN
 obtain ⟨ba,bc,c0,c1,c2,c3,-⟩:=hM.cells
 have hB:=bare_in hr.1 hw hP
 split at hm
 ·cases hm
 rename_i hln
 have hf:=hr.1.form
 by_cases hne : r.kind.toList=[]
 ·obtain rfl : pv=.pointer none:=hP.nil hne
  rw [hne] at hm
  cases hm
  refine disp_nil c3 hB ((nil_none _ w).mono ?_)
  rintro e w' ⟨rfl,hE⟩
  exact ⟨none,true,rfl,mtP_same hM hE fun _=>⟨hP.mono (hE.keeps _),hr⟩⟩
 ·obtain ⟨b,a,c,rfl,-,-,h0,h1,-⟩:=hP.blk hne
  have hz : r.kind.size <= 100000:=Nat.le_trans (kind_small _ hf.kind) (by decide)
  have hnl : r.null=false:=by
   cases hf with
   | nothing=>rfl
   | leaf=>rfl
   | node=>rfl
   | list k nl ks hk =>
    rw [snull_mk,skind_mk] at *
    have : lisK k=true:=by rcases hk with rfl | rfl <;> decide +kernel
    rw [this] at hln
    simpa using hln
  rw [hnl] at h1
  have he : (r.kind.toList == [])=false:=beq_eq_false_iff_ne.2 hne
  rw [he] at hm
  cases hm
  refine disp_nil c3 hB ((nil_some h0 h1 hz).mono ?_)
  rintro e w' ⟨rfl,hE⟩
  exact ⟨none,false,rfl,mtP_same hM hE fun h=>by cases h⟩
theorem tok_match {mv : Value} {w : World} {b : Nat} {s x : ByteArray} (h0 : w.cell? ⟨b,0,none⟩=some (.string ⟨#[84,111,107,101,110]⟩)) (h2 : w.cell? ⟨b,2,none⟩=some (.string x)) : Calls Tryz.prog 235 #[.string s,mv,.pointer (some ⟨b,0,none⟩)] w fun e w'=>e=.returned (.tuple #[.pointer (some ⟨b,0,none⟩),.bool (s.toList == x.toList)]) /\ Ext w w':=by
 have lt0:=cell_lt h0
 go_enter Tryz.func235,Tryz.ntmps235
 go_wp2_with fail
 go_quiet (fail)
 go_wp2_with fail
 go_ret2
 exact ⟨rfl,Ext.drewN _ _⟩
theorem str_none (mv : Value) (s : ByteArray) (w : World) : Calls Tryz.prog 230 #[.string s,mv,.pointer none] w fun e w'=>e=.returned (.tuple #[.pointer none,.bool false]) /\ Ext w w':=by
 go_enter Tryz.func230,Tryz.ntmps230
 go_wp2_with fail
 go_ret2
 exact ⟨rfl,Ext.refl _⟩
theorem str_other {mv : Value} {s k : ByteArray} {w : World} {b : Nat} (h0 : w.cell? ⟨b,0,none⟩=some (.string k)) (h1 : (k.toList == [84,111,107,101,110])=false) (h2 : (k.toList == [115,116,114,105,110,103])=false) : Calls Tryz.prog 230 #[.string s,mv,.pointer (some ⟨b,0,none⟩)] w fun e w'=>e=.returned (.tuple #[.pointer none,.bool false]) /\ Ext w w':=by
 have lt0:=cell_lt h0
 go_enter Tryz.func230,Tryz.ntmps230
 go_wp2_with fail
 go_ret2
 exact ⟨rfl,Ext.refl _⟩
theorem str_text {mv : Value} {s x : ByteArray} {w : World} {b : Nat} (h0 : w.cell? ⟨b,0,none⟩=some (.string ⟨#[115,116,114,105,110,103]⟩)) (h2 : w.cell? ⟨b,2,none⟩=some (.string x)) : Calls Tryz.prog 230 #[.string s,mv,.pointer (some ⟨b,0,none⟩)] w fun e w'=>e=.returned (.tuple #[.pointer (some ⟨b,0,none⟩),.bool (s.toList == x.toList)]) /\ Ext w w':=by
 have lt0:=cell_lt h0
 go_enter Tryz.func230,Tryz.ntmps230
 go_wp2_with fail
 go_quiet (fail)
 go_wp2_with fail
 go_ret2
 exact ⟨rfl,Ext.drewN _ _⟩
theorem str_tok {mb : Nat} {s x : ByteArray} {w : World} {b : Nat} (m3 : w.cell? ⟨mb,3,none⟩=some (.bool false)) (h0 : w.cell? ⟨b,0,none⟩=some (.string ⟨#[84,111,107,101,110]⟩)) (h1 : w.cell? ⟨b,1,none⟩=some (.bool false)) (h2 : w.cell? ⟨b,2,none⟩=some (.string x)) (hx : isTok x=true) : Calls Tryz.prog 230 #[.string s,.pointer (some ⟨mb,0,none⟩),.pointer (some ⟨b,0,none⟩)] w fun e w'=>(∃ p,e=.returned (.tuple #[.pointer p,.bool (s.toList == x.toList)]) /\ ((s.toList == x.toList)=true -> p=some ⟨b,0,none⟩)) /\ Ext w w':=by
 have lt0:=cell_lt h0
 cases hs : isTok s
 ·have hne : (s.toList == x.toList)=false:=by
   cases h : (s.toList == x.toList) with
   | false=>rfl
   | true=>rw [toList_inj (eq_of_beq h),hx] at hs;cases hs
  have HM:=Lib.hid (maybe_no hs)
  have HN:=Lib.hid hne
  clear hs hne hx
  go_enter Tryz.func230,Tryz.ntmps230
  go_wp2_with fail
  refine (HM.out _).mono ?_
  rintro e w1 ⟨rfl,hE1⟩
  have K1:=Lib.hid hE1
  clear hE1
  go_wp2_with fail
  go_ret2
  rw [HN.out]
  exact ⟨⟨none,rfl,fun h=>by cases h⟩,K1.out⟩
 ·have HM:=Lib.hid (maybe_yes hs)
  have HB : ∀ w1 : World,Ext w w1 -> Calls Tryz.prog 95 #[.pointer (some ⟨mb,0,none⟩),.iface 134 (.string s),.pointer none,.pointer (some ⟨b,0,none⟩)] w1 (Two fun p bb w'=>(bb=(s.toList == x.toList) /\ p=some ⟨b,0,none⟩) /\ Ext w1 w'):=by
   intro w1 hE
   refine disp_tok (hE.keep m3) (.inr ⟨b,⟨#[84,111,107,101,110]⟩,false,rfl,hE.keep h0,hE.keep h1,by decide +kernel,by decide +kernel,by decide +kernel,by decide +kernel,by decide +kernel,by decide +kernel,.inr rfl⟩) ((tok_match (hE.keep h0) (hE.keep h2)).mono ?_)
   rintro e w' ⟨rfl,hx⟩
   exact ⟨_,_,rfl,⟨rfl,rfl⟩,hx⟩
  have KB:=Lib.hid HB
  clear hs hx HB
  generalize (s.toList == x.toList)=bb at *
  go_enter Tryz.func230,Tryz.ntmps230
  go_wp2_with fail
  refine (HM.out _).mono ?_
  rintro e w1 ⟨rfl,hE1⟩
  have K1:=Lib.hid hE1
  clear hE1
  go_wp2_with fail
  refine (KB.out w1 K1.out).mono ?_
  rintro e w2 ⟨p,b2,rfl,⟨rfl,rfl⟩,hE2⟩
  have K2:=Lib.hid (K1.out.trans hE2)
  clear hE2
  go_wp2_with fail
  go_ret2
  exact ⟨⟨_,rfl,fun _=>rfl⟩,K2.out⟩
theorem mtB_str (nm : Names) (s : ByteArray) : MtB nm (.str s):=by
 intro wi r S ok o S' hr hw hm mb tb w rv st T nv pv hc hM hN hP
 rw [mt,mt_bare_eq hw] at hm
 rw [NodeAt] at hN
 subst hN
 obtain ⟨ba,bc,c0,c1,c2,c3,-⟩:=hM.cells
 have hB:=bare_in hr.1 hw hP
 have hf:=hr.1.form
 by_cases hne : r.kind.toList=[]
 ·obtain rfl : pv=.pointer none:=hP.nil hne
  rw [hne] at hm
  cases hm
  refine disp_str c3 hB ((str_none _ s w).mono ?_)
  rintro e w' ⟨rfl,hE⟩
  exact ⟨none,false,rfl,mtP_same hM hE fun h=>by cases h⟩
 ·obtain ⟨b,a,c,rfl,-,-,h0,h1,h2,-⟩:=hP.blk hne
  cases hk1 : (r.kind.toList == [115,116,114,105,110,103])
  ·cases hk2 : (r.kind.toList == [84,111,107,101,110])
   ·rw [hk1,hk2] at hm
    cases hm
    refine disp_str c3 hB ((str_other h0 hk2 hk1).mono ?_)
    rintro e w' ⟨rfl,hE⟩
    exact ⟨none,false,rfl,mtP_same hM hE fun h=>by cases h⟩
   ·rw [hk1,hk2] at hm
    cases hm
    have hkk : r.kind=⟨#[84,111,107,101,110]⟩:=beq_lit hk2
    have hnl : r.null=false:=by
     cases hf with
     | nothing=>rfl
     | leaf=>rfl
     | node=>rfl
     | list k nl ks hk=>rw [skind_mk] at hkk;rcases hk with rfl | rfl <;> exact absurd hkk (by decide)
    rw [hkk] at h0
    rw [hnl] at h1
    refine disp_str c3 hB ((str_tok c3 h0 h1 h2 (right_tok hr.1 (eq_of_beq hk2))).mono ?_)
    rintro e w' ⟨⟨p,rfl,hp⟩,hE⟩
    refine ⟨p,_,rfl,mtP_same hM hE fun h=>?_⟩
    obtain rfl:=hp (by simpa using h)
    exact ⟨hP.mono (hE.keeps _),hr⟩
  ·rw [hk1] at hm
   cases hm
   rw [show r.kind=⟨#[115,116,114,105,110,103]⟩ from beq_lit hk1] at h0
   refine disp_str c3 hB ((str_text h0 h2).mono ?_)
   rintro e w' ⟨rfl,hE⟩
   exact ⟨_,_,rfl,mtP_same hM hE fun _=>⟨hP.mono (hE.keeps _),hr⟩⟩
end Go.Proofs.YtigalkobmfbdaaaGreatDoor
set_option maxRecDepth 100000
set_option maxHeartbeats 1000000
namespace Go.Proofs.YtigalkobmfbdaaaGreatDoor
open Go.RowKit
theorem isNil_calls {X : Nat -> Prop} {n : PN} {v : Value} {w0 : World} (hN : NodeAt X w0 v n) (w : World) : Calls Tryz.prog 241 #[v] w fun e w'=>e=.returned (.bool (isNilN n)) /\ Ext w w':=by
 have hK : ∀ {T : TypeId} {x : Value},(∀ w : World,(Instr.typeAssert (.iface T x) 78 131 true).run Tryz.prog w=.ok (.tuple #[.agg #[],.bool false]) w) -> (∀ w : World,(binOp BinOp.eql 78 (.iface T x) .nilIface).run Tryz.prog w=.ok (.bool false) w) -> Calls Tryz.prog 241 #[.iface T x] w fun e w'=>e=.returned (.bool false) /\ Ext w w':=by
  intro T x h1 h2
  go_enter Tryz.func241,Tryz.ntmps241
  go_wp2_with fail
  go_ret
  exact ⟨rfl,Ext.alloc _ _⟩
 cases n <;> rw [NodeAt] at hN
 ·subst hN
  obtain ⟨t1,t2,t3,t4,t5,t6,t7,t8,t9,t10,t11,t12⟩:=ta_nil
  go_enter Tryz.func241,Tryz.ntmps241
  go_wp2_with fail
  go_ret
  exact ⟨rfl,Ext.refl _⟩
 ·subst hN
  obtain ⟨t1,t2,t3,t4,t5,t6,t7,t8,t9,t10,t11,t12⟩:=ta_130 (.agg #[])
  exact hK t4 t11
 ·subst hN
  obtain ⟨t1,t2,t3,t4,t5,t6,t7,t8,t9,t10,t11,t12⟩:=ta_131 (.agg #[])
  go_enter Tryz.func241,Tryz.ntmps241
  go_wp2_with fail
  go_ret
  exact ⟨rfl,Ext.alloc _ _⟩
 ·subst hN
  rename_i s
  obtain ⟨t1,t2,t3,t4,t5,t6,t7,t8,t9,t10,t11,t12⟩:=ta_132 (.string s)
  exact hK t4 t11
 ·subst hN
  rename_i s
  obtain ⟨t1,t2,t3,t4,t5,t6,t7,t8,t9,t10,t11,t12⟩:=ta_134 (.string s)
  exact hK t4 t11
 ·obtain ⟨a,c,rfl,-⟩:=hN
  rename_i nm ks
  obtain ⟨t1,t2,t3,t4,t5,t6,t7,t8,t9,t10,t11,t12⟩:=ta_127 (.agg #[.string nm,.slice a ks.length c])
  exact hK t4 t11
 ·obtain ⟨hv,tv,rfl,-⟩:=hN
  obtain ⟨t1,t2,t3,t4,t5,t6,t7,t8,t9,t10,t11,t12⟩:=ta_136 (.agg #[hv,tv])
  exact hK t4 t11
 ·obtain ⟨nv,rfl,-⟩:=hN
  rename_i nm n i
  obtain ⟨t1,t2,t3,t4,t5,t6,t7,t8,t9,t10,t11,t12⟩:=ta_138 (.agg #[.string nm,nv,.int .i64 i])
  exact hK t4 t11
 ·obtain ⟨a,c,rfl,-⟩:=hN
  rename_i ks
  obtain ⟨t1,t2,t3,t4,t5,t6,t7,t8,t9,t10,t11,t12⟩:=ta_140 (.agg #[.slice a ks.length c])
  exact hK t4 t11
 ·obtain ⟨a,c,rfl,-⟩:=hN
  rename_i ks
  obtain ⟨t1,t2,t3,t4,t5,t6,t7,t8,t9,t10,t11,t12⟩:=ta_141 (.agg #[.slice a ks.length c])
  exact hK t4 t11
 ·subst hN
  rename_i p t i
  obtain ⟨t1,t2,t3,t4,t5,t6,t7,t8,t9,t10,t11,t12⟩:=ta_87 (.agg #[.string p,.string t,.string i])
  exact hK t4 t11
def NV (v : Value) : Prop:=v=.nilIface \/ ∃ t x,v=.iface t x
theorem list_nothing {hv tv mv : Value} (h1 : NV hv) (h2 : NV tv) (w : World) : Calls Tryz.prog 238 #[.agg #[hv,tv],mv,.pointer none] w fun e w'=>e=.returned (.tuple #[.pointer none,.bool false]) /\ Ext w w':=by
 rcases h1 with rfl | ⟨_,_,rfl⟩ <;> rcases h2 with rfl | ⟨_,_,rfl⟩
 all_goals
  go_enter Tryz.func238,Tryz.ntmps238
  go_wp2_with fail
  go_ret2
  exact ⟨rfl,Ext.alloc _ _⟩
theorem list_not {hv tv mv : Value} (h1 : NV hv) (h2 : NV tv) {w : World} {b : Nat} {k : ByteArray} (h0 : w.cell? ⟨b,0,none⟩=some (.string k)) (hk : k.size <= 100000) (hl : (decide (2 < k.size) && (k.extract 0 2).toList == [91,93])=false) : Calls Tryz.prog 238 #[.agg #[hv,tv],mv,.pointer (some ⟨b,0,none⟩)] w fun e w'=>e=.returned (.tuple #[.pointer none,.bool false]) /\ Ext w w':=by
 have lt0:=cell_lt h0
 have k0:=(Ext.alloc w (.cells #[hv,tv] 136)).keep h0
 rcases h1 with rfl | ⟨_,_,rfl⟩ <;> rcases h2 with rfl | ⟨_,_,rfl⟩
 all_goals
  go_enter Tryz.func238,Tryz.ntmps238
  go_wp2_with fail
  refine (is_list_no k0 hk hl).mono ?_
  rintro e w1 ⟨rfl,rfl⟩
  go_wp2_with fail
  go_ret2
  exact ⟨rfl,Ext.alloc _ _⟩
theorem list_empty {X : Nat -> Prop} {hn : PN} {hv tv mv : Value} (h1 : NV hv) (h2 : NV tv) {w : World} (hH : NodeAt X w hv hn) (hnil : isNilN hn=true) {b m c : Nat} {a : Option Addr} {k : ByteArray} (h0 : w.cell? ⟨b,0,none⟩=some (.string k)) (h4 : w.cell? ⟨b,4,none⟩=some (.slice a m c)) (hk : k.size <= 100000) (hl : (decide (2 < k.size) && (k.extract 0 2).toList == [91,93])=true) :
  Calls Tryz.prog 238 #[.agg #[hv,tv],mv,.pointer (some ⟨b,0,none⟩)] w fun e w'=>e=.returned (.tuple #[.pointer (some ⟨b,0,none⟩),.bool ((m : Int) == 0)]) /\ Ext w w':=by
 have lt0:=cell_lt h0
 have k0:=(Ext.alloc w (.cells #[hv,tv] 136)).keep h0
 have k4:=(Ext.alloc w (.cells #[hv,tv] 136)).keep h4
 have HN:=Lib.hid (fun w1=>isNil_calls hH w1)
 rw [hnil] at HN
 have KN:=HN
 clear HN hH hnil
 rcases h1 with rfl | ⟨_,_,rfl⟩ <;> rcases h2 with rfl | ⟨_,_,rfl⟩
 all_goals
  go_enter Tryz.func238,Tryz.ntmps238
  go_wp2_with fail
  refine (is_list_yes k0 hk hl).mono ?_
  rintro e w1 ⟨rfl,rfl⟩
  go_wp2_with fail
  refine (KN.out _).mono ?_
  rintro e w2 ⟨rfl,hE2⟩
  replace k4:=hE2.keep k4
  have lt4:=cell_lt k4
  have K2:=Lib.hid ((Ext.alloc _ _).trans hE2)
  clear hE2
  go_wp2_with fail
  go_quiet (fail)
  go_wp2_with fail
  go_ret2
  exact ⟨rfl,K2.out.trans (Ext.drewN _ _)⟩
theorem XB.new {nm : Names} {mb tb : Nat} {w : World} {rv : Value} {S : SL} {st : List (BitVec 64)} (h : MAt nm mb tb w rv S st) {b : Nat} (hb : w.heap.size <= b) : XB mb tb rv b:=by
 have h1:=h.lt
 obtain ⟨V,hV,-⟩:=h.tab
 have h2:=hV.lt
 refine ⟨by omega,by omega,fun e=>?_⟩
 have:=(h.row.lt b e).2
 omega
theorem list_short {X : Nat -> Prop} {hn : PN} {hv tv mv : Value} (h1 : NV hv) (h2 : NV tv) {w : World} (hH : NodeAt X w hv hn) (hnil : isNilN hn=false) {b c : Nat} {a : Option Addr} {k : ByteArray} (h0 : w.cell? ⟨b,0,none⟩=some (.string k)) (h4 : w.cell? ⟨b,4,none⟩=some (.slice a 0 c)) (hk : k.size <= 100000) (hl : (decide (2 < k.size) && (k.extract 0 2).toList == [91,93])=true) :
  Calls Tryz.prog 238 #[.agg #[hv,tv],mv,.pointer (some ⟨b,0,none⟩)] w fun e w'=>e=.returned (.tuple #[.pointer none,.bool false]) /\ Ext w w':=by
 have lt0:=cell_lt h0
 have k0:=(Ext.alloc w (.cells #[hv,tv] 136)).keep h0
 have k4:=(Ext.alloc w (.cells #[hv,tv] 136)).keep h4
 have HN:=Lib.hid (fun w1=>isNil_calls hH w1)
 rw [hnil] at HN
 have KN:=HN
 clear HN hH hnil
 rcases h1 with rfl | ⟨_,_,rfl⟩ <;> rcases h2 with rfl | ⟨_,_,rfl⟩
 all_goals
  go_enter Tryz.func238,Tryz.ntmps238
  go_wp2_with fail
  refine (is_list_yes k0 hk hl).mono ?_
  rintro e w1 ⟨rfl,rfl⟩
  go_wp2_with fail
  refine (KN.out _).mono ?_
  rintro e w2 ⟨rfl,hE2⟩
  replace k4:=hE2.keep k4
  have lt4:=cell_lt k4
  have K2:=Lib.hid ((Ext.alloc _ _).trans hE2)
  clear hE2
  go_wp2_with fail
  go_ret2
  exact ⟨rfl,K2.out⟩
end Go.Proofs.YtigalkobmfbdaaaGreatDoor
set_option maxRecDepth 100000
set_option maxHeartbeats 4000000
namespace Go.Proofs.YtigalkobmfbdaaaGreatDoor
open Go.RowKit
theorem ptr_mk {X : Nat -> Prop} {w : World} {n c : Nat} {k x : ByteArray} {nl : Bool} {m : Int} {ks : List Syn} {a : Option Addr} (hk : k.toList ≠ []) (hX : X n) (hB : Blk w n #[.string k,.bool nl,.string x,.int .i64 m,.slice a ks.length c] 145) (hc : ks.length <= c) (hP : PtrsIn X w a ks) : PtrIn X w (.pointer (some ⟨n,0,none⟩)) (.mk k nl x m ks):=by
 rw [PtrIn]
 refine ⟨fun h=>absurd h hk,fun _=>⟨n,a,c,rfl,hX,?_,?_,?_,?_,?_,hc,hP⟩⟩
 all_goals (rw [hB.cell];rfl)
theorem list_cons {nm : Names} {h t : PN} (ihh : MtC nm h) (iht : MtC nm t) (hnil : isNilN h=false) {wi : Bool} {k : ByteArray} {nl : Bool} {x : Syn} {xs : List Syn} {S S1 S2 : SL} {ok1 ok2 : Bool} {o1 o2 : Syn} (hm1 : mt nm wi h x S=some (ok1,o1,S1)) (hm2 : mt nm wi t (.mk k false ⟨#[]⟩ 0 xs) S1=some (ok2,o2,S2))
  (hr : RZ (.mk k nl ⟨#[]⟩ 0 (x :: xs))) (hx : RZ x) (hxs : RZ (.mk k false ⟨#[]⟩ 0 xs)) {mb tb : Nat} {w : World} {rv : Value} {st : List (BitVec 64)} {T : BitVec 64} {hv tv : Value} {b : Nat} (hc1 : st.length + h.cnt <= 1000) (hc2 : st.length + t.cnt <= 1000) (hM : MAt nm mb tb w rv S (st ++ [T])) (hH : NodeAt (XB mb tb rv) w hv h) (hT : NodeAt (XB mb tb rv) w tv t) (hP : PtrIn (XB mb tb rv) w (.pointer (some ⟨b,0,none⟩)) (.mk k nl ⟨#[]⟩ 0 (x :: xs))) (hkn : k.toList ≠ []) (hk : k.size <= 100000) (hl : (decide (2 < k.size) && (k.extract 0 2).toList == [91,93])=true) :
  Calls Tryz.prog 238 #[.agg #[hv,tv],.pointer (some ⟨mb,0,none⟩),.pointer (some ⟨b,0,none⟩)] w (Two (MtP nm mb tb w rv wi S S2 st T (ok1 && ok2) (.mk k nl ⟨#[]⟩ 0 (x :: xs)))):=by
 obtain ⟨T1,X1,rfl⟩:=hH.iface (by cases h <;> first | rfl | cases hnil)
 obtain ⟨T2,X2,rfl⟩:=hT.iface (by cases t <;> first | rfl | (rw [mt] at hm2;cases hm2))
 obtain ⟨b',a,c,e,hbX,-,h0,h1,-,-,h4,hc,hPs⟩:=hP.blk (by rw [skind_mk];exact hkn)
 obtain rfl : b=b':=by simpa using e
 simp only [skind_mk,snull_mk,skids_mk] at h0 h1 h4 hc hPs
 obtain ⟨g,o,v1,rfl,hgX,hg0,hp1⟩:=hPs.get 0 (by simp)
 obtain ⟨p1,rfl⟩:=hp1.ptr
 simp only [Nat.add_zero,List.getElem_cons_zero] at hg0 hp1
 rw [PtrsIn] at hPs
 obtain ⟨g',o',v',eg,-,-,-,hPt⟩:=hPs
 obtain ⟨rfl,rfl⟩ : g=g' /\ o=o':=by simpa using eg
 have lt0:=cell_lt h0
 have hE0:=Ext.alloc w (.cells #[.iface T1 X1,.iface T2 X2] 136)
 have hbX2 : XB mb tb rv w.heap.size:=XB.new hM (Nat.le_refl _)
 have hB : Blk (w.alloc (.cells #[.iface T1 X1,.iface T2 X2] 136)) w.heap.size #[.iface T1 X1,.iface T2 X2] 136:=Blk.new _ _ _
 have HN:=Lib.hid (fun w1=>isNil_calls hH w1)
 rw [hnil] at HN
 have KN:=HN
 have HM:=Lib.hid (And.intro hM (And.intro hH (And.intro hT (And.intro hP (And.intro hp1 hPt)))))
 have HI:=Lib.hid (And.intro (ihh wi x S ok1 o1 S1 hx hm1) (iht wi (.mk k false ⟨#[]⟩ 0 xs) S1 ok2 o2 S2 hxs hm2))
 have HX:=Lib.hid (And.intro hbX (And.intro hgX hbX2))
 have HE0:=Lib.hid hE0
 have HBl:=Lib.hid hB
 have k0:=hE0.keep h0
 have k4:=hE0.keep h4
 simp only [List.length_cons] at k4 hc
 have hlen : (((xs.length + 1 : Nat) : Int) == 0)=false:=by rw [beq_eq_false_iff_ne];omega
 clear HN hH hT hP hp1 hPt hM hnil hE0 h4 h1 hB hbX hgX hbX2 ihh iht hm1 hm2
 go_enter Tryz.func238,Tryz.ntmps238
 go_wp2_with fail
 refine (is_list_yes k0 hk hl).mono ?_
 rintro e w1 ⟨rfl,rfl⟩
 go_wp2_with fail
 refine (KN.out _).mono ?_
 rintro e w2 ⟨rfl,hE2⟩
 replace k0:=hE2.keep k0
 replace k4:=hE2.keep k4
 have hB:=HBl.out.ext hE2
 have j0 : w2.cell? ⟨w.heap.size,0,none⟩=some (.iface T1 X1):=by rw [hB.cell];rfl
 have j1 : w2.cell? ⟨w.heap.size,1,none⟩=some (.iface T2 X2):=by rw [hB.cell];rfl
 have g0:=hE2.keep (HE0.out.keep hg0)
 have lt4:=cell_lt k4
 have lt5:=cell_lt j0
 have lt6:=cell_lt g0
 have K2:=Lib.hid (HE0.out.trans hE2)
 clear hE2 hB
 go_wp2_with fail
 go_region_held3 (fun w'=>w'.cell? ⟨w.heap.size,0,none⟩=some (.iface T1 X1) /\ w'.cell? ⟨b,4,none⟩=some (.slice (some ⟨g,o,none⟩) (xs.length + 1) c) /\ w'.cell? ⟨g,o,none⟩=some (.pointer p1)) (go_keep)
  (first
   | (go_at_call 95;refine (HI.out.1 mb tb _ rv st T _ _ hc1 (HM.out.1.ext (K2.out.trans (Ext.drew _))) (HM.out.2.1.mono ((K2.out.trans (Ext.drew _)).keeps _)) (HM.out.2.2.2.2.1.mono ((K2.out.trans (Ext.drew _)).keeps _))).mono ?_;rintro e w3 ⟨q,bb,rfl,rfl,rv1,T1',hq,hM1,hA1,hT1⟩;have KT:=Lib.hid hT1;have KQ:=Lib.hid (And.intro hM1 hA1);have KD:=Lib.hid (Ext.drew w2);have i0:=(KT.out.keep _ _ _ HX.out.2.2 (KD.out.keep j0)).2;have i4:=(KT.out.keep _ _ _ HX.out.1 (KD.out.keep k4)).2;have ig:=(KT.out.keep _ _ _ HX.out.2.1 (KD.out.keep g0)).2;clear hT1 hM1 hA1 hq))
 have i1:=(KT.out.keep _ _ _ HX.out.2.2 (KD.out.keep j1)).2
 have i00:=(KT.out.keep _ _ _ HX.out.1 (KD.out.keep k0)).2
 have lu4:=cell_lt i4
 have lu5:=cell_lt i0
 have lu6:=cell_lt ig
 have hl1 : (1 : Int) <= (xs.length : Int) + 1:=by omega
 have hl2 : 1 <= xs.length + 1:=by omega
 go_wp2_with fail
 have hpt : PtrsIn (XB mb tb rv1) w3 (some ⟨g,o + 1,none⟩) xs:=((HM.out.2.2.2.2.2.mono ((K2.out.trans KD.out).keeps _)).turn KT.out.keep)
 have htl : NodeAt (XB mb tb rv1) w3 (.iface T2 X2) t:=(HM.out.2.2.1.mono ((K2.out.trans KD.out).keeps _)).turn KT.out.keep
 have hpw : PtrIn (XB mb tb rv1) w3 (.pointer (some ⟨b,0,none⟩)) (.mk k nl ⟨#[]⟩ 0 (x :: xs)):=(HM.out.2.2.2.1.mono ((K2.out.trans KD.out).keeps _)).turn KT.out.keep
 have hnew : XB mb tb rv1 w3.heap.size:=XB.new KQ.out.1 (Nat.le_refl _)
 have HW:=Lib.hid (And.intro hpt (And.intro htl (And.intro hpw hnew)))
 by_cases hc0 : c=1
 ·have hx0 : xs=[]:=List.eq_nil_of_length_eq_zero (by omega)
  subst hx0
  subst hc0
  simp only [List.length_nil,Nat.zero_add] at i4
  clear hl1 hl2
  have hE4 : Ext w3 (w3.alloc (.cells #[.string k,.bool false,.string ⟨#[]⟩,.int .i64 0,.slice (some ⟨g,o,none⟩) 0 0] 145)).drew:=(Ext.alloc _ _).trans (Ext.drew _)
  have HPN:=Lib.hid (ptr_mk hkn hnew ((Blk.new w3 _ 145).ext (Ext.drew _)) (by first | omega | simp) (by rw [PtrsIn];trivial) : PtrIn (XB mb tb rv1) (w3.alloc (.cells #[.string k,.bool false,.string ⟨#[]⟩,.int .i64 0,.slice (some ⟨g,o,none⟩) 0 0] 145)).drew (.pointer (some ⟨w3.heap.size,0,none⟩)) (.mk k false ⟨#[]⟩ 0 []))
  have HE4:=Lib.hid hE4
  have HX1:=Lib.hid (And.intro (KT.out.keep _ _ _ HX.out.2.2 (KD.out.keep j1)).1 (KT.out.keep _ _ _ HX.out.1 (KD.out.keep k0)).1)
  clear hpt htl hpw hnew hE4
  go_region_held3 (fun w'=>w'.cell? ⟨w.heap.size,1,none⟩=some (.iface T2 X2) /\ w'.cell? ⟨b,0,none⟩=some (.string k) /\ w'.cell? ⟨b,4,none⟩=some (.slice (some ⟨g,o,none⟩) 1 1)) (go_keep)
   (first
    | (go_at_call 95;refine (HI.out.2 mb tb _ rv1 st T1' _ _ hc2 (KQ.out.1.ext HE4.out) (HW.out.2.1.mono (HE4.out.keeps _)) HPN.out).mono ?_;rintro e w5 ⟨q2,bb2,rfl,rfl,rv2,T2',hq2,hM2,hA2,hT2⟩;have KR:=Lib.hid (And.intro hM2 (And.intro hA2 hT2));have r1:=(KR.out.2.2.keep _ _ _ HX1.out.1 (HE4.out.keep i1)).2;have r2:=(KR.out.2.2.keep _ _ _ HX1.out.2 (HE4.out.keep i00)).2;have r3:=(KR.out.2.2.keep _ _ _ HX1.out.2 (HE4.out.keep i4)).2;clear hM2 hA2 hT2 hq2))
  cases bb
  all_goals
   go_wp2_with fail
   go_ret2
   refine ⟨_,_,rfl,by first | rfl | simp,rv2,T2',fun _=>⟨?_,hr⟩,KR.out.1,KQ.out.2.trans KR.out.2.1,((Trn.of_ext (K2.out.trans KD.out)).trans KT.out).trans ((Trn.of_ext HE4.out).trans KR.out.2.2)⟩
   exact (HW.out.2.2.1.mono (HE4.out.keeps _)).turn KR.out.2.2.keep
 ·have hcc : (c == 1)=false:=by simpa using hc0
  have hE4 : Ext w3 (w3.alloc (.cells #[.string k,.bool false,.string ⟨#[]⟩,.int .i64 0,.slice (some ⟨g,o + 1,none⟩) xs.length (c - 1)] 145)).drew:=(Ext.alloc _ _).trans (Ext.drew _)
  have HPN:=Lib.hid (ptr_mk hkn hnew ((Blk.new w3 _ 145).ext (Ext.drew _)) (by first | omega | simp) (hpt.mono (hE4.keeps _)) : PtrIn (XB mb tb rv1) (w3.alloc (.cells #[.string k,.bool false,.string ⟨#[]⟩,.int .i64 0,.slice (some ⟨g,o + 1,none⟩) xs.length (c - 1)] 145)).drew (.pointer (some ⟨w3.heap.size,0,none⟩)) (.mk k false ⟨#[]⟩ 0 xs))
  have HE4:=Lib.hid hE4
  have HX1:=Lib.hid (And.intro (KT.out.keep _ _ _ HX.out.2.2 (KD.out.keep j1)).1 (KT.out.keep _ _ _ HX.out.1 (KD.out.keep k0)).1)
  clear hpt htl hpw hnew hE4
  go_region_held3 (fun w'=>w'.cell? ⟨w.heap.size,1,none⟩=some (.iface T2 X2) /\ w'.cell? ⟨b,0,none⟩=some (.string k) /\ w'.cell? ⟨b,4,none⟩=some (.slice (some ⟨g,o,none⟩) (xs.length + 1) c)) (go_keep)
   (first
    | (go_at_call 95;refine (HI.out.2 mb tb _ rv1 st T1' _ _ hc2 (KQ.out.1.ext HE4.out) (HW.out.2.1.mono (HE4.out.keeps _)) HPN.out).mono ?_;rintro e w5 ⟨q2,bb2,rfl,rfl,rv2,T2',hq2,hM2,hA2,hT2⟩;have KR:=Lib.hid (And.intro hM2 (And.intro hA2 hT2));have r1:=(KR.out.2.2.keep _ _ _ HX1.out.1 (HE4.out.keep i1)).2;have r2:=(KR.out.2.2.keep _ _ _ HX1.out.2 (HE4.out.keep i00)).2;have r3:=(KR.out.2.2.keep _ _ _ HX1.out.2 (HE4.out.keep i4)).2;clear hM2 hA2 hT2 hq2))
  cases bb
  all_goals
   go_wp2_with fail
   go_ret2
   refine ⟨_,_,rfl,by first | rfl | simp,rv2,T2',fun _=>⟨?_,hr⟩,KR.out.1,KQ.out.2.trans KR.out.2.1,((Trn.of_ext (K2.out.trans KD.out)).trans KT.out).trans ((Trn.of_ext HE4.out).trans KR.out.2.2)⟩
   exact (HW.out.2.2.1.mono (HE4.out.keeps _)).turn KR.out.2.2.keep
theorem cnt_list (h t : PN) : (PN.list h t).cnt=h.cnt + t.cnt + 1:=by rw [PN.cnt]
theorem lisK_list {k : ByteArray} (h : lisK k=true) : (decide (2 < k.size) && (k.extract 0 2).toList == [91,93])=true /\ k.size <= 100000 /\ k.toList ≠ []:=by
 unfold lisK at h
 rw [Bool.or_eq_true] at h
 rcases h with h | h <;> rw [beq_lit h] <;> decide +kernel
theorem other_kinds : ∀ k ∈ [⟨#[]⟩,⟨#[84,111,107,101,110]⟩,⟨#[115,116,114,105,110,103]⟩,⟨#[98,111,111,108]⟩,⟨#[91,93,69,120,112,114]⟩,⟨#[91,93,83,116,109,116]⟩] ++ (expressions ++ statements),lisK k=false -> (decide (2 < k.size) && (k.extract 0 2).toList == [91,93])=false:=by decide +kernel
theorem other_list {r : Syn} (hf : Form r) (h : lisK r.kind=false) : (decide (2 < r.kind.size) && (r.kind.extract 0 2).toList == [91,93])=false:=other_kinds _ hf.kind h
theorem empty_yes : ((⟨#[]⟩ : ByteArray).toList == [])=true:=by decide +kernel
theorem right_tail {k : ByteArray} {nl : Bool} {x : Syn} {xs : List Syn} (hl : lisK k=true) (h : RS (.mk k nl ⟨#[]⟩ 0 (x :: xs))) : RS (.mk k false ⟨#[]⟩ 0 xs) /\ RS x:=by
 obtain ⟨c,hc,of,h⟩:=h
 have hno : ∀ {c : Int},nodeL c -> ¬ (fitsL c k=true):=by
  intro c hc
  unfold lisK at hl
  rw [Bool.or_eq_true] at hl
  rcases hl with hl | hl <;> rw [beq_lit hl] <;> rcases hc with rfl | rfl | rfl | rfl | rfl <;> decide +kernel
 have hne:=(lisK_list hl).2.2
 have hne' : (k.toList == [])=false:=beq_eq_false_iff_ne.2 hne
 have hnk : (k.toList == [84,111,107,101,110])=false /\ (k.toList == [115,116,114,105,110,103])=false /\ (k.toList == [98,111,111,108])=false:=by
  unfold lisK at hl
  rw [Bool.or_eq_true] at hl
  rcases hl with hl | hl <;> rw [beq_lit hl] <;> decide +kernel
 simp only [letters,List.mem_cons,List.not_mem_nil,or_false] at hc
 rcases hc with rfl | rfl | rfl | rfl | rfl | rfl | rfl | rfl | rfl | rfl | rfl | rfl
 ·have:=(rs_t h).2.1;rw [hnk.1] at this;cases this
 ·have:=(rs_n h).2.1;rw [hnk.2.1] at this;cases this
 ·have:=(rs_b h).2.1;rw [hnk.2.2] at this;cases this
 ·obtain ⟨-,hk,-,ha⟩:=rs_l h
  rw [rightAll,Bool.and_eq_true] at ha
  refine ⟨⟨108,by decide,of,?_⟩,⟨101,by decide,_,ha.1⟩⟩
  rw [right_mk,if_neg (by decide),if_neg (by decide),if_neg (by decide),if_pos (by decide),hk,ha.2,empty_yes]
  simp
 ·obtain ⟨-,hk,-,ha⟩:=rs_m h
  rw [rightAll,Bool.and_eq_true] at ha
  refine ⟨⟨109,by decide,of,?_⟩,⟨115,by decide,_,ha.1⟩⟩
  rw [right_mk,if_neg (by decide),if_neg (by decide),if_neg (by decide),if_neg (by decide),if_pos (by decide),hk,ha.2,empty_yes]
  simp
 ·rw [right_low_69 _ _ _ _ _ _ hne'] at h
  exact absurd (rs_node (.inl rfl) h).2.1 (hno (.inl rfl))
 ·rw [right_low_83 _ _ _ _ _ _ hne'] at h
  exact absurd (rs_node (.inr (.inl rfl)) h).2.1 (hno (.inr (.inl rfl)))
 ·exact absurd (rs_node (.inl rfl) h).2.1 (hno (.inl rfl))
 ·exact absurd (rs_node (.inr (.inl rfl)) h).2.1 (hno (.inr (.inl rfl)))
 ·exact absurd (rs_node (.inr (.inr (.inl rfl))) h).2.1 (hno (.inr (.inr (.inl rfl))))
 ·exact absurd (rs_node (.inr (.inr (.inr (.inl rfl)))) h).2.1 (hno (.inr (.inr (.inr (.inl rfl)))))
 ·exact absurd (rs_node (.inr (.inr (.inr (.inr rfl)))) h).2.1 (hno (.inr (.inr (.inr (.inr rfl)))))
theorem mtB_list {nm : Names} {h t : PN} (ihh : MtC nm h) (iht : MtC nm t) : MtB nm (.list h t):=by
 intro wi r S ok o S' hr hw hm mb tb w rv st T nv pv hc hM hN hP
 rw [mt,mt_bare_eq hw] at hm
 rw [NodeAt] at hN
 obtain ⟨hv,tv,rfl,hH,hT⟩:=hN
 obtain ⟨ba,bc,c0,c1,c2,c3,-⟩:=hM.cells
 have hB:=bare_in hr.1 hw hP
 have hf:=hr.1.form
 rw [cnt_list] at hc
 cases hl : lisK r.kind
 ·rw [hl] at hm
  cases hm
  by_cases hne : r.kind.toList=[]
  ·obtain rfl : pv=.pointer none:=hP.nil hne
   refine disp_list c3 hB ((list_nothing hH.shape hT.shape w).mono ?_)
   rintro e w' ⟨rfl,hE⟩
   exact ⟨none,false,rfl,mtP_same hM hE fun h=>by cases h⟩
  ·obtain ⟨b,a,c,rfl,-,-,h0,-⟩:=hP.blk hne
   refine disp_list c3 hB ((list_not hH.shape hT.shape h0 (Nat.le_trans (kind_small _ hf.kind) (by decide)) (other_list hf hl)).mono ?_)
   rintro e w' ⟨rfl,hE⟩
   exact ⟨none,false,rfl,mtP_same hM hE fun h=>by cases h⟩
 ·rw [hl] at hm
  obtain ⟨hl1,hl2,hl3⟩:=lisK_list hl
  obtain ⟨b,a,c,rfl,-,-,h0,h1,-,-,h4,-⟩:=hP.blk hl3
  cases hnil : isNilN h
  ·rw [hnil] at hm
   simp only [if_true,Bool.false_eq_true,if_false] at hm
   obtain ⟨k,nl,x,n,ks⟩:=r
   obtain ⟨rfl,rfl⟩ : x=⟨#[]⟩ /\ n=0:=by
    have hl':=hl
    clear hm hl h0 h1 h4 hP hB hl1 hl2 hl3 hw hr
    cases hf with
    | nothing=>exact ⟨rfl,rfl⟩
    | leaf k x n hh=>rw [skind_mk] at hl';rcases hh with ⟨rfl | rfl,-⟩ | ⟨rfl,-⟩ <;> exact absurd hl' (by decide +kernel)
    | list=>exact ⟨rfl,rfl⟩
    | node=>exact ⟨rfl,rfl⟩
   simp only [skind_mk,skids_mk] at *
   cases ks with
   | nil =>
    cases hm
    refine disp_list c3 hB ((list_short hH.shape hT.shape hH hnil h0 h4 hl2 hl1).mono ?_)
    rintro e w' ⟨rfl,hE⟩
    exact ⟨none,false,rfl,mtP_same hM hE fun h=>by cases h⟩
   | cons x xs =>
    simp only at hm
    cases hm1 : mt nm wi h x S with
    | none=>rw [hm1] at hm;cases hm
    | some q =>
     obtain ⟨ok1,o1,S1⟩:=q
     rw [hm1] at hm
     simp only at hm
     cases hm2 : mt nm wi t (.mk k false ⟨#[]⟩ 0 xs) S1 with
     | none=>rw [hm2] at hm;cases hm
     | some q =>
      obtain ⟨ok2,o2,S2⟩:=q
      rw [hm2] at hm
      cases hm
      have hrt:=right_tail hl hr.1
      have hsz:=hr.2
      rw [sizeS_mk] at hsz
      simp only [sizeSs] at hsz
      exact disp_list c3 hB (list_cons ihh iht hnil hm1 hm2 hr ⟨hrt.2,by omega⟩ ⟨hrt.1,by rw [sizeS_mk];omega⟩ (by omega) (by omega) hM hH hT hP hl3 hl2 hl1)
  ·rw [hnil] at hm
   cases hm
   refine disp_list c3 hB ((list_empty hH.shape hT.shape hH hnil h0 h4 hl2 hl1).mono ?_)
   rintro e w' ⟨rfl,hE⟩
   have he : ((r.kids.length : Int) == 0)=r.kids.isEmpty:=by
    cases r.kids with
    | nil=>rfl
    | cons a l=>rw [List.isEmpty_cons,beq_eq_false_iff_ne];simp;omega
   rw [he]
   exact ⟨_,_,rfl,mtP_same hM hE fun _=>⟨hP.mono (hE.keeps _),hr⟩⟩
end Go.Proofs.YtigalkobmfbdaaaGreatDoor
set_option maxRecDepth 100000
set_option maxHeartbeats 4000000
namespace Go.Proofs.YtigalkobmfbdaaaGreatDoor
open Go.RowKit
theorem bind_recall {nm : Names} {x : ByteArray} {i : Int} {r old : Syn} {S : SL} (hx : x.size <= 1000) (hg : getB S x.toList=some old) (hr : RZ r) (hw : wrapIx r.kind=none) (h1 : nodeK old.kind=true) (h2 : nodeK r.kind=true) (h3 : mixC old r=false) {wi : Bool} {mb tb : Nat} {w : World} {rv : Value} {st : List (BitVec 64)} {T : BitVec 64} {pv : Value} (hM : MAt nm mb tb w rv S (st ++ [T])) (hP : PtrIn (XB mb tb rv) w pv r) :
  Calls Tryz.prog 243 #[.agg #[.string x,.nilIface,.int .i64 i],.pointer (some ⟨mb,0,none⟩),pv] w (Two (MtP nm mb tb w rv wi S S st T (eqS old r) r)):=by
 obtain ⟨ba,bc,c0,c1,c2,c3,-⟩:=hM.cells
 obtain ⟨V,hV,hVS⟩:=hM.tab
 obtain ⟨v,hv,hPv⟩:=(hVS.get x.toList).2 old hg
 obtain ⟨pv0,rfl⟩:=hP.ptr
 obtain ⟨p0,rfl⟩:=hPv.ptr
 have hzo:=hM.keyed.get hg
 have HC : Hid (∀ w2 : World,Ext w w2 -> Calls Tryz.prog 95 #[.pointer (some ⟨mb,0,none⟩),.nilIface,.pointer p0,.pointer pv0] w2 fun e w'=>CmpR (XB mb tb rv) w' (eqS old r) (bareS r) e /\ Ext w2 w'):=Lib.hid fun w2 hE =>
  cmp_all (sizeS old + sizeS r + 1) (by have:=hzo.2;have:=hr.2;omega) old r (by omega) hzo.1 hr.1 (leaf_of_other (.inr h1)) (leaf_of_other (.inr h2)) h3 (XB mb tb rv) mb w2 _ _ (hE.keep c3) (hPv.mono (hE.keeps _)) (hP.mono (hE.keeps _))
 have HL : ∀ (w2 : World),Ext w w2 -> (Instr.lookup 103 (.map (some tb)) (.string x) true).run Tryz.prog w2=.ok (.tuple #[.pointer p0,.bool true]) w2:=fun w2 hE=>by
  have:=look_raw w2 (hV.ext hE) underlying103 (zero96 w2) (s:=x) (by unfold maxLen;omega)
  rw [this,hv]
  rfl
 have hb:=mt_bare_eq hw
 have HM:=Lib.hid hM
 have HR:=Lib.hid (And.intro hb hr)
 have HN:=Lib.hid (fun w1=>isNil_calls (X:=fun _=>True) (n:=.nul) (v:=.nilIface) (w0:=w) (by rw [NodeAt]) w1)
 clear hM hV hVS hv hPv hP hb hg hr h1 h2 h3 hzo c1 c2
 go_enter Tryz.func243,Tryz.ntmps243
 go_wp2_with fail
 refine (HN.out _).mono ?_
 rintro e w1 ⟨rfl,hE1⟩
 have hEw:=(Ext.alloc w (.cells #[.string x,.nilIface,.int .i64 i] 138)).trans hE1
 have j0 : w1.cell? ⟨w.heap.size,0,none⟩=some (.string x):=hE1.keep (by simp)
 have k0:=hEw.keep c0
 have lt0:=cell_lt k0
 have lt1:=cell_lt j0
 have KE:=Lib.hid hEw
 have hl : ∀ n,(Instr.lookup 103 (.map (some tb)) (.string x) true).run Tryz.prog (w1.drewN n)=.ok (.tuple #[.pointer p0,.bool true]) (w1.drewN n):=fun n=>HL _ (KE.out.trans (Ext.drewN _ _))
 have hl0:=HL w1 KE.out
 clear hE1 hEw HL
 go_wp2_with fail
 go_quiet (fail)
 have K2:=Lib.hid (KE.out.trans (Ext.drewN w1 nq))
 go_wp2_with fail
 refine (HC.out _ K2.out).mono ?_
 rintro e w3 ⟨⟨q,rfl,hq⟩,hE3⟩
 have K3:=Lib.hid (And.intro hq (K2.out.trans hE3))
 clear hq hE3
 go_wp2_with fail
 go_ret2
 exact ⟨q,_,rfl,mtP_same HM.out K3.out.2 fun h=>⟨by have:=K3.out.1 h;rwa [HR.out.1] at this,HR.out.2⟩⟩
theorem cnt_bind (x : ByteArray) (n : PN) (i : Int) : (PN.bind x n i).cnt=n.cnt + 1:=by rw [PN.cnt]
theorem bind_node {nm : Names} {n : PN} {x : ByteArray} {r o : Syn} {S S' S2 : SL} {ok : Bool} {wi : Bool} (hS : Hid (S2=if ok then setB S' x.toList o else S')) (ih : MtC nm n) (hnil : isNilN n=false) (hm : mt nm wi n r S=some (ok,o,S')) (hx : x.size <= 1000) (hxn : x.toList ∈ nm) (hg : getB S x.toList=none) (hr : RZ r) {mb tb : Nat} {w : World} {rv : Value} {st : List (BitVec 64)} {T : BitVec 64} {nv pv : Value} (hc : st.length + n.cnt <= 1000) (hM : MAt nm mb tb w rv S (st ++ [T])) (hN : NodeAt (XB mb tb rv) w nv n) (hP : PtrIn (XB mb tb rv) w pv r) :
  Calls Tryz.prog 243 #[.agg #[.string x,nv,.int .i64 (nm.idxOf x.toList : Nat)],.pointer (some ⟨mb,0,none⟩),pv] w (Two (MtP nm mb tb w rv wi S S2 st T ok o)):=by
 obtain ⟨T0,X0,rfl⟩:=hN.iface (by cases n <;> first | rfl | cases hnil)
 obtain ⟨ba,bc,c0,c1,c2,c3,-⟩:=hM.cells
 obtain ⟨V,hV,hVS⟩:=hM.tab
 have hv:=(hVS.get x.toList).1 hg
 obtain ⟨pv0,rfl⟩:=hP.ptr
 have HL : ∀ (w2 : World),Ext w w2 -> (Instr.lookup 103 (.map (some tb)) (.string x) true).run Tryz.prog w2=.ok (.tuple #[.pointer none,.bool false]) w2:=fun w2 hE=>by
  have:=look_raw w2 (hV.ext hE) underlying103 (zero96 w2) (s:=x) (by unfold maxLen;omega)
  rw [this,hv]
  rfl
 have HI:=Lib.hid (ih wi r S ok o S' hr hm)
 have HM:=Lib.hid (And.intro hM hP)
 have HNd:=Lib.hid hN
 have HX:=Lib.hid (XB.new hM (Nat.le_refl w.heap.size))
 have HK:=Lib.hid (And.intro hM.names.2.1 (And.intro hxn hg))
 have HN:=Lib.hid (fun w1=>isNil_calls hN w1)
 rw [hnil] at HN
 have KN:=HN
 have hcn : 1 <= n.cnt:=by cases n <;> rw [PN.cnt] <;> omega
 clear HN hM hV hVS hv hP hg hr ih hm hN hnil c1 c2 hxn
 go_enter Tryz.func243,Tryz.ntmps243
 go_wp2_with fail
 refine (KN.out _).mono ?_
 rintro e w1 ⟨rfl,hE1⟩
 have hEw:=(Ext.alloc w (.cells #[.string x,.iface T0 X0,.int .i64 (nm.idxOf x.toList : Nat)] 138)).trans hE1
 have j0 : w1.cell? ⟨w.heap.size,0,none⟩=some (.string x):=hE1.keep (by simp)
 have j1 : w1.cell? ⟨w.heap.size,1,none⟩=some (.iface T0 X0):=hE1.keep (by simp)
 have j2 : w1.cell? ⟨w.heap.size,2,none⟩=some (.int .i64 (nm.idxOf x.toList : Nat)):=hE1.keep (by simp)
 have k0:=hEw.keep c0
 have lt0:=cell_lt k0
 have lt1:=cell_lt j0
 have KE:=Lib.hid hEw
 have hl : ∀ n,(Instr.lookup 103 (.map (some tb)) (.string x) true).run Tryz.prog (w1.drewN n)=.ok (.tuple #[.pointer none,.bool false]) (w1.drewN n):=fun n=>HL _ (KE.out.trans (Ext.drewN _ _))
 have hl0:=HL w1 KE.out
 clear hE1 hEw HL
 go_wp2_with fail
 go_quiet (fail)
 have KD:=Lib.hid (Ext.drewN w1 nq)
 have r0:=KD.out.keep j0
 have r1:=KD.out.keep j1
 have r2:=KD.out.keep j2
 have lr0:=cell_lt r0
 go_wp2_with fail
 refine (HI.out mb tb _ rv st T _ _ hc (HM.out.1.ext (KE.out.trans KD.out)) (HNd.out.mono ((KE.out.trans KD.out).keeps _)) (HM.out.2.mono ((KE.out.trans KD.out).keeps _))).mono ?_
 rintro e w3 ⟨p,bb,rfl,rfl,rv1,T1,hq,hM1,hA1,hT1⟩
 have q0:=(hT1.keep _ _ _ HX.out r0).2
 have q1:=(hT1.keep _ _ _ HX.out r1).2
 have q2:=(hT1.keep _ _ _ HX.out r2).2
 have lq0:=cell_lt q0
 have KT:=Lib.hid (And.intro hq (And.intro hM1 (And.intro hA1 hT1)))
 clear hq hM1 hA1 hT1
 cases bb
 ·go_wp2_with fail
  go_ret2
  rw [show S2=S' from hS.out]
  exact ⟨p,false,rfl,rfl,rv1,T1,(fun h=>by cases h),KT.out.2.1,KT.out.2.2.1,(Trn.of_ext (KE.out.trans KD.out)).trans KT.out.2.2.2⟩
 ·go_wp2_with fail
  refine (set_calls KT.out.2.1 (by omega) HK.out.2.1 hx (KT.out.1 (by first | rfl | trivial)).1 (KT.out.1 (by first | rfl | trivial)).2).mono ?_
  rintro e w4 ⟨rfl,hM2,hT2⟩
  have KT2:=Lib.hid (And.intro hM2 hT2)
  clear hM2 hT2
  go_wp2_with fail
  go_ret2
  rw [show S2=setB S' x.toList o from hS.out]
  exact ⟨p,true,rfl,rfl,rv1,_,(fun _=>⟨(KT.out.1 (by first | rfl | trivial)).1.trn KT2.out.2,(KT.out.1 (by first | rfl | trivial)).2⟩),KT2.out.1,Adv.bind HK.out.1 HK.out.2.2 HK.out.2.1 o KT.out.2.2.1,((Trn.of_ext (KE.out.trans KD.out)).trans KT.out.2.2.2).trans KT2.out.2⟩
theorem bind_new {nm : Names} {x : ByteArray} {r : Syn} {S : SL} {wi : Bool} (hx : x.size <= 1000) (hxn : x.toList ∈ nm) (hg : getB S x.toList=none) (hr : RZ r) (hw : wrapIx r.kind=none) {mb tb : Nat} {w : World} {rv : Value} {st : List (BitVec 64)} {T : BitVec 64} {pv : Value} (hc : st.length + 1 <= 1000) (hM : MAt nm mb tb w rv S (st ++ [T])) (hP : PtrIn (XB mb tb rv) w pv r) :
  Calls Tryz.prog 243 #[.agg #[.string x,.nilIface,.int .i64 (nm.idxOf x.toList : Nat)],.pointer (some ⟨mb,0,none⟩),pv] w (Two (MtP nm mb tb w rv wi S (setB S x.toList r) st T true r)):=by
 obtain ⟨ba,bc,c0,c1,c2,c3,-⟩:=hM.cells
 obtain ⟨V,hV,hVS⟩:=hM.tab
 have hv:=(hVS.get x.toList).1 hg
 obtain ⟨pv0,rfl⟩:=hP.ptr
 have HL : ∀ (w2 : World),Ext w w2 -> (Instr.lookup 103 (.map (some tb)) (.string x) true).run Tryz.prog w2=.ok (.tuple #[.pointer none,.bool false]) w2:=fun w2 hE=>by
  have:=look_raw w2 (hV.ext hE) underlying103 (zero96 w2) (s:=x) (by unfold maxLen;omega)
  rw [this,hv]
  rfl
 have hm : mt nm wi .any r S=some (true,r,S):=by rw [mt,mt_bare_eq hw]
 have HI:=Lib.hid (mt_of_bare (mtB_any nm) wi r S true r S hr hm)
 have HM:=Lib.hid (And.intro hM hP)
 have HX:=Lib.hid (XB.new hM (Nat.le_refl w.heap.size))
 have HK:=Lib.hid (And.intro hM.names.2.1 (And.intro hxn hg))
 have KN:=Lib.hid (fun w1=>isNil_calls (X:=fun _=>True) (n:=.nul) (v:=.nilIface) (w0:=w) (by rw [NodeAt]) w1)
 have HLL:=Lib.hid HL
 clear HL hM hV hVS hv hP hg hr hm hw c1 c2 hxn
 go_enter Tryz.func243,Tryz.ntmps243
 go_wp2_with fail
 refine (KN.out _).mono ?_
 rintro e w1 ⟨rfl,hE1⟩
 have hEw:=(Ext.alloc w (.cells #[.string x,.nilIface,.int .i64 (nm.idxOf x.toList : Nat)] 138)).trans hE1
 have hB1 : Blk w1 w.heap.size #[.string x,.nilIface,.int .i64 (nm.idxOf x.toList : Nat)] 138:=(Blk.new w _ 138).ext hE1
 have j0 : w1.cell? ⟨w.heap.size,0,none⟩=some (.string x):=by rw [hB1.cell];rfl
 have k0:=hEw.keep c0
 have lt0:=cell_lt k0
 have lt1:=cell_lt j0
 have KE:=Lib.hid hEw
 have KB:=Lib.hid hB1
 have hl : ∀ n,(Instr.lookup 103 (.map (some tb)) (.string x) true).run Tryz.prog (w1.drewN n)=.ok (.tuple #[.pointer none,.bool false]) (w1.drewN n):=fun n=>HLL.out _ (KE.out.trans (Ext.drewN _ _))
 have hl0:=HLL.out w1 KE.out
 clear hE1 hEw hB1
 go_wp2_with fail
 go_quiet (fail)
 have hE2:=KE.out.trans (Ext.drewN w1 nq)
 have hB2:=KB.out.ext (Ext.drewN w1 nq)
 clear hl hl0 j0 k0 lt0 lt1
 generalize w1.drewN nq=w2 at *
 have K2:=Lib.hid hE2
 have hb1:=hB2.lt
 have hf1:=hB2.frozen 1
 have j1 : w2.cell? ⟨w.heap.size,1,none⟩=some .nilIface:=by rw [hB2.cell];rfl
 have K2B:=Lib.hid hB2
 clear hE2 hB2
 go_wp2_with fail
 have hB5 : Blk (w2.setCell ⟨w.heap.size,1,none⟩ (.iface 130 (.agg #[]))) w.heap.size #[.string x,.iface 130 (.agg #[]),.int .i64 (nm.idxOf x.toList : Nat)] 138:=by simpa using K2B.out.set 1 (.iface 130 (.agg #[]))
 have hE5 : Ext w (w2.setCell ⟨w.heap.size,1,none⟩ (.iface 130 (.agg #[]))):=K2.out.setCell (Nat.le_refl _) _
 clear j1 hf1 hb1
 generalize w2.setCell ⟨w.heap.size,1,none⟩ (.iface 130 (.agg #[]))=w5 at *
 have KE5:=Lib.hid hE5
 have j0 : w5.cell? ⟨w.heap.size,0,none⟩=some (.string x):=by rw [hB5.cell];rfl
 have j1 : w5.cell? ⟨w.heap.size,1,none⟩=some (.iface 130 (.agg #[])):=by rw [hB5.cell];rfl
 have j2 : w5.cell? ⟨w.heap.size,2,none⟩=some (.int .i64 (nm.idxOf x.toList : Nat)):=by rw [hB5.cell];rfl
 have k0:=hE5.keep c0
 have lt0:=cell_lt k0
 have lt1:=cell_lt j0
 have hl : ∀ n,(Instr.lookup 103 (.map (some tb)) (.string x) true).run Tryz.prog (w5.drewN n)=.ok (.tuple #[.pointer none,.bool false]) (w5.drewN n):=fun n=>HLL.out _ (KE5.out.trans (Ext.drewN _ _))
 have hl0:=HLL.out w5 KE5.out
 clear hB5 hE5
 go_quiet (fail)
 have KD:=Lib.hid (Ext.drewN w5 nq)
 have r0:=KD.out.keep j0
 have r1:=KD.out.keep j1
 have r2:=KD.out.keep j2
 have lr0:=cell_lt r0
 go_wp2_with fail
 refine (HI.out mb tb _ rv st T _ _ (by rw [PN.cnt];exact hc) (HM.out.1.ext (KE5.out.trans KD.out)) (by rw [NodeAt]) (HM.out.2.mono ((KE5.out.trans KD.out).keeps _))).mono ?_
 rintro e w3 ⟨p,bb,rfl,rfl,rv1,T1,hq,hM1,hA1,hT1⟩
 have q0:=(hT1.keep _ _ _ HX.out r0).2
 have q1:=(hT1.keep _ _ _ HX.out r1).2
 have q2:=(hT1.keep _ _ _ HX.out r2).2
 have lq0:=cell_lt q0
 have KT:=Lib.hid (And.intro hq (And.intro hM1 (And.intro hA1 hT1)))
 clear hq hM1 hA1 hT1
 go_wp2_with fail
 refine (set_calls KT.out.2.1 (by omega) HK.out.2.1 hx (KT.out.1 (by first | rfl | trivial)).1 (KT.out.1 (by first | rfl | trivial)).2).mono ?_
 rintro e w4 ⟨rfl,hM2,hT2⟩
 have KT2:=Lib.hid (And.intro hM2 hT2)
 clear hM2 hT2
 go_wp2_with fail
 go_ret2
 exact ⟨p,true,rfl,rfl,rv1,_,(fun _=>⟨(KT.out.1 (by first | rfl | trivial)).1.trn KT2.out.2,(KT.out.1 (by first | rfl | trivial)).2⟩),KT2.out.1,Adv.bind HK.out.1 HK.out.2.2 HK.out.2.1 _ KT.out.2.2.1,((Trn.of_ext (KE5.out.trans KD.out)).trans KT.out.2.2.2).trans KT2.out.2⟩
theorem mtB_bind {nm : Names} {x : ByteArray} {n : PN} {i : Int} (ih : MtC nm n) : MtB nm (.bind x n i):=by
 intro wi r S ok o S' hr hw hm mb tb w rv st T nv pv hc hM hN hP
 rw [mt,mt_bare_eq hw] at hm
 rw [NodeAt] at hN
 obtain ⟨nv,rfl,hn⟩:=hN
 obtain ⟨ba,bc,c0,c1,c2,c3,-⟩:=hM.cells
 have hB:=bare_in hr.1 hw hP
 rw [cnt_bind] at hc
 split at hm
 case isFalse=>cases hm
 rename_i hcond
 simp only [Bool.and_eq_true,decide_eq_true_eq,beq_iff_eq,List.contains_iff_mem] at hcond
 obtain ⟨⟨-,hxn⟩,rfl⟩:=hcond
 have hx : x.size <= 1000:=by
  have:=hM.names.2.2 _ hxn
  rw [size_toList] at this
  omega
 cases hnul : n.isNul
 ·rw [hnul] at hm
  simp only [Bool.false_eq_true,if_false] at hm
  cases hnil : isNilN n
  ·rw [hnil] at hm
   simp only [Bool.false_eq_true,if_false] at hm
   cases hg : getB S x.toList with
   | some old=>rw [hg] at hm;cases hm
   | none =>
    rw [hg] at hm
    simp only at hm
    cases hm1 : mt nm wi n r S with
    | none=>rw [hm1] at hm;cases hm
    | some q =>
     obtain ⟨ok1,o1,S1⟩:=q
     rw [hm1] at hm
     refine disp_bind c3 hB ?_
     cases ok1
     ·cases hm
      exact bind_node (Lib.hid rfl) ih hnil hm1 hx hxn hg hr (by omega) hM hn hP
     ·cases hm
      exact bind_node (Lib.hid rfl) ih hnil hm1 hx hxn hg hr (by omega) hM hn hP
  ·rw [hnil] at hm
   cases hm
 ·rw [hnul] at hm
  simp only [if_true] at hm
  have hnn : n=.nul:=by cases n <;> first | rfl | cases hnul
  subst hnn
  rw [NodeAt] at hn
  subst hn
  refine disp_bind c3 hB ?_
  cases hg : getB S x.toList with
  | some old =>
   rw [hg] at hm
   simp only at hm
   split at hm
   case isFalse=>cases hm
   rename_i hcond
   simp only [Bool.and_eq_true,Bool.not_eq_true'] at hcond
   cases hm
   exact bind_recall hx hg hr hw hcond.1.1 hcond.1.2 hcond.2 hM hP
  | none =>
   rw [hg] at hm
   cases hm
   exact bind_new hx hxn hg hr hw (by omega) hM hP
end Go.Proofs.YtigalkobmfbdaaaGreatDoor
set_option maxRecDepth 100000
set_option maxHeartbeats 4000000
namespace Go.Proofs.YtigalkobmfbdaaaGreatDoor
open Go.RowKit
theorem cnt_or (ks : List PN) : (PN.or ks).cnt=cntAll ks + 1:=by rw [PN.cnt]
theorem or_walk {nm : Names} {ks : List PN} (ih : ∀ (j : Nat) (hj : j < ks.length),MtC nm ks[j]) {wi : Bool} {r o : Syn} {S S' : SL} {ok : Bool} (hm : mtOr nm ks r S=some (ok,o,S')) (hwi : wi=true -> S'.length=S.length) (hr : RZ r) {mb tb : Nat} {w : World} {rv : Value} {st : List (BitVec 64)} {T : BitVec 64} {pv : Value} {a : Option Addr} {c : Nat} (hc : st.length + (cntAll ks + 1) <= 1000) (hlc : ks.length <= c) (hM : MAt nm mb tb w rv S (st ++ [T])) (hN : NodesAt (XB mb tb rv) w a ks) (hP : PtrIn (XB mb tb rv) w pv r) :
  Calls Tryz.prog 247 #[.agg #[.slice a ks.length c],.pointer (some ⟨mb,0,none⟩),pv] w (Two (MtP nm mb tb w rv wi S S' st T ok o)):=by
 obtain ⟨pv0,rfl⟩:=hP.ptr
 have hkl : ks.length <= 1000:=by
  have h : ∀ l : List PN,l.length <= cntAll l:=by
   intro l
   induction l with
   | nil=>simp
   | cons n l ih =>
    have : 1 <= n.cnt:=by cases n <;> rw [PN.cnt] <;> omega
    simp only [List.length_cons,cntAll]
    omega
  have:=h ks
  omega
 have HI:=Lib.hid ih
 have HM:=Lib.hid (And.intro hN hP)
 have HR:=Lib.hid (And.intro hm (And.intro hwi hr))
 have hM0:=hM.ext (Ext.alloc w (.cells #[.slice a ks.length c] 140))
 have HA:=Lib.hid (hM.ext (Ext.alloc w (.cells #[.slice a ks.length c] 140)))
 clear hN hP hm hwi hr ih hM hM0
 go_enter Tryz.func247,Tryz.ntmps247
 go_wp2_with fail
 have hE0:=Ext.alloc w (.cells #[.slice a ks.length c] 140)
 generalize w.alloc (.cells #[.slice a ks.length c] 140)=w0 at *
 have KE:=Lib.hid hE0
 clear hE0
 go_loopw [15] (fun iv wr=>∃ (j : Nat) (rv1 : Value),iv=.int .i64 j /\ j <= ks.length /\ MAt nm mb tb wr rv1 S (st ++ [T]) /\ Trn mb tb rv rv1 w wr /\ Hid (mtOr nm (ks.drop j) r S=some (ok,o,S'))) (fun iv _=>ks.length - (intOf iv).toNat)
 case atStart=>exact ⟨0,rv,rfl,Nat.zero_le _,HA.out,Trn.of_ext KE.out,Lib.hid HR.out.1⟩
 case round =>
  obtain ⟨j,rv1,rfl,hj,hM1,hT1,hD⟩:=hrel
  have KM:=Lib.hid (And.intro hM1 hT1)
  clear hM1 hT1
  by_cases hlt : j < ks.length
  ·obtain ⟨g,of,v,rfl,hgX,hgc,hnv⟩:=HM.out.1.get j hlt
   have hgk:=KM.out.2.keep _ _ _ hgX hgc
   have hgc1:=hgk.2
   have hgl:=cell_lt hgc1
   have hone:=hnv.one
   have HN:=Lib.hid (hnv.trn KM.out.2)
   have HC:=Lib.hid (HI.out j hlt)
   have hck:=cntAll_get j hlt
   have hd:=hD.out
   rw [List.drop_eq_getElem_cons hlt,mtOr] at hd
   have HD:=Lib.hid hd
   clear hd hD hnv hgc hgk
   have hsh:=HN.out.shape
   generalize ks[j]=q at *
   go_wp2_with fail
   refine (push_calls KM.out.1 (by simp;omega)).mono ?_
   rintro e w2 ⟨rfl,rv2,hM2,hT2⟩
   have K2:=Lib.hid (And.intro hM2 hT2)
   clear hM2 hT2 hgc1 hgl
   cases hq : mt nm true q r S with
   | none=>have:=HD.out;rw [hq] at this;cases this
   | some res =>
    obtain ⟨ok1,o1,S1⟩:=res
    have hd:=HD.out
    rw [hq] at hd
    have HC2:=Lib.hid (HC.out true r S ok1 o1 S1 HR.out.2.2 hq)
    clear hq
    go_wp2_with fail
    refine (HC2.out mb tb w2 rv2 (st ++ [T]) 0#64 v _ (by simp;omega) K2.out.1 (HN.out.trn K2.out.2) ((HM.out.2.trn KM.out.2).trn K2.out.2)).mono ?_
    rintro e w3 ⟨p,bb,rfl,rfl,rv3,T3,hq3,hM3,hA3,hT3⟩
    have K3:=Lib.hid (And.intro hq3 (And.intro hM3 (And.intro hA3 hT3)))
    clear hq3 hM3 hA3 hT3
    cases bb
    ·have HD2:=Lib.hid (show mtOr nm (ks.drop (j + 1)) r S=some (ok,o,S') from hd)
     clear hd
     have hadv:=K3.out.2.2.1
     obtain ⟨A,rfl,hbits⟩:=hadv
     have HB:=Lib.hid (fun i (hi : i < 64)=>(hbits rfl i hi).trans (by simp : ((0#64).getLsbD i || A.any fun x=>nm.idxOf x.1 == i)=A.any fun x=>nm.idxOf x.1 == i))
     clear hbits
     go_wp2_with fail
     refine (pop_calls K3.out.2.1 (by simp;omega) HB.out).mono ?_
     rintro e w4 ⟨rfl,rv4,hM4,hT4⟩
     have K4:=Lib.hid (And.intro hM4 hT4)
     clear hM4 hT4
     go_wp2_with fail
     exact ⟨⟨j + 1,rv4,by go_num,by omega,K4.out.1,((KM.out.2.trans K2.out.2).trans K3.out.2.2.2).trans K4.out.2,HD2⟩,by simp [intOf];omega⟩
    ·have HD2:=Lib.hid (show some (true,o1,S1)=some (ok,o,S') from hd)
     clear hd
     go_wp2_with fail
     refine (merge_calls K3.out.2.1 (by simp;omega)).mono ?_
     rintro e w4 ⟨rfl,rv4,hM4,hT4⟩
     have K4:=Lib.hid (And.intro hM4 hT4)
     clear hM4 hT4
     go_wp2_with fail
     go_ret2
     have hd:=HD2.out
     cases hd
     refine ⟨p,true,rfl,rfl,rv4,T,fun _=>⟨(K3.out.1 (by trivial)).1.trn K4.out.2,(K3.out.1 (by trivial)).2⟩,K4.out.1,?_,((KM.out.2.trans K2.out.2).trans K3.out.2.2.2).trans K4.out.2⟩
     obtain ⟨A,hA,-⟩:=K3.out.2.2.1
     refine ⟨A,hA,fun hw i hi=>?_⟩
     have hl:=HR.out.2.1 hw
     rw [hA,List.length_append] at hl
     have hA0 : A=[]:=List.eq_nil_of_length_eq_zero (by omega)
     rw [hA0]
     simp
  ·obtain rfl : j=ks.length:=by omega
   have hd:=hD.out
   rw [List.drop_of_length_le (Nat.le_refl _),mtOr] at hd
   have HD:=Lib.hid hd
   clear hd hD
   go_wp2_with fail
   go_ret2
   have hd:=HD.out
   cases hd
   exact ⟨none,false,rfl,rfl,rv1,T,fun h=>(by cases h),KM.out.1,Adv.refl _ _ _ _,KM.out.2⟩
theorem mtB_or {nm : Names} {ks : List PN} (ih : ∀ (j : Nat) (hj : j < ks.length),MtC nm ks[j]) : MtB nm (.or ks):=by
 intro wi r S ok o S' hr hw hm mb tb w rv st T nv pv hc hM hN hP
 rw [mt] at hm
 rw [NodeAt] at hN
 obtain ⟨a,c,rfl,hlc,hn⟩:=hN
 obtain ⟨ba,bc,c0,c1,c2,c3,-⟩:=hM.cells
 have hB:=bare_in hr.1 hw hP
 rw [cnt_or] at hc
 cases hm1 : mtOr nm ks r S with
 | none=>rw [hm1] at hm;cases hm
 | some q =>
  obtain ⟨ok1,o1,S1⟩:=q
  rw [hm1] at hm
  simp only at hm
  split at hm
  ·cases hm
  rename_i hcond
  cases hm
  refine disp_or c3 hB (or_walk ih hm1 (fun h=>?_) hr hc hlc hM hn hP)
  rw [h] at hcond
  simpa using hcond
end Go.Proofs.YtigalkobmfbdaaaGreatDoor
