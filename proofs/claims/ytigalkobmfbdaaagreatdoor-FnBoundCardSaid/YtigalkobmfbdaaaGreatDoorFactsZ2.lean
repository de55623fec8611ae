/- Closed facts of the whole program that every row asks; how a row's statement and its card are built of them. -/
import Derived.Test.YtigalkobmfbdaaaGreatDoorMix2C
import Derived.JoinedOf
set_option linter.unusedVariables false
namespace Go.Proofs.YtigalkobmfbdaaaGreatDoor
open Go.ChangeShapes Go.WideShapes Go.ChangeAt Go.RowKit
theorem fMaps : mapsRowed Tryz.prog=true:=by kernel_rfl
theorem fStops : (Tryz.prog.stops == [])=true:=by kernel_rfl
theorem fKnobs : (Tryz.prog.stopKnobs == [])=true:=by kernel_rfl
theorem fKeys : (Rows.fnEntryRow.plainKeys == Tryz.prog.plainKeys)=true:=by kernel_rfl
theorem fHeard : Tryz.prog.stopsHeard=true:=by kernel_rfl
theorem fEnter : Tryz.prog.mayEnter=true:=by kernel_rfl
theorem fLifts : (Rows.fnEntryRow.lifted == Tryz.prog.liftsFinal)=true:=by kernel_rfl
theorem fMake : (Tryz.prog.make == some Rows.fnEntryRow.make)=true:=by kernel_rfl
theorem fMain : Tryz.prog.mainIs=some (true,"45aed9cc55dc6d68f0b14cb90fd0a26ae0b24895b21d11b3721641f397322362".toList):=by kernel_rfl
theorem fLooks : true=Tryz.prog.looks []:=by kernel_rfl
theorem joined_gen {P : Program} {f : FuncId} {fn : Func} {s : ChangeSpec} {c : OpenClaim} (h0 : c.wf (OpenSpec.ofChange s)=true) (h3 : fn.params.all (P.readableRec ·)=true) (h4 : namedTie P c.named s.vars=true) (h5 : (c.stops == [])=true) (h7 : (c.knobs == [])=true)
  (h9 : (c.inPlace == P.inPlace f)=true) (h10 : (c.unfollowed == P.unfollowed f)=true) (h11 : (c.recurses == P.recurses f)=true) (h12 : (c.named == P.varsNamed f)=true)
  (h13 : (c.maps == (fn.params.toList ++ s.plain.varTypes P).any (P.mapsRec ·))=true) (h14 : (c.ifaces == (fn.params.toList ++ s.plain.varTypes P).any (P.ifacesRec ·))=true) (h15 : (c.mapsOut == P.mapsAmong fn.resultTypes.toList)=true)
  (h16 : (c.loops == (fn.params.toList ++ s.plain.varTypes P).any (P.loopsFrom ·))=true) (h17 : (c.wideKeys == (fn.params.toList ++ s.plain.varTypes P ++ fn.resultTypes.toList).any (P.wideKeysFrom ·))=true)
  (h18 : s.vars.all (P.varReadable ·)=true) (h19 : fn.resultTypes.all (fun t=>P.readableRec t && decide (t < P.types.size))=true) (h20 : (c.ifacesOut == fn.resultTypes.toList.any (P.ifacesRec ·))=true) (h21 : (c.loopsOut == fn.resultTypes.toList.any (P.loopsFrom ·))=true)
  (h1 : laidOutB P=true) (h2 : mapsRowed P=true) (h6 : (P.stops == [])=true) (h8 : (P.stopKnobs == [])=true) (h22 : (c.plainKeys == P.plainKeys)=true) (h23 : c.shortTexts.isNone=true) (h24 : P.stopsHeard=true) (h25 : P.mayEnter=true) (h26 : (c.lifted == P.liftsFinal)=true) (h27 : (P.make == some c.make)=true)
  (h28 : (c.kinds == (if c.domain.isEmpty then [] else fn.params.toList.map fun t=>match P.underlying t with | some (.int k)=>some k | _=>none))=true) (h29 : (c.pinned == c.pinnedBy)=true)
  (h30 : (c.veiled == (fn.params.toList ++ s.plain.varTypes P ++ fn.resultTypes.toList).any (P.veiledRec ·))=true) (h31 : c.veiledFits P fn.params.toList (fn.params.toList ++ s.plain.varTypes P ++ fn.resultTypes.toList)=true) : joinedFacts P f fn s c=true:=by
 unfold joinedFacts
 simp only [Bool.and_eq_true]
 exact ⟨⟨⟨⟨⟨⟨⟨⟨⟨⟨⟨⟨⟨⟨⟨⟨⟨⟨⟨⟨⟨⟨⟨⟨⟨⟨⟨⟨⟨⟨⟨h0,h1⟩,h2⟩,h3⟩,h4⟩,h5⟩,h6⟩,h7⟩,h8⟩,h9⟩,h10⟩,h11⟩,h12⟩,h13⟩,h14⟩,h15⟩,h16⟩,h17⟩,h18⟩,h19⟩,h20⟩,h21⟩,h22⟩,h23⟩,h24⟩,h25⟩,h26⟩,h27⟩,h28⟩,h29⟩,h30⟩,h31⟩
theorem joined_of {f : FuncId} {fn : Func} {s : ChangeSpec} {c : OpenClaim} (h0 : c.wf (OpenSpec.ofChange s)=true) (h3 : fn.params.all (Tryz.prog.readableRec ·)=true) (h4 : namedTie Tryz.prog c.named s.vars=true) (h5 : (c.stops == [])=true) (h7 : (c.knobs == [])=true)
  (h9 : (c.inPlace == Tryz.prog.inPlace f)=true) (h10 : (c.unfollowed == Tryz.prog.unfollowed f)=true) (h11 : (c.recurses == Tryz.prog.recurses f)=true) (h12 : (c.named == Tryz.prog.varsNamed f)=true)
  (h13 : (c.maps == (fn.params.toList ++ s.plain.varTypes Tryz.prog).any (Tryz.prog.mapsRec ·))=true) (h14 : (c.ifaces == (fn.params.toList ++ s.plain.varTypes Tryz.prog).any (Tryz.prog.ifacesRec ·))=true) (h15 : (c.mapsOut == Tryz.prog.mapsAmong fn.resultTypes.toList)=true)
  (h16 : (c.loops == (fn.params.toList ++ s.plain.varTypes Tryz.prog).any (Tryz.prog.loopsFrom ·))=true) (h17 : (c.wideKeys == (fn.params.toList ++ s.plain.varTypes Tryz.prog ++ fn.resultTypes.toList).any (Tryz.prog.wideKeysFrom ·))=true)
  (h18 : s.vars.all (Tryz.prog.varReadable ·)=true) (h19 : fn.resultTypes.all (fun t=>Tryz.prog.readableRec t && decide (t < Tryz.prog.types.size))=true) (h20 : (c.ifacesOut == fn.resultTypes.toList.any (Tryz.prog.ifacesRec ·))=true) (h21 : (c.loopsOut == fn.resultTypes.toList.any (Tryz.prog.loopsFrom ·))=true)
  (h22 : c.plainKeys=Rows.fnEntryRow.plainKeys) (h23 : c.shortTexts.isNone=true) (h26 : c.lifted=Rows.fnEntryRow.lifted) (h27 : c.make=Rows.fnEntryRow.make)
  (h28 : (c.kinds == (if c.domain.isEmpty then [] else fn.params.toList.map fun t=>match Tryz.prog.underlying t with | some (.int k)=>some k | _=>none))=true) (h29 : (c.pinned == c.pinnedBy)=true)
  (h30 : (c.veiled == (fn.params.toList ++ s.plain.varTypes Tryz.prog ++ fn.resultTypes.toList).any (Tryz.prog.veiledRec ·))=true) (h31 : c.veiledFits Tryz.prog fn.params.toList (fn.params.toList ++ s.plain.varTypes Tryz.prog ++ fn.resultTypes.toList)=true) : joinedFacts Tryz.prog f fn s c=true:=by
 have k22:=fKeys
 have k26:=fLifts
 have k27:=fMake
 rw [<- h22] at k22
 rw [<- h26] at k26
 rw [<- h27] at k27
 exact joined_gen (h0:=h0) (h1:=laidOut) (h2:=fMaps) (h3:=h3) (h4:=h4) (h5:=h5) (h6:=fStops) (h7:=h7) (h8:=fKnobs) (h9:=h9) (h10:=h10) (h11:=h11) (h12:=h12) (h13:=h13) (h14:=h14) (h15:=h15) (h16:=h16) (h17:=h17) (h18:=h18) (h19:=h19) (h20:=h20) (h21:=h21) (h22:=k22) (h23:=h23) (h24:=fHeard) (h25:=fEnter) (h26:=k26) (h27:=k27) (h28:=h28) (h29:=h29) (h30:=h30) (h31:=h31)
theorem law_post {H : Type} {enc : TypeId × Value -> H} {W W' : World} {fn : Func} {spec : ChangeSpec} {ts : List TypeId} {args : Array Value} {ds : List (DataW H)} {before : List MemPlace} (hts : fn.params.toList=ts) (hres : fn.resultTypes.toList=[4]) (hrs : fn.resultTypes.size=1) (hv : spec.vars=[]) (hfn : spec.fn H (ds ++ [])={ results:=[.lit (.bool true)],args:=ds })
  (hW : DataW.Whole enc Tryz.prog fn.params.toList spec.vars false W args.toList ds [] before) (hE : Ext W W') (hr : (ts.all fun t=>Tryz.prog.readableRec t && decide (t < Tryz.prog.types.size))=true) :
  spec.post enc Tryz.prog fn false true false false W args (.bool true) W':=by
 have hW':=hW
 obtain ⟨p,q,hA,hV,rfl,hfz,hnd⟩:=hW
 refine ⟨ds,[],p ++ q,[],p,[],hW',?_,?_,?_,hE.frame _,fun h=>by cases h⟩
 ·rw [hres,hrs,hfn]
  exact trodAll_mk1 (shut_bool (by kernel_rfl) _)
 ·rw [hfn,hts]
  rw [hts] at hA
  exact trodAll_stays laidOut hE ts hr hA (fun x hx=>hW'.lt x (List.mem_append_left _ hx))
 ·rw [hv,hfn];exact rfl
end Go.Proofs.YtigalkobmfbdaaaGreatDoor
