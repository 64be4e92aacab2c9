import Derived.Test.YtcidlnjpabgioaaGreatDoorUGLowA
import Derived.Test.YtcidlnjpabgioaaGreatDoorRows
set_option maxRecDepth 100000
namespace Go.Proofs.YtcidlnjpabgioaaGreatDoor
open Go
theorem aFN:mapsRowed Tryz.prog=true:=by kernel_rfl
theorem aLS:(Tryz.prog.stops == [])=true:=by kernel_rfl
theorem aLR:(Tryz.prog.stopKnobs == [])=true:=by kernel_rfl
theorem aDP:Tryz.prog.stopsHeard=true:=by kernel_rfl
theorem may_enter:Tryz.prog.mayEnter=true:=by kernel_rfl
theorem aIH {P:Program} {f:FuncId} {fn:Func} {s:ChangeSpec} {c:OpenClaim} (h1:c.wf (OpenSpec.ofChange s)=true) (h2:laidOutB P=true) (h3:mapsRowed P=true)
 (h4:fn.params.all (P.readableRec ·)=true) (h5:namedTie P c.named s.vars=true) (h6:(c.stops == [])=true) (h7:(P.stops == [])=true) (h8:(c.knobs == [])=true) (h9:(P.stopKnobs == [])=true)
 (QH:(c.inPlace == P.inPlace f)=true) (YW:(c.unfollowed == P.unfollowed f)=true) (UW:(c.recurses == P.recurses f)=true) (YX:(c.named == P.varsNamed f)=true)
 (YY:(c.maps == (fn.params.toList++s.plain.varTypes P).any (P.mapsRec ·))=true) (YZ:(c.ifaces == (fn.params.toList++s.plain.varTypes P).any (P.ifacesRec ·))=true) (XQ:(c.mapsOut == P.mapsAmong fn.resultTypes.toList)=true)
 (Za:(c.loops == (fn.params.toList++s.plain.varTypes P).any (P.loopsFrom ·))=true) (Zb:(c.wideKeys == (fn.params.toList++s.plain.varTypes P++fn.resultTypes.toList).any (P.wideKeysFrom ·))=true)
 (Zc:s.vars.all (P.varReadable ·)=true) (XR:fn.resultTypes.all (fun t=>P.readableRec t && decide (t<P.types.size))=true) (Ze:(c.ifacesOut == fn.resultTypes.toList.any (P.ifacesRec ·))=true) (Zf:(c.loopsOut == fn.resultTypes.toList.any (P.loopsFrom ·))=true)
 (Zg:(c.plainKeys == P.plainKeys)=true) (VJ:c.shortTexts.isNone=true) (Zh:P.stopsHeard=true) (Zi:P.mayEnter=true) (VK:(c.lifted == P.liftsFinal)=true) (Zj:(P.make == some c.make)=true)
 (Zk:(c.kinds == (if c.domain.isEmpty then [] else fn.params.toList.map fun t=>match P.underlying t with|some (.int k)=>some k|_=>none))=true) (Zl:(c.pinned == c.pinnedBy)=true)
 (Zm:(c.veiled == (fn.params.toList++s.plain.varTypes P++fn.resultTypes.toList).any (P.veiledRec ·))=true) (Zn:c.veiledFits P fn.params.toList (fn.params.toList++s.plain.varTypes P++fn.resultTypes.toList)=true):joinedFacts P f fn s c=true:=by
 unfold joinedFacts;simp only[h1,h2,h3,h4,h5,h6,h7,h8,h9,QH,YW,UW,YX,YY,YZ,XQ,Za,Zb,Zc,XR,Ze,Zf,Zg,VJ,Zh,Zi,VK,Zj,Zl,Zm,Zn,Bool.and_self,Bool.true_and,Bool.and_true]
 exact Zk
end Go.Proofs.YtcidlnjpabgioaaGreatDoor
