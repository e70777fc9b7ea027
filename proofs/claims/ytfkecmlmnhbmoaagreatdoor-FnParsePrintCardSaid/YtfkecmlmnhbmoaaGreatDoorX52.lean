/- Parts R8c. -/
import Derived.Test.YtfkecmlmnhbmoaaGreatDoorX1
import Derived.ProofKit
import Derived.Test.YtfkecmlmnhbmoaaGreatDoorRows
set_option linter.unusedVariables false
set_option linter.unusedSimpArgs false
set_option maxRecDepth 100000
set_option maxHeartbeats 40000000
namespace Go.Proofs.YtfkecmlmnhbmoaaGreatDoor
open Go Go.RowKit
theorem an {a b:Bool}(h:a=true)(g:b=true):(a&&b)=true:=by rw[h,g];rfl
theorem jc0:(Rows.fnParsePrintRow.wf (OpenSpec.ofChange Rows.fnParsePrintSpec))=true:=by kernel_rfl
theorem jc1:(laidOutB Tryz.prog)=true:=by kernel_rfl
theorem jc2:(mapsRowed Tryz.prog)=true:=by kernel_rfl
theorem jc3:(Tryz.f5.params.all (Tryz.prog.readableRec ·))=true:=by kernel_rfl
theorem jc4:(namedTie Tryz.prog Rows.fnParsePrintRow.named Rows.fnParsePrintSpec.vars)=true:=by kernel_rfl
theorem jc5:((Rows.fnParsePrintRow.stops==[]))=true:=by kernel_rfl
theorem jc6:((Tryz.prog.stops==[]))=true:=by kernel_rfl
theorem jc7:((Rows.fnParsePrintRow.knobs==[]))=true:=by kernel_rfl
theorem jc8:((Tryz.prog.stopKnobs==[]))=true:=by kernel_rfl
theorem jc9:((Rows.fnParsePrintRow.inPlace==Tryz.prog.inPlace 5))=true:=by kernel_rfl
theorem jc10:((Rows.fnParsePrintRow.unfollowed==Tryz.prog.unfollowed 5))=true:=by kernel_rfl
theorem jc11:((Rows.fnParsePrintRow.recurses==Tryz.prog.recurses 5))=true:=by kernel_rfl
theorem jc12:((Rows.fnParsePrintRow.named==Tryz.prog.varsNamed 5))=true:=by kernel_rfl
theorem jc13:((Rows.fnParsePrintRow.maps==(Tryz.f5.params.toList++Rows.fnParsePrintSpec.plain.varTypes Tryz.prog).any (Tryz.prog.mapsRec ·)))=true:=by kernel_rfl
theorem jc14:((Rows.fnParsePrintRow.ifaces==(Tryz.f5.params.toList++Rows.fnParsePrintSpec.plain.varTypes Tryz.prog).any (Tryz.prog.ifacesRec ·)))=true:=by kernel_rfl
theorem jc15:((Rows.fnParsePrintRow.mapsOut==Tryz.prog.mapsAmong Tryz.f5.resultTypes.toList))=true:=by kernel_rfl
theorem jc16:((Rows.fnParsePrintRow.loops==(Tryz.f5.params.toList++Rows.fnParsePrintSpec.plain.varTypes Tryz.prog).any (Tryz.prog.loopsFrom ·)))=true:=by kernel_rfl
theorem jc17:((Rows.fnParsePrintRow.wideKeys==(Tryz.f5.params.toList++Rows.fnParsePrintSpec.plain.varTypes Tryz.prog++Tryz.f5.resultTypes.toList).any (Tryz.prog.wideKeysFrom ·)))=true:=by kernel_rfl
theorem jc18:(Rows.fnParsePrintSpec.vars.all (Tryz.prog.varReadable ·))=true:=by kernel_rfl
theorem jc19:(Tryz.f5.resultTypes.all (fun t=>Tryz.prog.readableRec t&&decide (t<Tryz.prog.types.size)))=true:=by kernel_rfl
theorem jc20:((Rows.fnParsePrintRow.ifacesOut==Tryz.f5.resultTypes.toList.any (Tryz.prog.ifacesRec ·)))=true:=by kernel_rfl
theorem jc21:((Rows.fnParsePrintRow.loopsOut==Tryz.f5.resultTypes.toList.any (Tryz.prog.loopsFrom ·)))=true:=by kernel_rfl
theorem jc22:((Rows.fnParsePrintRow.plainKeys==Tryz.prog.plainKeys))=true:=by kernel_rfl
theorem jc23:(Rows.fnParsePrintRow.shortTexts.isNone)=true:=by kernel_rfl
theorem jc24:(Tryz.prog.stopsHeard)=true:=by kernel_rfl
theorem jc25:(Tryz.prog.mayEnter)=true:=by kernel_rfl
theorem jc26:((Rows.fnParsePrintRow.lifted==Tryz.prog.liftsFinal))=true:=by kernel_rfl
theorem jc27:((Tryz.prog.make==some Rows.fnParsePrintRow.make))=true:=by kernel_rfl
theorem jc28:((Rows.fnParsePrintRow.kinds==(if Rows.fnParsePrintRow.domain.isEmpty then [] else Tryz.f5.params.toList.map fun t=>match Tryz.prog.underlying t with|some (.int k)=>some k|_=>none)))=true:=by kernel_rfl
theorem jc29:((Rows.fnParsePrintRow.pinned==Rows.fnParsePrintRow.pinnedBy))=true:=by kernel_rfl
theorem jc30:((Rows.fnParsePrintRow.veiled==(Tryz.f5.params.toList++Rows.fnParsePrintSpec.plain.varTypes Tryz.prog++Tryz.f5.resultTypes.toList).any (Tryz.prog.veiledRec ·)))=true:=by kernel_rfl
theorem jc31:(Rows.fnParsePrintRow.veiledFits Tryz.prog Tryz.f5.params.toList (Tryz.f5.params.toList++Rows.fnParsePrintSpec.plain.varTypes Tryz.prog++Tryz.f5.resultTypes.toList))=true:=by kernel_rfl
theorem b3Y:joinedFacts Tryz.prog 5 Tryz.f5 Rows.fnParsePrintSpec Rows.fnParsePrintRow=true:=by
 unfold joinedFacts;exact an (an (an (an (an (an (an (an (an (an (an (an (an (an (an (an (an (an (an (an (an (an (an (an (an (an (an (an (an (an (an jc0 jc1) jc2) jc3) jc4) jc5) jc6) jc7) jc8) jc9) jc10) jc11) jc12) jc13) jc14) jc15) jc16) jc17) jc18) jc19) jc20) jc21) jc22) jc23) jc24) jc25) jc26) jc27) jc28) jc29) jc30) jc31
theorem b6T:Tryz.f5.isInstance Tryz.pinned.checked.prog Rows.fnParsePrintRow.origin Rows.fnParsePrintRow.targs:=of_decide_eq_true (by kernel_rfl)
theorem b8g:Tryz.f5.isWrapper Tryz.pinned.checked.prog Rows.fnParsePrintRow.wrapper Rows.fnParsePrintRow.mainSum:=by
 unfold Func.isWrapper;first|(rw[if_pos (by decide +kernel)];kernel_rfl)|(rw[if_neg (by decide +kernel)];exact⟨rfl,rfl⟩)
theorem b7e:Tryz.pinned.checked.prog.funcNamed Rows.fnParsePrintRow.func=some 5:=by kernel_rfl
end Go.Proofs.YtfkecmlmnhbmoaaGreatDoor
