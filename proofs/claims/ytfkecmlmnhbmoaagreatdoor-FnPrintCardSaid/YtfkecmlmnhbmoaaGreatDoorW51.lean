/- Parts R6c. -/
import Derived.Test.YtfkecmlmnhbmoaaGreatDoorW1
import Derived.ProofKit
import Derived.Test.YtfkecmlmnhbmoaaGreatDoorRows
set_option linter.unusedVariables false
set_option linter.unusedSimpArgs false
set_option maxRecDepth 100000
set_option maxHeartbeats 40000000
namespace Go.Proofs.YtfkecmlmnhbmoaaGreatDoor
open Go Go.RowKit
theorem an {a b:Bool}(h:a=true)(g:b=true):(a&&b)=true:=by rw[h,g];rfl
theorem jb0:(Rows.fnPrintRow.wf (OpenSpec.ofChange Rows.fnPrintSpec))=true:=by kernel_rfl
theorem jb1:(laidOutB Tryz.prog)=true:=by kernel_rfl
theorem jb2:(mapsRowed Tryz.prog)=true:=by kernel_rfl
theorem jb3:(Tryz.f3.params.all (Tryz.prog.readableRec ·))=true:=by kernel_rfl
theorem jb4:(namedTie Tryz.prog Rows.fnPrintRow.named Rows.fnPrintSpec.vars)=true:=by kernel_rfl
theorem jb5:((Rows.fnPrintRow.stops==[]))=true:=by kernel_rfl
theorem jb6:((Tryz.prog.stops==[]))=true:=by kernel_rfl
theorem jb7:((Rows.fnPrintRow.knobs==[]))=true:=by kernel_rfl
theorem jb8:((Tryz.prog.stopKnobs==[]))=true:=by kernel_rfl
theorem jb9:((Rows.fnPrintRow.inPlace==Tryz.prog.inPlace 3))=true:=by kernel_rfl
theorem jb10:((Rows.fnPrintRow.unfollowed==Tryz.prog.unfollowed 3))=true:=by kernel_rfl
theorem jb11:((Rows.fnPrintRow.recurses==Tryz.prog.recurses 3))=true:=by kernel_rfl
theorem jb12:((Rows.fnPrintRow.named==Tryz.prog.varsNamed 3))=true:=by kernel_rfl
theorem jb13:((Rows.fnPrintRow.maps==(Tryz.f3.params.toList++Rows.fnPrintSpec.plain.varTypes Tryz.prog).any (Tryz.prog.mapsRec ·)))=true:=by kernel_rfl
theorem jb14:((Rows.fnPrintRow.ifaces==(Tryz.f3.params.toList++Rows.fnPrintSpec.plain.varTypes Tryz.prog).any (Tryz.prog.ifacesRec ·)))=true:=by kernel_rfl
theorem jb15:((Rows.fnPrintRow.mapsOut==Tryz.prog.mapsAmong Tryz.f3.resultTypes.toList))=true:=by kernel_rfl
theorem jb16:((Rows.fnPrintRow.loops==(Tryz.f3.params.toList++Rows.fnPrintSpec.plain.varTypes Tryz.prog).any (Tryz.prog.loopsFrom ·)))=true:=by kernel_rfl
theorem jb17:((Rows.fnPrintRow.wideKeys==(Tryz.f3.params.toList++Rows.fnPrintSpec.plain.varTypes Tryz.prog++Tryz.f3.resultTypes.toList).any (Tryz.prog.wideKeysFrom ·)))=true:=by kernel_rfl
theorem jb18:(Rows.fnPrintSpec.vars.all (Tryz.prog.varReadable ·))=true:=by kernel_rfl
theorem jb19:(Tryz.f3.resultTypes.all (fun t=>Tryz.prog.readableRec t&&decide (t<Tryz.prog.types.size)))=true:=by kernel_rfl
theorem jb20:((Rows.fnPrintRow.ifacesOut==Tryz.f3.resultTypes.toList.any (Tryz.prog.ifacesRec ·)))=true:=by kernel_rfl
theorem jb21:((Rows.fnPrintRow.loopsOut==Tryz.f3.resultTypes.toList.any (Tryz.prog.loopsFrom ·)))=true:=by kernel_rfl
theorem jb22:((Rows.fnPrintRow.plainKeys==Tryz.prog.plainKeys))=true:=by kernel_rfl
theorem jb23:(Rows.fnPrintRow.shortTexts.isNone)=true:=by kernel_rfl
theorem jb24:(Tryz.prog.stopsHeard)=true:=by kernel_rfl
theorem jb25:(Tryz.prog.mayEnter)=true:=by kernel_rfl
theorem jb26:((Rows.fnPrintRow.lifted==Tryz.prog.liftsFinal))=true:=by kernel_rfl
theorem jb27:((Tryz.prog.make==some Rows.fnPrintRow.make))=true:=by kernel_rfl
theorem jb28:((Rows.fnPrintRow.kinds==(if Rows.fnPrintRow.domain.isEmpty then [] else Tryz.f3.params.toList.map fun t=>match Tryz.prog.underlying t with|some (.int k)=>some k|_=>none)))=true:=by kernel_rfl
theorem jb29:((Rows.fnPrintRow.pinned==Rows.fnPrintRow.pinnedBy))=true:=by kernel_rfl
theorem jb30:((Rows.fnPrintRow.veiled==(Tryz.f3.params.toList++Rows.fnPrintSpec.plain.varTypes Tryz.prog++Tryz.f3.resultTypes.toList).any (Tryz.prog.veiledRec ·)))=true:=by kernel_rfl
theorem jb31:(Rows.fnPrintRow.veiledFits Tryz.prog Tryz.f3.params.toList (Tryz.f3.params.toList++Rows.fnPrintSpec.plain.varTypes Tryz.prog++Tryz.f3.resultTypes.toList))=true:=by kernel_rfl
theorem facts_print:joinedFacts Tryz.prog 3 Tryz.f3 Rows.fnPrintSpec Rows.fnPrintRow=true:=by
 unfold joinedFacts;exact an (an (an (an (an (an (an (an (an (an (an (an (an (an (an (an (an (an (an (an (an (an (an (an (an (an (an (an (an (an (an jb0 jb1) jb2) jb3) jb4) jb5) jb6) jb7) jb8) jb9) jb10) jb11) jb12) jb13) jb14) jb15) jb16) jb17) jb18) jb19) jb20) jb21) jb22) jb23) jb24) jb25) jb26) jb27) jb28) jb29) jb30) jb31
theorem inst_print:Tryz.f3.isInstance Tryz.pinned.checked.prog Rows.fnPrintRow.origin Rows.fnPrintRow.targs:=of_decide_eq_true (by kernel_rfl)
theorem wrap_print:Tryz.f3.isWrapper Tryz.pinned.checked.prog Rows.fnPrintRow.wrapper Rows.fnPrintRow.mainSum:=by
 unfold Func.isWrapper;first|(rw[if_pos (by decide +kernel)];kernel_rfl)|(rw[if_neg (by decide +kernel)];exact⟨rfl,rfl⟩)
theorem name_print:Tryz.pinned.checked.prog.funcNamed Rows.fnPrintRow.func=some 3:=by kernel_rfl
end Go.Proofs.YtfkecmlmnhbmoaaGreatDoor
