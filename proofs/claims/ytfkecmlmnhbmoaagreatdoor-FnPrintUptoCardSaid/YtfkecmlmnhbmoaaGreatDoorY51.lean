/- The texts R6c of the workbench, laid together. -/
import Derived.Test.YtfkecmlmnhbmoaaGreatDoorProg
import Derived.WalkKit
import Derived.WalkLawsBesides
import Derived.WalkSpells
import Derived.BigQuiet
import Derived.BigRegion
import Derived.Deep.QuietTactic
import Derived.Deep.RegionHeld3
import Derived.Deep.LoopGhost
import Derived.StillTailTactics
import Derived.Lib.Hide
import Derived.Laws.EntriesVeiled
import Derived.JoinedCond
import Derived.ProofKit
import Derived.Test.YtfkecmlmnhbmoaaGreatDoorRows
set_option linter.unusedVariables false
set_option linter.unusedSimpArgs false
namespace Go.Proofs.YtfkecmlmnhbmoaaGreatDoor
open Go Go.RowKit
theorem an {a b:Bool} (h:a=true) (g:b=true):(a && b)=true:=by rw [h,g];rfl
set_option maxRecDepth 100000
theorem jb0:(Rows.fnPrintUptoRow.wf (Rows.OpenSpec.upto Rows.fnPrintSpec))=true:=by kernel_rfl
theorem jb1:(laidOutB Tryz.prog)=true:=by kernel_rfl
theorem jb2:(mapsRowed Tryz.prog)=true:=by kernel_rfl
theorem jb3:(Tryz.f3.params.all (Tryz.prog.readableRec ·))=true:=by kernel_rfl
theorem jb4:(namedTie Tryz.prog Rows.fnPrintUptoRow.named Rows.fnPrintSpec.vars)=true:=by kernel_rfl
theorem jb5:((Rows.fnPrintUptoRow.stops == []))=true:=by kernel_rfl
theorem jb6:((Tryz.prog.stops == []))=true:=by kernel_rfl
theorem jb7:((Rows.fnPrintUptoRow.knobs == []))=true:=by kernel_rfl
theorem jb8:((Tryz.prog.stopKnobs == []))=true:=by kernel_rfl
theorem jb9:((Rows.fnPrintUptoRow.inPlace == Tryz.prog.inPlace 3))=true:=by kernel_rfl
theorem jb10:((Rows.fnPrintUptoRow.unfollowed == Tryz.prog.unfollowed 3))=true:=by kernel_rfl
theorem jb11:((Rows.fnPrintUptoRow.recurses == Tryz.prog.recurses 3))=true:=by kernel_rfl
theorem jb12:((Rows.fnPrintUptoRow.named == Tryz.prog.varsNamed 3))=true:=by kernel_rfl
theorem jb13:((Rows.fnPrintUptoRow.maps == (Tryz.f3.params.toList ++ Rows.fnPrintSpec.plain.varTypes Tryz.prog).any (Tryz.prog.mapsRec ·)))=true:=by kernel_rfl
theorem jb14:((Rows.fnPrintUptoRow.ifaces == (Tryz.f3.params.toList ++ Rows.fnPrintSpec.plain.varTypes Tryz.prog).any (Tryz.prog.ifacesRec ·)))=true:=by kernel_rfl
theorem jb15:((Rows.fnPrintUptoRow.mapsOut == Tryz.prog.mapsAmong Tryz.f3.resultTypes.toList))=true:=by kernel_rfl
theorem jb16:((Rows.fnPrintUptoRow.loops == (Tryz.f3.params.toList ++ Rows.fnPrintSpec.plain.varTypes Tryz.prog).any (Tryz.prog.loopsFrom ·)))=true:=by kernel_rfl
theorem jb17:((Rows.fnPrintUptoRow.wideKeys == (Tryz.f3.params.toList ++ Rows.fnPrintSpec.plain.varTypes Tryz.prog ++ Tryz.f3.resultTypes.toList).any (Tryz.prog.wideKeysFrom ·)))=true:=by kernel_rfl
theorem jb18:(Rows.fnPrintSpec.vars.all (Tryz.prog.varReadable ·))=true:=by kernel_rfl
theorem jb19:(Tryz.f3.resultTypes.all (fun t=>Tryz.prog.readableRec t && decide (t < Tryz.prog.types.size)))=true:=by kernel_rfl
theorem jb20:((Rows.fnPrintUptoRow.ifacesOut == Tryz.f3.resultTypes.toList.any (Tryz.prog.ifacesRec ·)))=true:=by kernel_rfl
theorem jb21:((Rows.fnPrintUptoRow.loopsOut == Tryz.f3.resultTypes.toList.any (Tryz.prog.loopsFrom ·)))=true:=by kernel_rfl
theorem jb22:((Rows.fnPrintUptoRow.plainKeys == Tryz.prog.plainKeys))=true:=by kernel_rfl
theorem jb23:(Rows.fnPrintUptoRow.shortTexts.isNone)=true:=by kernel_rfl
theorem jb24:(Tryz.prog.stopsHeard)=true:=by kernel_rfl
theorem jb25:(Tryz.prog.mayEnter)=true:=by kernel_rfl
theorem jb26:((Rows.fnPrintUptoRow.lifted == Tryz.prog.liftsFinal))=true:=by kernel_rfl
theorem jb27:((Tryz.prog.make == some Rows.fnPrintUptoRow.make))=true:=by kernel_rfl
theorem jb28:((Rows.fnPrintUptoRow.kinds == (if Rows.fnPrintUptoRow.domain.isEmpty then [] else Tryz.f3.params.toList.map fun t=>match Tryz.prog.underlying t with | some (.int k)=>some k | _=>none)))=true:=by kernel_rfl
theorem jb29:((Rows.fnPrintUptoRow.pinned == Rows.fnPrintUptoRow.pinnedBy))=true:=by kernel_rfl
theorem jb30:((Rows.fnPrintUptoRow.veiled == (Tryz.f3.params.toList ++ Rows.fnPrintSpec.plain.varTypes Tryz.prog ++ Tryz.f3.resultTypes.toList).any (Tryz.prog.veiledRec ·)))=true:=by kernel_rfl
theorem jb31:(Rows.fnPrintUptoRow.veiledFits Tryz.prog Tryz.f3.params.toList (Tryz.f3.params.toList ++ Rows.fnPrintSpec.plain.varTypes Tryz.prog ++ Tryz.f3.resultTypes.toList))=true:=by kernel_rfl
theorem facts_print:joinedFacts Tryz.prog 3 Tryz.f3 Rows.fnPrintSpec Rows.fnPrintUptoRow=true:=by
 unfold joinedFacts
 exact an (an (an (an (an (an (an (an (an (an (an (an (an (an (an (an (an (an (an (an (an (an (an (an (an (an (an (an (an (an (an jb0 jb1) jb2) jb3) jb4) jb5) jb6) jb7) jb8) jb9) jb10) jb11) jb12) jb13) jb14) jb15) jb16) jb17) jb18) jb19) jb20) jb21) jb22) jb23) jb24) jb25) jb26) jb27) jb28) jb29) jb30) jb31
theorem inst_print:Tryz.f3.isInstance Tryz.pinned.checked.prog Rows.fnPrintUptoRow.origin Rows.fnPrintUptoRow.targs:=of_decide_eq_true (by kernel_rfl)
theorem wrap_print:Tryz.f3.isWrapper Tryz.pinned.checked.prog Rows.fnPrintUptoRow.wrapper Rows.fnPrintUptoRow.mainSum:=by
 unfold Func.isWrapper;first | (rw [if_pos (by decide +kernel)];kernel_rfl) | (rw [if_neg (by decide +kernel)];exact ⟨rfl,rfl⟩)
theorem name_print:Tryz.pinned.checked.prog.funcNamed Rows.fnPrintUptoRow.func=some 3:=by kernel_rfl
end Go.Proofs.YtfkecmlmnhbmoaaGreatDoor
