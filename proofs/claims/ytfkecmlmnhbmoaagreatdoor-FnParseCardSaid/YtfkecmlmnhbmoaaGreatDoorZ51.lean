/- FnParse: the texts R4c of the workbench, laid together. -/
import Derived.Test.YtfkecmlmnhbmoaaGreatDoorProg
import Derived.WalkKit
import Derived.WalkLawsBesides
import Derived.WalkSpells
import Derived.BigQuiet
import Derived.BigRegion
import Derived.Deep.QuietTactic
import Derived.Deep.RegionHeld3
import Derived.Deep.LoopGhost
import Derived.StillTailTactics
import Derived.Lib.Hide
import Derived.Laws.EntriesVeiled
import Derived.JoinedCond
import Derived.ProofKit
import Derived.Test.YtfkecmlmnhbmoaaGreatDoorRows
set_option linter.unusedVariables false
set_option linter.unusedSimpArgs false
namespace Go.Proofs.YtfkecmlmnhbmoaaGreatDoor
open Go Go.RowKit
theorem an {a b:Bool} (h:a=true) (g:b=true):(a && b)=true:=by rw [h,g];rfl
set_option maxRecDepth 100000
theorem ja0:(Rows.fnParseRow.wf (OpenSpec.ofChange Rows.fnParseSpec))=true:=by kernel_rfl
theorem ja1:(laidOutB Tryz.prog)=true:=by kernel_rfl
theorem ja2:(mapsRowed Tryz.prog)=true:=by kernel_rfl
theorem ja3:(Tryz.f4.params.all (Tryz.prog.readableRec ·))=true:=by kernel_rfl
theorem ja4:(namedTie Tryz.prog Rows.fnParseRow.named Rows.fnParseSpec.vars)=true:=by kernel_rfl
theorem ja5:((Rows.fnParseRow.stops == []))=true:=by kernel_rfl
theorem ja6:((Tryz.prog.stops == []))=true:=by kernel_rfl
theorem ja7:((Rows.fnParseRow.knobs == []))=true:=by kernel_rfl
theorem ja8:((Tryz.prog.stopKnobs == []))=true:=by kernel_rfl
theorem ja9:((Rows.fnParseRow.inPlace == Tryz.prog.inPlace 4))=true:=by kernel_rfl
theorem ja10:((Rows.fnParseRow.unfollowed == Tryz.prog.unfollowed 4))=true:=by kernel_rfl
theorem ja11:((Rows.fnParseRow.recurses == Tryz.prog.recurses 4))=true:=by kernel_rfl
theorem ja12:((Rows.fnParseRow.named == Tryz.prog.varsNamed 4))=true:=by kernel_rfl
theorem ja13:((Rows.fnParseRow.maps == (Tryz.f4.params.toList ++ Rows.fnParseSpec.plain.varTypes Tryz.prog).any (Tryz.prog.mapsRec ·)))=true:=by kernel_rfl
theorem ja14:((Rows.fnParseRow.ifaces == (Tryz.f4.params.toList ++ Rows.fnParseSpec.plain.varTypes Tryz.prog).any (Tryz.prog.ifacesRec ·)))=true:=by kernel_rfl
theorem ja15:((Rows.fnParseRow.mapsOut == Tryz.prog.mapsAmong Tryz.f4.resultTypes.toList))=true:=by kernel_rfl
theorem ja16:((Rows.fnParseRow.loops == (Tryz.f4.params.toList ++ Rows.fnParseSpec.plain.varTypes Tryz.prog).any (Tryz.prog.loopsFrom ·)))=true:=by kernel_rfl
theorem ja17:((Rows.fnParseRow.wideKeys == (Tryz.f4.params.toList ++ Rows.fnParseSpec.plain.varTypes Tryz.prog ++ Tryz.f4.resultTypes.toList).any (Tryz.prog.wideKeysFrom ·)))=true:=by kernel_rfl
theorem ja18:(Rows.fnParseSpec.vars.all (Tryz.prog.varReadable ·))=true:=by kernel_rfl
theorem ja19:(Tryz.f4.resultTypes.all (fun t=>Tryz.prog.readableRec t && decide (t < Tryz.prog.types.size)))=true:=by kernel_rfl
theorem ja20:((Rows.fnParseRow.ifacesOut == Tryz.f4.resultTypes.toList.any (Tryz.prog.ifacesRec ·)))=true:=by kernel_rfl
theorem ja21:((Rows.fnParseRow.loopsOut == Tryz.f4.resultTypes.toList.any (Tryz.prog.loopsFrom ·)))=true:=by kernel_rfl
theorem ja22:((Rows.fnParseRow.plainKeys == Tryz.prog.plainKeys))=true:=by kernel_rfl
theorem ja23:(Rows.fnParseRow.shortTexts.isNone)=true:=by kernel_rfl
theorem ja24:(Tryz.prog.stopsHeard)=true:=by kernel_rfl
theorem ja25:(Tryz.prog.mayEnter)=true:=by kernel_rfl
theorem ja26:((Rows.fnParseRow.lifted == Tryz.prog.liftsFinal))=true:=by kernel_rfl
theorem ja27:((Tryz.prog.make == some Rows.fnParseRow.make))=true:=by kernel_rfl
theorem ja28:((Rows.fnParseRow.kinds == (if Rows.fnParseRow.domain.isEmpty then [] else Tryz.f4.params.toList.map fun t=>match Tryz.prog.underlying t with | some (.int k)=>some k | _=>none)))=true:=by kernel_rfl
theorem ja29:((Rows.fnParseRow.pinned == Rows.fnParseRow.pinnedBy))=true:=by kernel_rfl
theorem ja30:((Rows.fnParseRow.veiled == (Tryz.f4.params.toList ++ Rows.fnParseSpec.plain.varTypes Tryz.prog ++ Tryz.f4.resultTypes.toList).any (Tryz.prog.veiledRec ·)))=true:=by kernel_rfl
theorem ja31:(Rows.fnParseRow.veiledFits Tryz.prog Tryz.f4.params.toList (Tryz.f4.params.toList ++ Rows.fnParseSpec.plain.varTypes Tryz.prog ++ Tryz.f4.resultTypes.toList))=true:=by kernel_rfl
theorem facts_parse:joinedFacts Tryz.prog 4 Tryz.f4 Rows.fnParseSpec Rows.fnParseRow=true:=by
  unfold joinedFacts
  exact an (an (an (an (an (an (an (an (an (an (an (an (an (an (an (an (an (an (an (an (an (an (an (an (an (an (an (an (an (an (an ja0 ja1) ja2) ja3) ja4) ja5) ja6) ja7) ja8) ja9) ja10) ja11) ja12) ja13) ja14) ja15) ja16) ja17) ja18) ja19) ja20) ja21) ja22) ja23) ja24) ja25) ja26) ja27) ja28) ja29) ja30) ja31
theorem inst_parse:Tryz.f4.isInstance Tryz.pinned.checked.prog Rows.fnParseRow.origin Rows.fnParseRow.targs:=of_decide_eq_true (by kernel_rfl)
theorem wrap_parse:Tryz.f4.isWrapper Tryz.pinned.checked.prog Rows.fnParseRow.wrapper Rows.fnParseRow.mainSum:=by
  unfold Func.isWrapper;first | (rw [if_pos (by decide +kernel)];kernel_rfl) | (rw [if_neg (by decide +kernel)];exact ⟨rfl,rfl⟩)
theorem name_parse:Tryz.pinned.checked.prog.funcNamed Rows.fnParseRow.func=some 4:=by kernel_rfl
end Go.Proofs.YtfkecmlmnhbmoaaGreatDoor
