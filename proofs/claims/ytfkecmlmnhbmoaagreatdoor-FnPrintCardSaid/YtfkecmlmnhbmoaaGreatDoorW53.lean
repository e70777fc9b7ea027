/- Parts R6p. -/
import Derived.Test.YtfkecmlmnhbmoaaGreatDoorW1
import Derived.SevenTiedAt
import Derived.ProofKit
import Derived.Test.YtfkecmlmnhbmoaaGreatDoorRows
set_option linter.unusedVariables false
set_option linter.unusedSimpArgs false
set_option maxRecDepth 100000
set_option maxHeartbeats 40000000
namespace Go.Proofs.YtfkecmlmnhbmoaaGreatDoor
open Go Go.RowKit
theorem plain_print (f:FuncId)(fn:Func)(hf:Tryz.pinned.checked.prog.funcNamed Rows.fnPrintRow.func=some f)(hfn:Tryz.pinned.checked.prog.funcs[f]?=some fn) :
  true=Tryz.pinned.checked.prog.looks []∧∀(j:Nat) t,fn.params[j]?=some t→Tryz.pinned.checked.prog.wantsStandIn t=false:=by
 obtain rfl:f=3:=Option.some.inj ((show Tryz.prog.funcNamed "given.example/pub-foolscap/laws.FnPrint" = some 3 by kernel_rfl).symm.trans hf) |>.symm;obtain rfl:fn=Tryz.f3:=(Option.some.inj (Tryz.func3.symm.trans hfn)).symm;refine⟨by kernel_rfl,fun j t ht=>?_⟩;rw[Tryz.params3]at ht;obtain rfl:t=26:=by simpa using Array.mem_of_getElem? ht
 exact(show Tryz.prog.wantsStandIn 26=false by kernel_rfl)
theorem wfb_print:Rows.fnPrintRow.wfByText (OpenSpec.ofChange Rows.fnPrintSpec)=true:=by kernel_rfl
theorem main_print:Tryz.pinned.checked.prog.mainIs=some (true, "4d4ff2523b5d36cd016f78a5fb8238fc781ce3c85dd2949b29fb79b9dedc8c11".toList):=by kernel_rfl
theorem goes_print:false=Rows.fnPrintRow.goesBy Tryz.pinned.checked.prog:=by kernel_rfl
end Go.Proofs.YtfkecmlmnhbmoaaGreatDoor
