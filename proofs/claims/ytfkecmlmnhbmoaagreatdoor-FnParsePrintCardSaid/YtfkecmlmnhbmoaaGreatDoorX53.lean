/- Parts R8p. -/
import Derived.Test.YtfkecmlmnhbmoaaGreatDoorX1
import Derived.SevenTiedAt
import Derived.ProofKit
import Derived.Test.YtfkecmlmnhbmoaaGreatDoorRows
set_option linter.unusedVariables false
set_option linter.unusedSimpArgs false
set_option maxRecDepth 100000
set_option maxHeartbeats 40000000
namespace Go.Proofs.YtfkecmlmnhbmoaaGreatDoor
open Go Go.RowKit
theorem b4C (f:FuncId)(fn:Func)(hf:Tryz.pinned.checked.prog.funcNamed Rows.fnParsePrintRow.func=some f)(hfn:Tryz.pinned.checked.prog.funcs[f]?=some fn) :
  true=Tryz.pinned.checked.prog.looks []∧∀(j:Nat) t,fn.params[j]?=some t→Tryz.pinned.checked.prog.wantsStandIn t=false:=by
 obtain rfl:f=5:=Option.some.inj ((show Tryz.prog.funcNamed "given.example/pub-foolscap/laws.FnParsePrint" = some 5 by kernel_rfl).symm.trans hf) |>.symm;obtain rfl:fn=Tryz.f5:=(Option.some.inj (Tryz.func5.symm.trans hfn)).symm;refine⟨by kernel_rfl,fun j t ht=>?_⟩;rw[Tryz.params5]at ht;obtain rfl:t=9:=by simpa using Array.mem_of_getElem? ht
 exact(show Tryz.prog.wantsStandIn 9=false by kernel_rfl)
theorem b9Z:Rows.fnParsePrintRow.wfByText (OpenSpec.ofChange Rows.fnParsePrintSpec)=true:=by kernel_rfl
theorem b7d:Tryz.pinned.checked.prog.mainIs=some (true, "4d4ff2523b5d36cd016f78a5fb8238fc781ce3c85dd2949b29fb79b9dedc8c11".toList):=by kernel_rfl
theorem b6I:false=Rows.fnParsePrintRow.goesBy Tryz.pinned.checked.prog:=by kernel_rfl
end Go.Proofs.YtfkecmlmnhbmoaaGreatDoor
