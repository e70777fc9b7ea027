/- Parts R6a. -/
import Derived.Test.YtfkecmlmnhbmoaaGreatDoorCards
import Derived.Test.YtfkecmlmnhbmoaaGreatDoorTie
import Derived.Test.YtfkecmlmnhbmoaaGreatDoorW49
import Derived.Test.YtfkecmlmnhbmoaaGreatDoorW50
import Derived.Test.YtfkecmlmnhbmoaaGreatDoorW51
set_option linter.unusedVariables false
set_option linter.unusedSimpArgs false
set_option maxRecDepth 100000
set_option maxHeartbeats 40000000
namespace Go.Proofs.YtfkecmlmnhbmoaaGreatDoor
open Go Go.RowKit
theorem own_none:ownKnob Tryz.prog.godebug=none:=by kernel_rfl
def ob0:Value:=.agg #[.int .i64 0,.int .i64 0,.int .i64 0,.float .f64 0,.string ⟨#[]⟩,.slice none 0 0,.slice none 0 0]
noncomputable def witP (os:Os):World:=(laidWorld os).forCall (fun _ _=>0) ⟨#[],#[ob0],[]⟩
theorem witP_eq (os:Os):witP os=witW os:=rfl
theorem witP_mem (os:Os):(witP os).memory=(witW os).memory:=by rw[witP_eq]
theorem witP_vars (os:Os):(witP os).variablesRefB Tryz.prog=true:=by rw[witP_eq];exact wit_vars os
theorem witP_rest (os:Os):((witP os).heap.toList.drop Tryz.prog.globals.size).take ((begin Tryz.prog (fun _ _=>0) default).world.heap.size-Tryz.prog.globals.size)=(begin Tryz.prog (fun _ _=>0) default).world.heap.toList.drop Tryz.prog.globals.size:=by rw[witP_eq];exact wit_rest os
theorem laid_printU (os:Os):laidMet Tryz.prog Rows.fnPrintRow.laid (witP os).memory:=by rw[witP_mem];exact laid_print os
theorem reads_print (os:Os){H:Type}(enc:TypeId×Value→H):∃places,DataW.whole enc Tryz.prog (witP os).memory Tryz.f3.params.toList Rows.fnPrintSpec.vars false #[ob0].toList 8=some ([.agg [.lit (.int .i64 0),.lit (.int .i64 0),.lit (.int .i64 0),.lit (.float .f64 0),.lit (.string []),.nil,.nil]],[],places) :=
 ⟨[],by kernel_rfl⟩
theorem lifted_print (os:Os)(started:os.Started)(H:Type)(enc:TypeId×Value→H)(F:Stop.Interp) :
  ReturnsInHanded {} Tryz.checked os 3 .any ((OpenSpec.ofChange Rows.fnPrintSpec).preRow enc Tryz.prog Tryz.f3 Rows.fnPrintRow.domain false Rows.fnPrintRow.laid) (((OpenSpec.ofChange Rows.fnPrintSpec).at F).post enc Tryz.prog Tryz.f3 false true false false):=by
 obtain⟨places,hx⟩:=reads_print os enc
 refine returnsInHanded_of_row (C:=Tryz.checked) (s:=OpenSpec.ofChange Rows.fnPrintSpec) own_none started (by kernel_rfl) Tryz.func3
  (witness_row_atRef (enc:=enc) (C:=Tryz.checked) false (laidWorld os) #[ob0] rfl (witP_vars os) (witP_rest os) (by kernel_rfl)
   (OpenSpec.preRow_of_cond 8 hx rfl (fun k hk=>by cases hk) (by kernel_rfl) (laid_printU os))) ?_
 intro W base args ds gs before hval hW _ _ hk hL _ _;exact contract3 H enc W base args ds gs before hval hW hk hL
theorem said_print:Rows.FnPrintSaid :=
 OpenClaim.holds_of_cond 3 Tryz.f3 rfl rfl rfl rfl rfl rfl rfl ⟨rfl,rfl,rfl,rfl,rfl⟩ rfl rfl rfl rfl rfl name_print Tryz.func3 facts_print inst_print wrap_print
  (fun os started H enc _ F=>by rw[OpenClaim.pre_eq_preRow];exact lifted_print os started H enc F)
end Go.Proofs.YtfkecmlmnhbmoaaGreatDoor
