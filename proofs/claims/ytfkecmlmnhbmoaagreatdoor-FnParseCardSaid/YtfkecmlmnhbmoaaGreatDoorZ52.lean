/- FnParse: the texts R4a of the workbench, laid together. -/
import Derived.Test.YtfkecmlmnhbmoaaGreatDoorProg
import Derived.WalkKit
import Derived.WalkLawsBesides
import Derived.WalkSpells
import Derived.BigQuiet
import Derived.BigRegion
import Derived.Deep.QuietTactic
import Derived.Deep.RegionHeld3
import Derived.Deep.LoopGhost
import Derived.StillTailTactics
import Derived.Lib.Hide
import Derived.Laws.EntriesVeiled
import Derived.Test.YtfkecmlmnhbmoaaGreatDoorCards
import Derived.Test.YtfkecmlmnhbmoaaGreatDoorTie
import Derived.SevenTiedAt
import Derived.JoinedCond
import Derived.ProofKit
import Derived.Test.YtfkecmlmnhbmoaaGreatDoorZ48
import Derived.Test.YtfkecmlmnhbmoaaGreatDoorZ50
import Derived.Test.YtfkecmlmnhbmoaaGreatDoorZ51
set_option linter.unusedVariables false
set_option linter.unusedSimpArgs false
namespace Go.Proofs.YtfkecmlmnhbmoaaGreatDoor
open Go Go.RowKit
theorem own_none:ownKnob Tryz.prog.godebug=none:=by kernel_rfl
theorem reads_parse (os:Os) {H:Type} (enc:TypeId × Value→H):∃ x,DataW.whole enc Tryz.prog (witW os).memory Tryz.f4.params.toList Rows.fnParseSpec.vars false #[Value.string ⟨#[]⟩].toList 8=some x :=
  Option.isSome_iff_exists.1 (by kernel_rfl)
set_option maxRecDepth 100000 in
theorem lifted_parse (os:Os) (started:os.Started) (H:Type) (enc:TypeId × Value→H) (F:Stop.Interp) :
    ReturnsInHanded {} Tryz.checked os 4 .any ((OpenSpec.ofChange Rows.fnParseSpec).preRow enc Tryz.prog Tryz.f4 Rows.fnParseRow.domain false Rows.fnParseRow.laid) (((OpenSpec.ofChange Rows.fnParseSpec).at F).post enc Tryz.prog Tryz.f4 false true false false):=by
  obtain ⟨x,hx⟩:=reads_parse os enc
  refine returnsInHanded_of_row (C:=Tryz.checked) (s:=OpenSpec.ofChange Rows.fnParseSpec) own_none started (by kernel_rfl) Tryz.func4
    (witness_row_atRef (enc:=enc) (C:=Tryz.checked) false (laidWorld os) #[.string ⟨#[]⟩] rfl (wit_vars os) (wit_rest os) (by kernel_rfl)
      (OpenSpec.preRow_of_cond 8 hx rfl (fun k hk=>by cases hk) (by kernel_rfl) (laid_parse os))) ?_
  intro W base args ds gs before hval hW _ _ _ hL _ _
  exact contract4 H enc W base args ds gs before hval hW hL
set_option maxRecDepth 100000 in
theorem said_parse:Rows.FnParseSaid :=
  OpenClaim.holds_of_cond 4 Tryz.f4 rfl rfl rfl rfl rfl rfl rfl ⟨rfl,rfl,rfl,rfl,rfl⟩ rfl rfl rfl rfl rfl name_parse Tryz.func4 facts_parse inst_parse wrap_parse
    (fun os started H enc _ F=>by rw [OpenClaim.pre_eq_preRow];exact lifted_parse os started H enc F)
end Go.Proofs.YtfkecmlmnhbmoaaGreatDoor
