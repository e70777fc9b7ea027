/- Parts F13z. -/
import Derived.Test.YtfkecmlmnhbmoaaGreatDoorW24
set_option linter.unusedVariables false
set_option linter.unusedSimpArgs false
set_option maxRecDepth 100000
set_option maxHeartbeats 40000000
namespace Go.Proofs.YtfkecmlmnhbmoaaGreatDoor
open Go Go.RowKit
theorem rf_any (w:World)(s:ByteArray)(l:By)(hs:s.data.toList=l)(hok:numOk l)(hs2:s.size≤1000) :
  Calls Tryz.prog 143 #[.string s] w fun e w'=>e=rfRet l s.size∧w'=w:=by
 obtain⟨pre,c,l1,d,a,rfl,hp,hst,hsc,hd1,hd2,ha⟩:=numOk_parts hok;rcases hp with rfl|rfl|rfl
 ·exact rf_nil w s c l1 d a hs hst hsc hd1 hd2 ha hs2
 ·exact rf_b w s c l1 d a hs hst hsc hd1 hd2 ha hs2
 ·exact rf_c w s c l1 d a hs hst hsc hd1 hd2 ha hs2
end Go.Proofs.YtfkecmlmnhbmoaaGreatDoor
