/- Parts F14z. -/
import Derived.Test.YtfkecmlmnhbmoaaGreatDoorW24
set_option linter.unusedVariables false
set_option linter.unusedSimpArgs false
set_option maxRecDepth 100000
set_option maxHeartbeats 40000000
namespace Go.Proofs.YtfkecmlmnhbmoaaGreatDoor
open Go Go.RowKit
theorem set_any (w:World)(b:Nat)(A:By)(s:ByteArray)(l:By)(hD:DecAt w b A 0 0 false false)(hs:s.data.toList=l)(hok:numOk l)(hs2:s.size≤1000) :
  Calls Tryz.prog 149 #[.pointer (some ⟨b,0,none⟩),.string s] w fun e w'=>e=.returned (.bool true)∧DecN w' b (stF (numStrip l) 0 0).1 (stF (numStrip l) 0 0).2 (headIs l (· == 45)) false∧w.grownBy w' (some b):=by
 obtain⟨pre,c,l1,d,a,rfl,hp,hst,hsc,hd1,hd2,ha⟩:=numOk_parts hok;have hcc:=scan_dig hsc;have hc45:((c.toNat:Int)==45)=false:=by simp;omega
 rw[hst];rcases hp with rfl|rfl|rfl
 ·have:=set_a w b A s c l1 d a hD hs hsc hd1 hd2 ha hs2
  simpa[headIs,hc45] using this
 ·have:=set_b w b A s c l1 d a hD hs hsc hd1 hd2 ha hs2
  simpa[headIs] using this
 ·have:=set_c w b A s c l1 d a hD hs hsc hd1 hd2 ha hs2
  simpa[headIs] using this
end Go.Proofs.YtfkecmlmnhbmoaaGreatDoor
