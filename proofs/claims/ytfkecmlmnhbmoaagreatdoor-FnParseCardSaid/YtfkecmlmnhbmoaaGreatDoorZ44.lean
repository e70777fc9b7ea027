/- FnParse: the texts K3 of the workbench, laid together. -/
import Derived.Test.YtfkecmlmnhbmoaaGreatDoorProg
import Derived.WalkKit
import Derived.WalkLawsBesides
import Derived.WalkSpells
import Derived.BigQuiet
import Derived.BigRegion
import Derived.Deep.QuietTactic
import Derived.Deep.RegionHeld3
import Derived.Deep.LoopGhost
import Derived.StillTailTactics
import Derived.Lib.Hide
import Derived.Laws.EntriesVeiled
import Derived.Test.YtfkecmlmnhbmoaaGreatDoorZ43
set_option linter.unusedVariables false
set_option linter.unusedSimpArgs false
namespace Go.Proofs.YtfkecmlmnhbmoaaGreatDoor
open Go Go.RowKit
open Go.Maps
theorem ord00:FloatKind.f64.format.order 0 0=some Ordering.eq:=by decide
theorem bsnil:(bs ([]:By)).toList=[]:=by unfold ByteArray.toList ByteArray.toList.loop;rfl
set_option maxRecDepth 100000 in
set_option maxHeartbeats 40000000 in
theorem only_int (n:Int) (ko vo:Option Addr) (kc vc:Nat) (w:World):Calls Tryz.prog 32 #[objV (.int n) (.slice ko 0 kc) (.slice vo 0 vc)] w fun e w'=>e=.returned (.bool true)∧w.grownBy w' none:=by
  have hg0:∀ o,w.grownBy (w.alloc o) none:=fun o=>gr_alloc (World.grownBy.refl w none) _
  have ho:=ord00
  have hb:=bsnil
  unfold objV kO iO gO rO tO
  rcases Bool.eq_false_or_eq_true (n != 0) with hn | hn
  all_goals
    go_enter Tryz.func32,Tryz.ntmps32
    go_wp2_with fail
    go_ret
    exact ⟨rfl,hg0 _⟩
set_option maxRecDepth 100000 in
set_option maxHeartbeats 40000000 in
theorem only_null (ko vo:Option Addr) (kc vc:Nat) (w:World):Calls Tryz.prog 32 #[objV (.null) (.slice ko 0 kc) (.slice vo 0 vc)] w fun e w'=>e=.returned (.bool true)∧w.grownBy w' none:=by
  have hg0:∀ o,w.grownBy (w.alloc o) none:=fun o=>gr_alloc (World.grownBy.refl w none) _
  have ho:=ord00
  have hb:=bsnil
  unfold objV kO iO gO rO tO
  go_enter Tryz.func32,Tryz.ntmps32
  go_wp2_with fail
  go_ret
  exact ⟨rfl,hg0 _⟩
set_option maxRecDepth 100000 in
set_option maxHeartbeats 40000000 in
theorem only_btrue (ko vo:Option Addr) (kc vc:Nat) (w:World):Calls Tryz.prog 32 #[objV (.bool true) (.slice ko 0 kc) (.slice vo 0 vc)] w fun e w'=>e=.returned (.bool true)∧w.grownBy w' none:=by
  have hg0:∀ o,w.grownBy (w.alloc o) none:=fun o=>gr_alloc (World.grownBy.refl w none) _
  have ho:=ord00
  have hb:=bsnil
  unfold objV kO iO gO rO tO
  go_enter Tryz.func32,Tryz.ntmps32
  go_wp2_with fail
  go_ret
  exact ⟨rfl,hg0 _⟩
set_option maxRecDepth 100000 in
set_option maxHeartbeats 40000000 in
theorem only_bfalse (ko vo:Option Addr) (kc vc:Nat) (w:World):Calls Tryz.prog 32 #[objV (.bool false) (.slice ko 0 kc) (.slice vo 0 vc)] w fun e w'=>e=.returned (.bool true)∧w.grownBy w' none:=by
  have hg0:∀ o,w.grownBy (w.alloc o) none:=fun o=>gr_alloc (World.grownBy.refl w none) _
  have ho:=ord00
  have hb:=bsnil
  unfold objV kO iO gO rO tO
  go_enter Tryz.func32,Tryz.ntmps32
  go_wp2_with fail
  go_ret
  exact ⟨rfl,hg0 _⟩
set_option maxRecDepth 100000 in
set_option maxHeartbeats 40000000 in
theorem only_lit (s:By) (ko vo:Option Addr) (kc vc:Nat) (w:World):Calls Tryz.prog 32 #[objV (.lit s) (.slice ko 0 kc) (.slice vo 0 vc)] w fun e w'=>e=.returned (.bool true)∧w.grownBy w' none:=by
  have hg0:∀ o,w.grownBy (w.alloc o) none:=fun o=>gr_alloc (World.grownBy.refl w none) _
  have ho:=ord00
  have hb:=bsnil
  unfold objV kO iO gO rO tO
  by_cases hs:(bs s).toList=[]
  all_goals
    generalize bs s=z at *
    go_enter Tryz.func32,Tryz.ntmps32
    go_wp2_with fail
    go_ret
    exact ⟨rfl,hg0 _⟩
set_option maxRecDepth 100000 in
set_option maxHeartbeats 40000000 in
theorem only_hexl (s:By) (ko vo:Option Addr) (kc vc:Nat) (w:World):Calls Tryz.prog 32 #[objV (.hexl s) (.slice ko 0 kc) (.slice vo 0 vc)] w fun e w'=>e=.returned (.bool true)∧w.grownBy w' none:=by
  have hg0:∀ o,w.grownBy (w.alloc o) none:=fun o=>gr_alloc (World.grownBy.refl w none) _
  have ho:=ord00
  have hb:=bsnil
  unfold objV kO iO gO rO tO
  by_cases hs:(bs s).toList=[]
  all_goals
    generalize bs s=z at *
    go_enter Tryz.func32,Tryz.ntmps32
    go_wp2_with fail
    go_ret
    exact ⟨rfl,hg0 _⟩
set_option maxRecDepth 100000 in
set_option maxHeartbeats 40000000 in
theorem only_name (s:By) (ko vo:Option Addr) (kc vc:Nat) (w:World):Calls Tryz.prog 32 #[objV (.name s) (.slice ko 0 kc) (.slice vo 0 vc)] w fun e w'=>e=.returned (.bool true)∧w.grownBy w' none:=by
  have hg0:∀ o,w.grownBy (w.alloc o) none:=fun o=>gr_alloc (World.grownBy.refl w none) _
  have ho:=ord00
  have hb:=bsnil
  unfold objV kO iO gO rO tO
  by_cases hs:(bs s).toList=[]
  all_goals
    generalize bs s=z at *
    go_enter Tryz.func32,Tryz.ntmps32
    go_wp2_with fail
    go_ret
    exact ⟨rfl,hg0 _⟩
set_option maxRecDepth 100000 in
set_option maxHeartbeats 40000000 in
theorem only_ref (n g:Int) (ko vo:Option Addr) (kc vc:Nat) (w:World):Calls Tryz.prog 32 #[objV (.ref n g) (.slice ko 0 kc) (.slice vo 0 vc)] w fun e w'=>e=.returned (.bool true)∧w.grownBy w' none:=by
  have hg0:∀ o,w.grownBy (w.alloc o) none:=fun o=>gr_alloc (World.grownBy.refl w none) _
  have ho:=ord00
  have hb:=bsnil
  unfold objV kO iO gO rO tO
  rcases Bool.eq_false_or_eq_true (n != 0) with hn | hn
  all_goals rcases Bool.eq_false_or_eq_true (g != 0) with hn2 | hn2
  all_goals
    go_enter Tryz.func32,Tryz.ntmps32
    go_wp2_with fail
    go_ret
    exact ⟨rfl,hg0 _⟩
end Go.Proofs.YtfkecmlmnhbmoaaGreatDoor
