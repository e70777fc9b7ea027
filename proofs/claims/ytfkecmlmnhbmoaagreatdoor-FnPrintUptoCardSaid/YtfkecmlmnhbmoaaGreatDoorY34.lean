/- The texts D7 of the workbench, laid together. -/
import Derived.Test.YtfkecmlmnhbmoaaGreatDoorProg
import Derived.WalkKit
import Derived.WalkLawsBesides
import Derived.WalkSpells
import Derived.BigQuiet
import Derived.BigRegion
import Derived.Deep.QuietTactic
import Derived.Deep.RegionHeld3
import Derived.Deep.LoopGhost
import Derived.StillTailTactics
import Derived.Lib.Hide
import Derived.Laws.EntriesVeiled
import Derived.Deep.Cut
import Derived.Deep.CutRange
import Derived.Test.YtfkecmlmnhbmoaaGreatDoorY33
set_option linter.unusedVariables false
set_option linter.unusedSimpArgs false
namespace Go.Proofs.YtfkecmlmnhbmoaaGreatDoor
open Go Go.RowKit
open Go.Maps
set_option maxRecDepth 100000 in
set_option maxHeartbeats 40000000 in
theorem only_all (k i g:Int) (r:Nat) (z:ByteArray) (ko vo:Option Addr) (kn kc vn vc:Nat) (w:World) :
  Calls Tryz.prog 32 #[.agg #[.int .i64 k,.int .i64 i,.int .i64 g,.float .f64 r,.string z,.slice ko kn kc,.slice vo vn vc]] w fun e w'=>(∃ b,e=.returned (.bool b))∧w.grownBy w' none:=by
 obtain ⟨W,hW⟩:∃ W,W=w.alloc (.cells #[.int .i64 k,.int .i64 i,.int .i64 g,.float .f64 r,.string z,.slice ko kn kc,.slice vo vn vc] 26):=⟨_,rfl⟩
 have hG:=Lib.hid (show w.grownBy W none by rw [hW];exact gr_alloc (World.grownBy.refl _ _) _)
 have hb:W.heap[w.heap.size]?=some (.cells #[.int .i64 k,.int .i64 i,.int .i64 g,.float .f64 r,.string z,.slice ko kn kc,.slice vo vn vc] 26 (0,0)):=by rw [hW];exact heap_alloc_new w _
 obtain ⟨y0,y1,y2,y3,y4,y5,y6,yf⟩:=cells7 hb
 clear hb
 go_enter Tryz.func32,Tryz.ntmps32
 go_upto_region 1 with (fail)
 rw [←hW]
 clear hW
 go_cut [3] from 5 to 17 (fun t3 wx=>(∃ b:Bool,t3=.bool b)∧W=wx)
 case first =>
  rcases Bool.eq_false_or_eq_true (k == 1) with h1 | h1
  ·skip
   go_wp2_with fail
   go_meet
   case rel=>exact ⟨⟨_,rfl⟩,rfl⟩
  ·rcases Bool.eq_false_or_eq_true (k == 2) with h2 | h2
   ·skip
    go_wp2_with fail
    go_meet
    case rel=>exact ⟨⟨_,rfl⟩,rfl⟩
   ·rcases Bool.eq_false_or_eq_true (k == 9) with h9 | h9
    ·skip
     go_wp2_with fail
     go_meet
     case rel=>exact ⟨⟨_,rfl⟩,rfl⟩
    ·skip
     go_wp2_with fail
     go_meet
     case rel=>exact ⟨⟨_,rfl⟩,rfl⟩
 obtain ⟨⟨b3,rfl⟩,rfl⟩:=hcut
 go_upto_region 2 with (fail)
 go_cut [4] from 18 to 30 (fun t4 wx=>(∃ b:Bool,t4=.bool b)∧W=wx)
 case first =>
  rcases Bool.eq_false_or_eq_true (k == 4) with h1 | h1
  ·skip
   go_wp2_with fail
   go_meet
   case rel=>exact ⟨⟨_,rfl⟩,rfl⟩
  ·rcases Bool.eq_false_or_eq_true (k == 5) with h2 | h2
   ·skip
    go_wp2_with fail
    go_meet
    case rel=>exact ⟨⟨_,rfl⟩,rfl⟩
   ·rcases Bool.eq_false_or_eq_true (k == 6) with h9 | h9
    ·skip
     go_wp2_with fail
     go_meet
     case rel=>exact ⟨⟨_,rfl⟩,rfl⟩
    ·skip
     go_wp2_with fail
     go_meet
     case rel=>exact ⟨⟨_,rfl⟩,rfl⟩
 obtain ⟨⟨b4,rfl⟩,rfl⟩:=hcut
 go_upto_region 3 with (fail)
 go_cut [31] from 32 to 67 (fun t31 wx=>(∃ b:Bool,t31=.bool b)∧W=wx)
 case first =>
  rcases Bool.eq_false_or_eq_true (i != 0) with hi9 | hi9
  ·cases b3
   ·skip
    go_wp2_with fail
    go_meet
    case rel=>exact ⟨⟨_,rfl⟩,rfl⟩
   ·rcases Bool.eq_false_or_eq_true (g != 0) with hg9 | hg9
    ·rcases Bool.eq_false_or_eq_true (k != 9) with h9 | h9
     ·skip
      go_wp2_with fail
      go_meet
      case rel=>exact ⟨⟨_,rfl⟩,rfl⟩
     ·rcases Bool.eq_false_or_eq_true (FloatKind.f64.format.order r 0 != some Ordering.eq) with ho | ho
      ·rcases Bool.eq_false_or_eq_true (k != 3) with h3 | h3
       ·skip
        go_wp2_with fail
        go_meet
        case rel=>exact ⟨⟨_,rfl⟩,rfl⟩
       ·by_cases hz:z.toList=[]
        ·skip
         go_wp2_with fail
         go_meet
         case rel=>exact ⟨⟨_,rfl⟩,rfl⟩
        ·cases b4
         ·skip
          go_wp2_with fail
          go_meet
          case rel=>exact ⟨⟨_,rfl⟩,rfl⟩
         ·skip
          go_wp2_with fail
          go_meet
          case rel=>exact ⟨⟨_,rfl⟩,rfl⟩
      ·by_cases hz:z.toList=[]
       ·skip
        go_wp2_with fail
        go_meet
        case rel=>exact ⟨⟨_,rfl⟩,rfl⟩
       ·cases b4
        ·skip
         go_wp2_with fail
         go_meet
         case rel=>exact ⟨⟨_,rfl⟩,rfl⟩
        ·skip
         go_wp2_with fail
         go_meet
         case rel=>exact ⟨⟨_,rfl⟩,rfl⟩
    ·rcases Bool.eq_false_or_eq_true (FloatKind.f64.format.order r 0 != some Ordering.eq) with ho | ho
     ·rcases Bool.eq_false_or_eq_true (k != 3) with h3 | h3
      ·skip
       go_wp2_with fail
       go_meet
       case rel=>exact ⟨⟨_,rfl⟩,rfl⟩
      ·by_cases hz:z.toList=[]
       ·skip
        go_wp2_with fail
        go_meet
        case rel=>exact ⟨⟨_,rfl⟩,rfl⟩
       ·cases b4
        ·skip
         go_wp2_with fail
         go_meet
         case rel=>exact ⟨⟨_,rfl⟩,rfl⟩
        ·skip
         go_wp2_with fail
         go_meet
         case rel=>exact ⟨⟨_,rfl⟩,rfl⟩
     ·by_cases hz:z.toList=[]
      ·skip
       go_wp2_with fail
       go_meet
       case rel=>exact ⟨⟨_,rfl⟩,rfl⟩
      ·cases b4
       ·skip
        go_wp2_with fail
        go_meet
        case rel=>exact ⟨⟨_,rfl⟩,rfl⟩
       ·skip
        go_wp2_with fail
        go_meet
        case rel=>exact ⟨⟨_,rfl⟩,rfl⟩
  ·rcases Bool.eq_false_or_eq_true (g != 0) with hg9 | hg9
   ·rcases Bool.eq_false_or_eq_true (k != 9) with h9 | h9
    ·skip
     go_wp2_with fail
     go_meet
     case rel=>exact ⟨⟨_,rfl⟩,rfl⟩
    ·rcases Bool.eq_false_or_eq_true (FloatKind.f64.format.order r 0 != some Ordering.eq) with ho | ho
     ·rcases Bool.eq_false_or_eq_true (k != 3) with h3 | h3
      ·skip
       go_wp2_with fail
       go_meet
       case rel=>exact ⟨⟨_,rfl⟩,rfl⟩
      ·by_cases hz:z.toList=[]
       ·skip
        go_wp2_with fail
        go_meet
        case rel=>exact ⟨⟨_,rfl⟩,rfl⟩
       ·cases b4
        ·skip
         go_wp2_with fail
         go_meet
         case rel=>exact ⟨⟨_,rfl⟩,rfl⟩
        ·skip
         go_wp2_with fail
         go_meet
         case rel=>exact ⟨⟨_,rfl⟩,rfl⟩
     ·by_cases hz:z.toList=[]
      ·skip
       go_wp2_with fail
       go_meet
       case rel=>exact ⟨⟨_,rfl⟩,rfl⟩
      ·cases b4
       ·skip
        go_wp2_with fail
        go_meet
        case rel=>exact ⟨⟨_,rfl⟩,rfl⟩
       ·skip
        go_wp2_with fail
        go_meet
        case rel=>exact ⟨⟨_,rfl⟩,rfl⟩
   ·rcases Bool.eq_false_or_eq_true (FloatKind.f64.format.order r 0 != some Ordering.eq) with ho | ho
    ·rcases Bool.eq_false_or_eq_true (k != 3) with h3 | h3
     ·skip
      go_wp2_with fail
      go_meet
      case rel=>exact ⟨⟨_,rfl⟩,rfl⟩
     ·by_cases hz:z.toList=[]
      ·skip
       go_wp2_with fail
       go_meet
       case rel=>exact ⟨⟨_,rfl⟩,rfl⟩
      ·cases b4
       ·skip
        go_wp2_with fail
        go_meet
        case rel=>exact ⟨⟨_,rfl⟩,rfl⟩
       ·skip
        go_wp2_with fail
        go_meet
        case rel=>exact ⟨⟨_,rfl⟩,rfl⟩
    ·by_cases hz:z.toList=[]
     ·skip
      go_wp2_with fail
      go_meet
      case rel=>exact ⟨⟨_,rfl⟩,rfl⟩
     ·cases b4
      ·skip
       go_wp2_with fail
       go_meet
       case rel=>exact ⟨⟨_,rfl⟩,rfl⟩
      ·skip
       go_wp2_with fail
       go_meet
       case rel=>exact ⟨⟨_,rfl⟩,rfl⟩
 obtain ⟨⟨b31,rfl⟩,rfl⟩:=hcut
 cases b31
 ·rcases Bool.eq_false_or_eq_true (k == 8) with h8 | h8
  all_goals rcases Bool.eq_false_or_eq_true (k == 7) with h7 | h7
  all_goals rcases Bool.eq_false_or_eq_true ((kn:Int) == 0) with hn | hn
  all_goals rcases Bool.eq_false_or_eq_true ((vn:Int) == 0) with hv | hv
  all_goals
   go_wp2_with fail
   go_ret
   exact ⟨⟨_,rfl⟩,hG.out⟩
 ·go_wp2_with fail
  go_ret
  exact ⟨⟨_,rfl⟩,hG.out⟩
end Go.Proofs.YtfkecmlmnhbmoaaGreatDoor
