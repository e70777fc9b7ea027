/- Parts D7. -/
import Derived.Test.YtfkecmlmnhbmoaaGreatDoorW33
set_option linter.unusedVariables false
set_option linter.unusedSimpArgs false
set_option maxRecDepth 100000
set_option maxHeartbeats 40000000
namespace Go.Proofs.YtfkecmlmnhbmoaaGreatDoor
open Go Go.RowKit Go.Maps
def okSh (k:Int)(kn vn:Nat):Prop:=(kn=0∨k=8)∧(vn=0∨k=8∨k=7)
theorem only_sh (k i g:Int)(r:Nat)(z:ByteArray)(ko vo:Option Addr)(kn kc vn vc:Nat)(w:World) :
  Calls Tryz.prog 32 #[.agg #[.int .i64 k,.int .i64 i,.int .i64 g,.float .f64 r,.string z,.slice ko kn kc,.slice vo vn vc]] w fun e w'=>(∃b,e=.returned (.bool b)∧(b=true→okSh k kn vn))∧w.grownBy w' none:=by
 obtain⟨W,hW⟩:∃W,W=w.alloc (.cells #[.int .i64 k,.int .i64 i,.int .i64 g,.float .f64 r,.string z,.slice ko kn kc,.slice vo vn vc] 26):=⟨_,rfl⟩;have hG:=xhd (show w.grownBy W none by rw[hW];exact gr_alloc (xgr _ _) _);have hb:W.heap[w.heap.size]?=some (.cells #[.int .i64 k,.int .i64 i,.int .i64 g,.float .f64 r,.string z,.slice ko kn kc,.slice vo vn vc] 26 (0,0)):=by rw[hW];exact heap_alloc_new w _
 obtain⟨y0,y1,y2,y3,y4,y5,y6,yf⟩:=cells7 hb;clear hb;go_enter Tryz.func32,Tryz.ntmps32
 go_upto_region 1 with (fail)
 rw[←hW];clear hW
 go_cut [3] from 5 to 17 (fun t3 wx=>(∃b:Bool,t3=.bool b)∧W=wx)
 case first =>
  rcases xbt (k==1) with h1|h1
  ·skip
   go_wp2_with fail
   go_meet
   case rel=>exact⟨⟨_,rfl⟩,rfl⟩
  ·rcases xbt (k==2) with h2|h2
   ·skip
    go_wp2_with fail
    go_meet
    case rel=>exact⟨⟨_,rfl⟩,rfl⟩
   ·rcases xbt (k==9) with h9|h9
    ·skip
     go_wp2_with fail
     go_meet
     case rel=>exact⟨⟨_,rfl⟩,rfl⟩
    ·skip
     go_wp2_with fail
     go_meet
     case rel=>exact⟨⟨_,rfl⟩,rfl⟩
 obtain⟨⟨b3,rfl⟩,rfl⟩:=hcut
 go_upto_region 2 with (fail)
 go_cut [4] from 18 to 30 (fun t4 wx=>(∃b:Bool,t4=.bool b)∧W=wx)
 case first =>
  rcases xbt (k==4) with h1|h1
  ·skip
   go_wp2_with fail
   go_meet
   case rel=>exact⟨⟨_,rfl⟩,rfl⟩
  ·rcases xbt (k==5) with h2|h2
   ·skip
    go_wp2_with fail
    go_meet
    case rel=>exact⟨⟨_,rfl⟩,rfl⟩
   ·rcases xbt (k==6) with h9|h9
    ·skip
     go_wp2_with fail
     go_meet
     case rel=>exact⟨⟨_,rfl⟩,rfl⟩
    ·skip
     go_wp2_with fail
     go_meet
     case rel=>exact⟨⟨_,rfl⟩,rfl⟩
 obtain⟨⟨b4,rfl⟩,rfl⟩:=hcut
 go_upto_region 3 with (fail)
 go_cut [31] from 32 to 67 (fun t31 wx=>(∃b:Bool,t31=.bool b)∧W=wx)
 case first =>
  rcases xbt (i != 0) with hi9|hi9
  ·cases b3
   ·skip
    go_wp2_with fail
    go_meet
    case rel=>exact⟨⟨_,rfl⟩,rfl⟩
   ·rcases xbt (g != 0) with hg9|hg9
    ·rcases xbt (k != 9) with h9|h9
     ·skip
      go_wp2_with fail
      go_meet
      case rel=>exact⟨⟨_,rfl⟩,rfl⟩
     ·rcases xbt (FloatKind.f64.format.order r 0 != some Ordering.eq) with ho|ho
      ·rcases xbt (k != 3) with h3|h3
       ·skip
        go_wp2_with fail
        go_meet
        case rel=>exact⟨⟨_,rfl⟩,rfl⟩
       ·by_cases hz:z.toList=[]
        ·skip
         go_wp2_with fail
         go_meet
         case rel=>exact⟨⟨_,rfl⟩,rfl⟩
        ·cases b4
         ·skip
          go_wp2_with fail
          go_meet
          case rel=>exact⟨⟨_,rfl⟩,rfl⟩
         ·skip
          go_wp2_with fail
          go_meet
          case rel=>exact⟨⟨_,rfl⟩,rfl⟩
      ·by_cases hz:z.toList=[]
       ·skip
        go_wp2_with fail
        go_meet
        case rel=>exact⟨⟨_,rfl⟩,rfl⟩
       ·cases b4
        ·skip
         go_wp2_with fail
         go_meet
         case rel=>exact⟨⟨_,rfl⟩,rfl⟩
        ·skip
         go_wp2_with fail
         go_meet
         case rel=>exact⟨⟨_,rfl⟩,rfl⟩
    ·rcases xbt (FloatKind.f64.format.order r 0 != some Ordering.eq) with ho|ho
     ·rcases xbt (k != 3) with h3|h3
      ·skip
       go_wp2_with fail
       go_meet
       case rel=>exact⟨⟨_,rfl⟩,rfl⟩
      ·by_cases hz:z.toList=[]
       ·skip
        go_wp2_with fail
        go_meet
        case rel=>exact⟨⟨_,rfl⟩,rfl⟩
       ·cases b4
        ·skip
         go_wp2_with fail
         go_meet
         case rel=>exact⟨⟨_,rfl⟩,rfl⟩
        ·skip
         go_wp2_with fail
         go_meet
         case rel=>exact⟨⟨_,rfl⟩,rfl⟩
     ·by_cases hz:z.toList=[]
      ·skip
       go_wp2_with fail
       go_meet
       case rel=>exact⟨⟨_,rfl⟩,rfl⟩
      ·cases b4
       ·skip
        go_wp2_with fail
        go_meet
        case rel=>exact⟨⟨_,rfl⟩,rfl⟩
       ·skip
        go_wp2_with fail
        go_meet
        case rel=>exact⟨⟨_,rfl⟩,rfl⟩
  ·rcases xbt (g != 0) with hg9|hg9
   ·rcases xbt (k != 9) with h9|h9
    ·skip
     go_wp2_with fail
     go_meet
     case rel=>exact⟨⟨_,rfl⟩,rfl⟩
    ·rcases xbt (FloatKind.f64.format.order r 0 != some Ordering.eq) with ho|ho
     ·rcases xbt (k != 3) with h3|h3
      ·skip
       go_wp2_with fail
       go_meet
       case rel=>exact⟨⟨_,rfl⟩,rfl⟩
      ·by_cases hz:z.toList=[]
       ·skip
        go_wp2_with fail
        go_meet
        case rel=>exact⟨⟨_,rfl⟩,rfl⟩
       ·cases b4
        ·skip
         go_wp2_with fail
         go_meet
         case rel=>exact⟨⟨_,rfl⟩,rfl⟩
        ·skip
         go_wp2_with fail
         go_meet
         case rel=>exact⟨⟨_,rfl⟩,rfl⟩
     ·by_cases hz:z.toList=[]
      ·skip
       go_wp2_with fail
       go_meet
       case rel=>exact⟨⟨_,rfl⟩,rfl⟩
      ·cases b4
       ·skip
        go_wp2_with fail
        go_meet
        case rel=>exact⟨⟨_,rfl⟩,rfl⟩
       ·skip
        go_wp2_with fail
        go_meet
        case rel=>exact⟨⟨_,rfl⟩,rfl⟩
   ·rcases xbt (FloatKind.f64.format.order r 0 != some Ordering.eq) with ho|ho
    ·rcases xbt (k != 3) with h3|h3
     ·skip
      go_wp2_with fail
      go_meet
      case rel=>exact⟨⟨_,rfl⟩,rfl⟩
     ·by_cases hz:z.toList=[]
      ·skip
       go_wp2_with fail
       go_meet
       case rel=>exact⟨⟨_,rfl⟩,rfl⟩
      ·cases b4
       ·skip
        go_wp2_with fail
        go_meet
        case rel=>exact⟨⟨_,rfl⟩,rfl⟩
       ·skip
        go_wp2_with fail
        go_meet
        case rel=>exact⟨⟨_,rfl⟩,rfl⟩
    ·by_cases hz:z.toList=[]
     ·skip
      go_wp2_with fail
      go_meet
      case rel=>exact⟨⟨_,rfl⟩,rfl⟩
     ·cases b4
      ·skip
       go_wp2_with fail
       go_meet
       case rel=>exact⟨⟨_,rfl⟩,rfl⟩
      ·skip
       go_wp2_with fail
       go_meet
       case rel=>exact⟨⟨_,rfl⟩,rfl⟩
 obtain⟨⟨b31,rfl⟩,rfl⟩:=hcut
 cases b31
 ·rcases xbt (k==8) with h8|h8
  all_goals rcases xbt (k==7) with h7|h7
  all_goals rcases xbt ((kn:Int)==0) with hn|hn
  all_goals rcases xbt ((vn:Int)==0) with hv|hv
  all_goals
   go_wp2_with fail
   go_ret;refine⟨⟨_,rfl,fun h=>?_⟩,hG.out⟩
   first
    | exact Bool.noConfusion h
    | (simp at h8 h7 hn hv;first|(exfalso;omega)|exact⟨by first|exact .inl hn|exact .inr h8,by first|exact .inl hv|exact .inr (.inl h8)|exact .inr (.inr h7)⟩)
 ·go_wp2_with fail
  go_ret;exact⟨⟨_,rfl,fun h=>Bool.noConfusion h⟩,hG.out⟩
theorem only_all (k i g:Int)(r:Nat)(z:ByteArray)(ko vo:Option Addr)(kn kc vn vc:Nat)(w:World) :
  Calls Tryz.prog 32 #[.agg #[.int .i64 k,.int .i64 i,.int .i64 g,.float .f64 r,.string z,.slice ko kn kc,.slice vo vn vc]] w fun e w'=>(∃b,e=.returned (.bool b))∧w.grownBy w' none :=
 (only_sh k i g r z ko vo kn kc vn vc w).mono fun e w' h=>by obtain⟨⟨b,h1,_⟩,h2⟩:=h;exact⟨⟨b,h1⟩,h2⟩
end Go.Proofs.YtfkecmlmnhbmoaaGreatDoor
