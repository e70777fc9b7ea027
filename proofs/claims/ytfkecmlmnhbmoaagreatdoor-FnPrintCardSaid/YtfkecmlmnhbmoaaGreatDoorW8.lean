/- Parts A8 A9 E0 B1. -/
import Derived.Test.YtfkecmlmnhbmoaaGreatDoorW6
import Derived.Test.YtfkecmlmnhbmoaaGreatDoorW7
set_option linter.unusedVariables false
set_option linter.unusedSimpArgs false
set_option maxRecDepth 100000
set_option maxHeartbeats 40000000
namespace Go.Proofs.YtfkecmlmnhbmoaaGreatDoor
open Go Go.RowKit
theorem hex_eq {n x:Int}(h:hexVal n=x)(h0:0≤n)(h1:n≤255)(w:World):Calls Tryz.prog 59 #[.int .u8 n] w fun e w'=>e=.returned (.int .i64 x)∧w'=w:=h▸hex_any n h0 h1 w
def HexPost (w w':World)(b:Nat)(s:ByteArray)(bad deep:Int)(ends:Bool)(e:Ending)(r:Int×By×By×Bool):Prop :=
 e=.returned (.string ⟨r.2.1.toArray⟩)∧(∃p',RdAt w' b s p' r.2.2.1 (if r.1=0 then bad else failB bad r.1) deep r.2.2.2 ends)∧w.grownBy w' (some b)
theorem hexs_any (w:World)(b:Nat)(s:ByteArray)(p l2:By)(c0':UInt8)(bad deep:Int)(odd ends:Bool)(hR:RdAt w b s p (c0'::l2) bad deep odd ends)(hs:s.size≤140737488351240) :
  Calls Tryz.prog 49 #[.pointer (some ⟨b,0,none⟩)] w fun e w'=>HexPost w w' b s bad deep ends e (hexF l2 false 0 [] odd):=by
 have HR:=xhd hR;have hbB:=hR.lt;have hsz:=hR.size;have hp0:p.length<s.size:=by simp at hsz;omega
 obtain⟨c0,c1,c2,c3,c4,c5,cf⟩:=hR.cells;clear hR hsz;go_enter Tryz.func49,Tryz.ntmps49;go_wp2_with fail
 clear c0 c1 c2 c3 c4 c5 cf
 go_loopg [3,4,5] l2.length (fun g t3 t4 t5 wr=>∃p' l' half od out o',g=l'.length∧t4=.int .i64 half∧t5=.bool od∧RdAt wr b s p' l' bad deep o' ends∧hexF l' od half out o'=hexF l2 false 0 [] odd∧w.grownBy wr (some b)∧OwnB w.heap.size wr t3 out∧out.length≤p'.length∧0≤half∧half≤15)
 case atStart=>exact⟨p++[c0'],l2,0,false,[],odd,rfl,rfl,rfl,HR.out.set1,rfl,gr_set (xgr _ _) _ _,OwnB.nil _ _,by simp,by omega,by omega⟩
 case round =>
  obtain⟨p',l',half,od,out,o',hg,rfl,rfl,hR,hF,hG,hO,ho1,ho2,ho3⟩:=hrel;clear HR;obtain⟨HR,HF,HG,HO,Hg⟩:=xh5 hR hF hG hO hg;have hsz:=hR.size;have hp1:p'.length≤s.size:=by omega
  have hB2:=hG.size;clear hR hF hG hO hg hsz;obtain⟨c0,c1,c2,c3,c4,c5,cf⟩:=HR.out.cells
  cases l' with
  | nil =>
   obtain⟨hlt,hd⟩:=HR.out.none;go_wp2_with fail
   go_quiet ((go_at_call 42;with_reducible first|exact qaw _|exact qbw _));go_wp2_with fail
   refine(fail_any _ b s p' [] bad deep o' ends (by exact HR.out) 1).mono ?_;rintro e w1⟨rfl,hR1,hg1⟩;go_wp2_with fail
   go_ret;rw[←HF.out];exact⟨rfl,⟨p',hR1⟩,gr_same (by repeat (first|exact HG.out|apply gr_set|apply gr_drewN|apply gr_drew|apply gr_alloc)) hg1⟩
  | cons c l3 =>
   obtain⟨hlt,hc,hd,hr0,hr1⟩:=HR.out.head';rcases xbt ((c.toNat:Int)==62) with h1|h1
   ·cases od
    ·go_wp2_with fail
     go_quiet ((go_at_call 42;with_reducible first|exact qaw _|exact qbw _));go_wp2_with fail
     go_quiet ((go_at_call 42;with_reducible first|exact qaw _|exact qbw _))
     go_wp2_with ((with_reducible refine wpList_ownstr (o:=⟨some 53,_,_,_,_,_⟩) rfl (.tmp 52) rfl w.heap.size out ?_ ?_);(· exact(by repeat (first|exact HO.out|apply OwnB.alloc|apply OwnB.drewN|apply OwnB.drew|(refine OwnB.set ?_ hbB _)))))
     go_ret;rw[←HF.out];have hE:hexF (c::l3) false half out o'=(0,out,l3,o'):=by simp[hexF,h1]
     rw[hE];exact⟨rfl,⟨p'++[c],HR.out.set1⟩,(by repeat (first|exact HG.out|apply gr_set|apply gr_drewN|apply gr_drew|apply gr_alloc))⟩
    ·go_wp2_with fail
     go_quiet ((go_at_call 42;with_reducible first|exact qaw _|exact qbw _));go_wp2_with fail
     go_quiet ((go_at_call 42;with_reducible first|exact qaw _|exact qbw _))
     go_wp2_with (first|(at_builtin;go_must (refine wpList_push rfl (.tmp 46) (.tmp 50) rfl w.heap.size _ out (ub (half*16)) _ rfl (by repeat (first|exact HO.out|apply OwnB.alloc|apply OwnB.drewN|apply OwnB.drew|(refine OwnB.set ?_ hbB _))) _ rfl (by rw[World.cell?_alloc_at _ _ _ _ (by simp)];rfl) (by first|exact ub_of (by omega) (by omega)|exact ub_mod (by omega) (by omega)) (by omega) (by first|omega|(simp;omega)) ?_);intro v1 w1 hown1 hgr1)|((with_reducible refine wpList_ownstr (o:=⟨some 53,_,_,_,_,_⟩) rfl (.tmp 52) rfl w.heap.size (out++[ub (half*16)]) ?_ ?_);(· exact hown1)))
     have hRn:RdAt w1 b s (p'++[c]) l3 bad deep o' ends:=RdAt.grown (by exact RdAt.alloc HR.out.set1 _) hgr1 (own_ne HO.out hbB);have hGn:w.grownBy w1 (some b):=gr_then (by repeat (first|exact HG.out|apply gr_set|apply gr_drewN|apply gr_drew|apply gr_alloc)) hgr1 (fun j hj=>(HO.out.lt j hj).1);go_ret;rw[←HF.out];have hE:hexF (c::l3) true half out o'=(0,out++[ub (half*16)],l3,o'):=by simp[hexF,h1]
     rw[hE];exact⟨rfl,⟨p'++[c],hRn⟩,hGn⟩
   ·cases h2:isWhite (c.toNat:Int)
    ·obtain⟨x,hx⟩:∃x,hexVal (c.toNat:Int)=x:=⟨_,rfl⟩
     have hxr:=hexVal_range (c.toNat:Int);rw[hx]at hxr;rcases hxr with hxr|⟨hx0,hx1⟩
     ·subst hxr
      go_wp2_with fail
      go_quiet ((go_at_call 42;with_reducible first|exact qaw _|exact qbw _));go_wp2_with fail
      go_quiet ((go_at_call 42;with_reducible first|exact qaw _|exact qbw _))
      go_wp2_with (first|(go_at_call 42;refine(white_eq h2 _).mono ?_;rintro e w'⟨rfl,rfl⟩)|(go_at_call 59;refine(hex_eq hx hr0 hr1 _).mono ?_;rintro e w'⟨rfl,rfl⟩))
      refine(fail_any _ b s (p'++[c]) l3 bad deep o' ends (by exact HR.out.set1) 2).mono ?_;rintro e w1⟨rfl,hR1,hg1⟩;go_wp2_with fail
      go_ret;rw[←HF.out];have hE:hexF (c::l3) od half out o'=(2,[],l3,o'):=by simp[hexF,h1,h2,hx]
      rw[hE];exact⟨rfl,⟨_,hR1⟩,gr_same (by repeat (first|exact HG.out|apply gr_set|apply gr_drewN|apply gr_drew|apply gr_alloc)) hg1⟩
     ·have hxn:¬x<0:=by omega
      cases od
      ·go_wp2_with fail
       go_quiet ((go_at_call 42;with_reducible first|exact qaw _|exact qbw _));go_wp2_with fail
       go_quiet ((go_at_call 42;with_reducible first|exact qaw _|exact qbw _))
       go_wp2_with (first|(go_at_call 42;refine(white_eq h2 _).mono ?_;rintro e w'⟨rfl,rfl⟩)|(go_at_call 59;refine(hex_eq hx hr0 hr1 _).mono ?_;rintro e w'⟨rfl,rfl⟩))
       go_roundg l3.length
       case measure=>rw[Hg.out];simp
       case rel =>
        refine⟨p'++[c],l3,x,true,out,o',rfl,rfl,rfl,HR.out.set1,?_,(by repeat (first|exact HG.out|apply gr_set|apply gr_drewN|apply gr_drew|apply gr_alloc)),(by repeat (first|exact HO.out|apply OwnB.alloc|apply OwnB.drewN|apply OwnB.drew|(refine OwnB.set ?_ hbB _))),by simp;omega,hx0,hx1⟩;rw[←HF.out];simp[hexF,h1,h2,hx];intro h;omega
      ·go_wp2_with fail
       go_quiet ((go_at_call 42;with_reducible first|exact qaw _|exact qbw _));go_wp2_with fail
       go_quiet ((go_at_call 42;with_reducible first|exact qaw _|exact qbw _))
       go_wp2_with (first|(go_at_call 42;refine(white_eq h2 _).mono ?_;rintro e w'⟨rfl,rfl⟩)|(go_at_call 59;refine(hex_eq hx hr0 hr1 _).mono ?_;rintro e w'⟨rfl,rfl⟩)|(at_builtin;go_must (refine wpList_push rfl (.tmp 79) (.tmp 86) rfl w.heap.size _ out (ub (half*16+x)) _ rfl (by repeat (first|exact HO.out|apply OwnB.alloc|apply OwnB.drewN|apply OwnB.drew|(refine OwnB.set ?_ hbB _))) _ rfl (by rw[World.cell?_alloc_at _ _ _ _ (by simp)];rfl) (by first|exact ub_of (by omega) (by omega)|exact ub_mod (by omega) (by omega)) (by omega) (by first|omega|(simp;omega)) ?_);intro v1 w1 hown1 hgr1))
       go_wp2_with fail
       go_roundg l3.length
       case measure=>rw[Hg.out];simp
       case rel =>
        refine⟨_,l3,half,false,out++[ub (half*16+x)],o',rfl,rfl,rfl,RdAt.grown (by exact RdAt.alloc HR.out.set1 _) hgr1 (own_ne HO.out hbB),?_,gr_then (by repeat (first|exact HG.out|apply gr_set|apply gr_drewN|apply gr_drew|apply gr_alloc)) hgr1 (fun j hj=>(HO.out.lt j hj).1),hown1,by simp;omega,ho2,ho3⟩;rw[←HF.out];simp[hexF,h1,h2,hx];intro h;omega
    ·cases hz:((c.toNat:Int)==0)
     all_goals cases o'
     all_goals cases od
     all_goals
      go_wp2_with fail
      go_quiet ((go_at_call 42;with_reducible first|exact qaw _|exact qbw _));go_wp2_with fail
      go_quiet ((go_at_call 42;with_reducible first|exact qaw _|exact qbw _))
      go_wp2_with (go_at_call 42;refine(white_eq h2 _).mono ?_;rintro e w'⟨rfl,rfl⟩)
      go_roundg l3.length
      case measure=>rw[Hg.out];simp
      case rel =>
       refine⟨p'++[c],l3,half,_,out,_,rfl,rfl,rfl,HR.out.set1.set4 _,?_,(by repeat (first|exact HG.out|apply gr_set|apply gr_drewN|apply gr_drew|apply gr_alloc)),(by repeat (first|exact HO.out|apply OwnB.alloc|apply OwnB.drewN|apply OwnB.drew|(refine OwnB.set ?_ hbB _))),by simp;omega,ho2,ho3⟩;rw[←HF.out];simp[hexF,h1,h2,hz]
theorem at_byte {s:ByteArray}{pre l:By}{c:UInt8}(h:s.data.toList=pre++c::l):∃hk:pre.length<s.size,s[pre.length]'hk=c∧decide ((pre.length:Int)<(s.size:Int))=true∧0≤(c.toNat:Int)∧(c.toNat:Int)≤255:=by
 have h1:s.size=pre.length+(l.length+1):=by have:=congrArg List.length h;simpa using this
 have hk:pre.length<s.size:=by omega
 refine⟨hk,?_,by simpa using hk,bi_range c⟩
 have h3:s.data[pre.length]?=some c:=by
  have:s.data.toList[pre.length]?=some c:=by rw[h];simp
  simpa using this
 obtain⟨hh,h4⟩:=Array.getElem?_eq_some_iff.1 h3;exact h4
theorem at_byte1 {s:ByteArray}{pre l:By}{c d:UInt8}(h:s.data.toList=pre++c::d::l):∃hk:pre.length+1<s.size,s[pre.length+1]'hk=d∧0≤(d.toNat:Int)∧(d.toNat:Int)≤255:=by
 have h':s.data.toList=(pre++[c])++d::l:=by rw[h];simp
 obtain⟨hk,e,_,b⟩:=at_byte h';have hl:(pre++[c]).length=pre.length+1:=by simp
 have hk2:pre.length+1<s.size:=by omega
 refine⟨hk2,?_,b⟩;rw[←e];simp
theorem at_byte2 {s:ByteArray}{pre l:By}{c d f:UInt8}(h:s.data.toList=pre++c::d::f::l):∃hk:pre.length+2<s.size,s[pre.length+2]'hk=f∧0≤(f.toNat:Int)∧(f.toNat:Int)≤255:=by
 have h':s.data.toList=(pre++[c,d])++f::l:=by rw[h];simp
 obtain⟨hk,e,_,b⟩:=at_byte h';have hl:(pre++[c,d]).length=pre.length+2:=by simp
 have hk2:pre.length+2<s.size:=by omega
 refine⟨hk2,?_,b⟩;rw[←e];simp
def NamePost (w w':World)(e:Ending):Option By→Prop
 | some out=>e=.returned (.tuple #[.string ⟨out.toArray⟩,.bool true])∧w.grownBy w' none
 | none=>e=.returned (.tuple #[.string ⟨#[]⟩,.bool false])∧w.grownBy w' none
theorem nameB_any (w:World)(s:ByteArray)(l:By)(hl:s.data.toList=l)(hs:s.size≤140737488351240) :
  Calls Tryz.prog 62 #[.string s] w fun e w'=>NamePost w w' e (nameB l []):=by
 have Hl:=xhd hl;clear hl;go_enter Tryz.func62,Tryz.ntmps62;go_wp2_with fail
 go_loopg [4,5] l.length (fun g t4 t5 wr=>∃pre l' out,g=l'.length∧t5=.int .i64 (pre.length:Nat)∧s.data.toList=pre++l'∧nameB l' out=nameB l []∧w.grownBy wr none∧OwnB w.heap.size wr t4 out∧out.length≤pre.length)
 case atStart=>exact⟨[],l,[],rfl,rfl,by simpa using Hl.out,rfl,xgr _ _,OwnB.nil _ _,by simp⟩
 case round =>
  obtain⟨pre,l',out,hg,rfl,hS,hF,hG,hO,ho1⟩:=hrel;have hsz:s.size=pre.length+l'.length:=by have:=congrArg List.length hS;simpa using this
  have hB2:=hG.size;obtain⟨HS,HF,HG,HO,Hg,Hz⟩:=xh6 hS hF hG hO hg hsz;have hp1:pre.length≤s.size:=by omega
  clear hS hF hG hO hg hsz
  cases l' with
  | nil =>
   have hlt:¬pre.length<s.size:=by have:=Hz.out;simp at this;omega
   go_wp2_with ((with_reducible refine wpList_ownstr (o:=⟨some 66,_,_,_,_,_⟩) rfl (.tmp 65) rfl w.heap.size out ?_ ?_);(· exact(by repeat (first|exact HO.out|apply OwnB.alloc|apply OwnB.drewN|apply OwnB.drew|(refine OwnB.set ?_ hbB _)))))
   go_ret2;rw[←HF.out];exact⟨rfl,(by repeat (first|exact HG.out|apply gr_set|apply gr_drewN|apply gr_drew|apply gr_alloc))⟩
  | cons c l2 =>
   obtain⟨hlt,hc,hd,hr0,hr1⟩:=at_byte HS.out;rcases xbt ((c.toNat:Int) != 35) with h1|h1
   ·go_wp2_with ((at_builtin;go_must (refine wpList_push rfl (.tmp 17) (.tmp 21) rfl w.heap.size _ out c _ rfl (by repeat (first|exact HO.out|apply OwnB.alloc|apply OwnB.drewN|apply OwnB.drew|(refine OwnB.set ?_ hbB _))) _ rfl (by rw[World.cell?_alloc_at _ _ _ _ (by simp)];rfl) rfl (by omega) (by first|omega|(simp;omega)) ?_);intro v1 w1 hown1 hgr1))
    go_wp2_with fail
    go_roundg l2.length
    case measure=>rw[Hg.out];simp
    case rel =>
     refine⟨pre++[c],l2,out++[c],rfl,by simp,by rw[HS.out];simp,?_,gr_noneThen (by repeat (first|exact HG.out|apply gr_set|apply gr_drewN|apply gr_drew|apply gr_alloc)) hgr1 (fun j hj=>(HO.out.lt j hj).1),hown1,by simp;omega⟩;rw[←HF.out];rw[nameB_plain h1]
   ·cases l2 with
    | nil =>
     have hq:decide ((s.size:Int)≤(pre.length:Int)+2)=true:=by have:=Hz.out;simp at this;simp;omega
     go_wp2_with fail
     go_ret2;rw[←HF.out,nameB_1 h1];exact⟨rfl,(by repeat (first|exact HG.out|apply gr_set|apply gr_drewN|apply gr_drew|apply gr_alloc))⟩
    | cons a l3 =>
     cases l3 with
     | nil =>
      have hq:decide ((s.size:Int)≤(pre.length:Int)+2)=true:=by have:=Hz.out;simp at this;simp;omega
      go_wp2_with fail
      go_ret2;rw[←HF.out,nameB_2 h1];exact⟨rfl,(by repeat (first|exact HG.out|apply gr_set|apply gr_drewN|apply gr_drew|apply gr_alloc))⟩
     | cons d l4 =>
      have hq:decide ((s.size:Int)≤(pre.length:Int)+2)=false:=by have:=Hz.out;simp at this;simp;omega
      have hq2:pre.length+2<s.size:=by have:=Hz.out;simp at this;omega
      obtain⟨hlt1,hc1,hr2,hr3⟩:=at_byte1 HS.out;obtain⟨hlt2,hc2,hr4,hr5⟩:=at_byte2 HS.out;obtain⟨x,hx⟩:∃x,hexVal (a.toNat:Int)=x:=⟨_,rfl⟩;obtain⟨y,hy⟩:∃y,hexVal (d.toNat:Int)=y:=⟨_,rfl⟩;have hxr:=hexVal_range (a.toNat:Int);have hyr:=hexVal_range (d.toNat:Int);rw[hx]at hxr;rw[hy]at hyr;rcases hxr with hxr|⟨hx0,hx1⟩
      ·subst hxr
       go_wp2_with (go_at_call 59;refine(hex_eq hx hr2 hr3 _).mono ?_;rintro e w'⟨rfl,rfl⟩)
       go_ret2;rw[←HF.out,nameB_3 h1,if_pos (.inl (by rw[hx];decide))];exact⟨rfl,(by repeat (first|exact HG.out|apply gr_set|apply gr_drewN|apply gr_drew|apply gr_alloc))⟩
      ·rcases hyr with hyr|⟨hy0,hy1⟩
       ·subst hyr
        go_wp2_with fail
        refine(hex_eq hx hr2 hr3 _).mono ?_;rintro e w'⟨rfl,rfl⟩;go_wp2_with fail
        refine(hex_eq hy hr4 hr5 _).mono ?_;rintro e w'⟨rfl,rfl⟩;go_wp2_with fail
        go_ret2;rw[←HF.out,nameB_3 h1,if_pos (.inr (by rw[hy];decide))];exact⟨rfl,(by repeat (first|exact HG.out|apply gr_set|apply gr_drewN|apply gr_drew|apply gr_alloc))⟩
       ·have hb1:0≤16*x+y:=by omega
        have hb2:16*x+y≤255:=by omega
        have w1:IntKind.i64.wrap ((pre.length:Int)+1)=(pre.length:Int)+1:=IntWalk.i64_in _ (by omega);have w2:IntKind.i64.wrap ((pre.length:Int)+2)=(pre.length:Int)+2:=IntWalk.i64_in _ (by omega);have w3:IntKind.i64.wrap (16*x)=16*x:=IntWalk.i64_in _ (by omega);have w4:IntKind.i64.wrap (16*x+y)=16*x+y:=IntWalk.i64_in _ (by omega);have w5:(0:Int)≤(pre.length:Int)+1:=by omega
        have w6:(0:Int)≤(pre.length:Int)+2:=by omega
        have w7:((pre.length:Int)+1).toNat=pre.length+1:=by omega
        have w8:((pre.length:Int)+2).toNat=pre.length+2:=by omega
        rcases xbt (16*x+y==0) with hz|hz
        ·go_wp2_with fail
         refine(hex_eq hx hr2 hr3 _).mono ?_;rintro e w'⟨rfl,rfl⟩;go_wp2_with fail
         refine(hex_eq hy hr4 hr5 _).mono ?_;rintro e w'⟨rfl,rfl⟩;go_wp2_with fail
         go_quiet ((go_at_call 59;with_reducible first|exact Calls.quiet_of_same (hex_eq (by assumption) (by assumption) (by assumption) _)|exact quiet_plus (hex_eq (by assumption) (by assumption) (by assumption) _)|exact Calls.quiet_of (hex_eq (by assumption) (by assumption) (by assumption) _)|exact quiet_plusN (hex_eq (by assumption) (by assumption) (by assumption) _)))
         go_wp2_with fail
         go_ret2;rw[←HF.out,nameB_3 h1,if_neg (by rw[hx,hy];omega),if_pos (by rw[hx,hy];exact hz)];exact⟨rfl,(by repeat (first|exact HG.out|apply gr_set|apply gr_drewN|apply gr_drew|apply gr_alloc))⟩
        ·go_wp2_with fail
         refine(hex_eq hx hr2 hr3 _).mono ?_;rintro e w'⟨rfl,rfl⟩;go_wp2_with fail
         refine(hex_eq hy hr4 hr5 _).mono ?_;rintro e w'⟨rfl,rfl⟩;go_wp2_with fail
         go_quiet ((go_at_call 59;with_reducible first|exact Calls.quiet_of_same (hex_eq (by assumption) (by assumption) (by assumption) _)|exact quiet_plus (hex_eq (by assumption) (by assumption) (by assumption) _)|exact Calls.quiet_of (hex_eq (by assumption) (by assumption) (by assumption) _)|exact quiet_plusN (hex_eq (by assumption) (by assumption) (by assumption) _)))
         go_wp2_with ((at_builtin;go_must (refine wpList_push rfl (.tmp 58) (.tmp 61) rfl w.heap.size _ out (ub (16*x+y)) _ rfl (by repeat (first|exact HO.out|apply OwnB.alloc|apply OwnB.drewN|apply OwnB.drew|(refine OwnB.set ?_ hbB _))) _ rfl (by rw[World.cell?_alloc_at _ _ _ _ (by simp)];rfl) (by first|exact ub_of (by omega) (by omega)|exact ub_mod (by omega) (by omega)) (by omega) (by first|omega|(simp;omega)) ?_);intro v1 w1 hown1 hgr1))
         go_wp2_with fail
         go_roundg l4.length
         case measure=>rw[Hg.out];simp;omega
         case rel =>
          refine⟨pre++[c,a,d],l4,out++[ub (16*x+y)],rfl,by simp;omega,by rw[HS.out];simp,?_,gr_noneThen (by repeat (first|exact HG.out|apply gr_set|apply gr_drewN|apply gr_drew|apply gr_alloc)) hgr1 (fun j hj=>(HO.out.lt j hj).1),hown1,by simp;omega⟩;rw[←HF.out,nameB_3 h1,if_neg (by rw[hx,hy];omega),if_neg (by rw[hx,hy,hz];decide),hx,hy]
def nmBad (bad:Int):Option By→Int
 | some _=>bad
 | none=>failB bad 2
def NmPost (w w':World)(b:Nat)(s:ByteArray)(bad deep:Int)(ends:Bool)(e:Ending)(n:Option By)(r:By)(o:Bool):Prop :=
 e=.returned (.string ⟨(n.getD []).toArray⟩)∧(∃p',RdAt w' b s p' r (nmBad bad n) deep o ends)∧w.grownBy w' (some b)
theorem name_any (w:World)(b:Nat)(s:ByteArray)(p l2:By)(c0':UInt8)(bad deep:Int)(odd ends:Bool)(hR:RdAt w b s p (c0'::l2) bad deep odd ends)(hs:s.size≤140737488351240) :
  Calls Tryz.prog 50 #[.pointer (some ⟨b,0,none⟩)] w fun e w'=>NmPost w w' b s bad deep ends e (nameB (wordT l2) []) (wordR l2) (wordO l2 odd):=by
 have HR:=xhd hR;have hbB:=hR.lt;have hsz:=hR.size;have hp0:p.length<s.size:=by simp at hsz;omega
 obtain⟨c0,c1,c2,c3,c4,c5,cf⟩:=hR.cells;clear hR hsz;go_enter Tryz.func50,Tryz.ntmps50;go_wp2_with fail
 refine(word_any _ b s (p++[c0']) l2 bad deep odd ends (by exact HR.out.set1) (by omega)).mono ?_;rintro e w1⟨rfl,hR1,hg1⟩;have hG1:w.grownBy w1 (some b):=gr_same (gr_set (xgr _ _) _ _) hg1;clear c0 c1 c2 c3 c4 c5 cf HR hg1;obtain⟨HR,HG⟩:=xh2 hR1 hG1;clear hR1 hG1
 have hl2:(wordT l2).length≤140737488351240:=by
  have e1:=HR.out.size;simp at e1;omega
 go_wp2_with fail
 refine(nameB_any _ _ (wordT l2) rfl (by show (List.toArray (wordT l2)).size≤140737488351240;simpa using hl2)).mono ?_;intro e w2 hN
 cases hn:nameB (wordT l2) [] with
 | none =>
  rw[hn]at hN;obtain⟨rfl,hg2⟩:=hN;have hR2:=HR.out.grown hg2 (by simp);have hG2:w.grownBy w2 (some b):=gr_same HG.out (hg2.but _);have Hn:=xhd hn;clear hn
  clear hg2;obtain⟨HR2,HG2⟩:=xh2 hR2 hG2;clear hR2 hG2
  go_wp2_with fail
  refine(fail_any _ b s _ _ bad deep _ ends (by exact HR2.out) 2).mono ?_;rintro e w3⟨rfl,hR3,hg3⟩;go_wp2_with fail
  go_ret;rw[Hn.out];exact⟨rfl,⟨_,hR3⟩,gr_same HG2.out hg3⟩
 | some out =>
  rw[hn]at hN;obtain⟨rfl,hg2⟩:=hN;have hR2:=HR.out.grown hg2 (by simp);have hG2:w.grownBy w2 (some b):=gr_same HG.out (hg2.but _);have Hn:=xhd hn;clear hn
  clear hg2;obtain⟨HR2,HG2⟩:=xh2 hR2 hG2;clear hR2 hG2
  go_wp2_with fail
  go_ret;rw[Hn.out];exact⟨rfl,⟨_,HR2.out⟩,HG2.out⟩
def Env (W0 w:World):Prop:=W0.heap.size≤w.heap.size∧∀k,k<W0.heap.size→w.heap[k]?=W0.heap[k]?
theorem Env.refl (W0:World):Env W0 W0:=⟨Nat.le_refl _,fun _ _=>rfl⟩
theorem Env.grown {W0 w w':World}(h:Env W0 w){r:Option Nat}(hg:w.grownBy w' r)(hr:∀k,r=some k→W0.heap.size≤k):Env W0 w' :=
 ⟨Nat.le_trans h.1 hg.size,fun k hk=>(hg.block k (by have:=h.1;omega) (fun e=>by have:=hr k e.symm;omega)).trans (h.2 k hk)⟩
theorem Env.grown0 {W0 w w':World}(h:Env W0 w)(hg:w.grownBy w' none):Env W0 w':=h.grown hg (fun k hk=>by cases hk)
theorem Env.cell {W0 w:World}(h:Env W0 w){a:Addr}{v:Value}(hc:W0.cell? a=some v):w.cell? a=some v :=
 (World.cell?_of_block (h.2 a.block (World.block_lt_of_cell? _ _ hc))).trans hc
def PFC (pf:By→Nat)(W0:World):Prop:=∀(l:By) (w:World),numOk l→Env W0 w →
 Calls Tryz.prog 57 #[.string ⟨l.toArray⟩,.int .i64 64] w fun e w'=>e=.returned (.tuple #[.float .f64 (pf l),.nilIface])∧w.grownBy w' none
structure Init (W0:World):Prop where
 syntaxErr:∃te pe,W0.cell? ⟨2,0,Option.none⟩=some (.iface te pe)
 rangeErr:∃te pe,W0.cell? ⟨3,0,Option.none⟩=some (.iface te pe)
theorem gr_of_below {w w':World}(h:Below w.heap.size w w'):w.grownBy w' Option.none:=⟨h.os,h.tape,h.output,h.size,fun k hk _=>h.block k hk⟩
def numV (k n:Int)(r:Nat):Value:=.agg #[.int .i64 k,.int .i64 n,.int .i64 0,.float .f64 r,.string ⟨#[]⟩,.slice none 0 0,.slice none 0 0]
def numRet (r:Int×Int×Nat×Int):Ending:=.returned (.tuple #[numV r.1 r.2.1 r.2.2.1,.int .i64 r.2.2.2])
theorem gr_setN {w wr:World}{b:Nat}(h:w.grownBy wr none)(hb:w.heap.size≤b)(i:Nat)(v:Value):w.grownBy (wr.setCell ⟨b,i,none⟩ v) none :=
 ⟨h.os,h.tape,h.output,by simpa using h.size,fun k hk hkb=>(Below.heap_setCell _ _ _ _ (by simp;omega)).trans (h.block k hk hkb)⟩
theorem bytesWorld_gr (w:World)(e:TypeId)(s:ByteArray):w.grownBy (Lib.bytesWorld w e s) none:=by
 refine⟨?_,?_,?_,by rw[Lib.bytesWorld_size];omega,fun k hk _=>Lib.bytesWorld_at_old w e s k hk⟩
 all_goals simp[Lib.bytesWorld,World.freeze,World.alloc,World.drew,-World.alloc_eq,-World.drew_eq]
theorem atoi_any (W0 w:World)(hI:Init W0)(hE:Env W0 w)(s:ByteArray)(hs:s.size≤140737488351240) :
  Calls Tryz.prog 77 #[.string s] w fun e w'=>w.grownBy w' none∧((∃v,Lib.atoiAll s.data.toList=.ok v∧e=.returned (.tuple #[.int .i64 v,.nilIface])) ∨
   (∃v N,(∀u,Lib.atoiAll s.data.toList≠.ok u)∧e=.returned (.tuple #[.int .i64 v,.iface 134 (.pointer (some ⟨N,0,none⟩))]))):=by
 cases h:Lib.atoiAll s.data.toList with
 | ok v =>
  refine(Tryz.strconv_Atoi_ok s (by omega) v h w).mono ?_;rintro e w'⟨rfl,hw⟩;refine⟨?_,.inl ⟨v,rfl,rfl⟩⟩;rcases hw with rfl|⟨t,rfl⟩
  ·exact xgr _ _
  ·exact bytesWorld_gr _ _ _
 | range =>
  obtain⟨te,pe,hc⟩:=hI.rangeErr;refine(Tryz.strconv_Atoi_range s (by omega) h _ w (hE.cell hc) (.inr ⟨te,pe,rfl⟩)).mono ?_;rintro e w'⟨N,rfl,_,_,hb⟩;exact⟨gr_of_below hb,.inr ⟨_,N,by simp,rfl⟩⟩
 | _ =>
  obtain⟨te,pe,hc⟩:=hI.syntaxErr;refine(Tryz.strconv_Atoi_syntax s (by omega) h _ w (hE.cell hc) (.inr ⟨te,pe,rfl⟩)).mono ?_;rintro e w'⟨N,rfl,_,_,hb⟩;exact⟨gr_of_below hb,.inr ⟨0,N,by simp,rfl⟩⟩
theorem zb_cells {w:World}{b:Nat}(h:w.heap[b]?=some (.cells #[.int .i64 0,.int .i64 0,.int .i64 0,.float .f64 0,.string ⟨#[]⟩,.slice none 0 0,.slice none 0 0] 30 (0,0))):w.cell? ⟨b,0,none⟩=some (.int .i64 0)∧w.cell? ⟨b,1,none⟩=some (.int .i64 0)∧w.cell? ⟨b,2,none⟩=some (.int .i64 0)∧w.cell? ⟨b,3,none⟩=some (.float .f64 0) ∧
  w.cell? ⟨b,4,none⟩=some (.string ⟨#[]⟩)∧w.cell? ⟨b,5,none⟩=some (.slice none 0 0)∧w.cell? ⟨b,6,none⟩=some (.slice none 0 0)∧(∀i,w.frozen? ⟨b,i,none⟩=false):=by
 simp[World.cell?,World.frozen?,h]
theorem numF_none {pf:By→Nat}{l l1:By}(h1:numStrip l=l1)(h2:numScan l1 0 0 0=none):numF pf l=(0,0,0,1):=by
 unfold numF;rw[h1,h2]
theorem numF_end {pf:By→Nat}{l l1:By}{d p a:Int}(h1:numStrip l=l1)(h2:numScan [] d p a=numScan l1 0 0 0):numF pf l =
  if d==0∨1<p then ((0,0,0,1):Int×Int×Nat×Int)
  else if 14<a∨60<d then (0,0,0,2)
  else if p==1 then (3,0,pf l,0)
  else match Lib.atoiAll l with
   | .ok n=>if 2147483647<n∨n < -2147483648 then (0,0,0,2) else (2,n,0,0)
   | _=>(0,0,0,2):=by
 unfold numF;rw[h1,←h2];rfl
theorem num_ok {l l1:By}{d p a:Int}(h1:numStrip l=l1)(h2:numScan [] d p a=numScan l1 0 0 0)(hd:¬d=0)(hp:p=1)(ha:a≤14)(hd1:d≤60)(hd0:0≤d):numOk l :=
 ⟨d,a,by rw[h1,←h2,←hp];rfl,by omega,hd1,ha⟩
theorem num_real {pf:By→Nat}{l l1:By}{d p a:Int}(h1:numStrip l=l1)(h2:numScan [] d p a=numScan l1 0 0 0)(hd:¬d=0)(hp:p=1)(ha:a≤14)(hd1:d≤60):numF pf l=(3,0,pf l,0):=by
 subst hp;rw[numF_end h1 h2,if_neg (by simp[hd]),if_neg (by omega),if_pos (by decide)]
theorem num_int {pf:By→Nat}{l l1:By}{d p a:Int}(h1:numStrip l=l1)(h2:numScan [] d p a=numScan l1 0 0 0)(hd:¬d=0)(hp:p≤1)(hp1:¬p=1)(ha:a≤14)(hd1:d≤60) :
  (∀v,Lib.atoiAll l=.ok v→numF pf l=if 2147483647<v∨v < -2147483648 then ((0,0,0,2):Int×Int×Nat×Int) else (2,v,0,0))∧((∀u,Lib.atoiAll l≠.ok u)→numF pf l=(0,0,0,2)):=by
 rw[numF_end h1 h2,if_neg (by simp[hd];omega),if_neg (by omega),if_neg (by simpa using hp1)]
 constructor
 ·intro v hv;rw[hv]
 ·intro hv
  cases h:Lib.atoiAll l with
  | ok v=>exact absurd h (hv v)
  | range=>rfl
  | _=>rfl
theorem PFC.at {pf:By→Nat}{W0:World}(h:PFC pf W0){s:ByteArray}{l:By}(hl:s.data.toList=l)(hok:numOk l){w:World}(hE:Env W0 w) :
  Calls Tryz.prog 57 #[.string s,.int .i64 64] w fun e w'=>e=.returned (.tuple #[.float .f64 (pf l),.nilIface])∧w.grownBy w' none:=by
 obtain rfl:s=⟨l.toArray⟩:=by cases s;subst hl;simp
 exact h l w hok hE
def NumInv (w wr:World)(s:ByteArray)(pre l1:By)(q l':By)(d p a:Int):Prop :=
 s.data.toList=(pre++q)++l'∧numScan l' d p a=numScan l1 0 0 0∧w.grownBy wr none∧wr.heap[w.heap.size]?=some (.cells #[.int .i64 0,.int .i64 0,.int .i64 0,.float .f64 0,.string ⟨#[]⟩,.slice none 0 0,.slice none 0 0] 30 (0,0))∧0≤d∧0≤p∧0≤a∧d+p≤q.length∧a≤d
end Go.Proofs.YtfkecmlmnhbmoaaGreatDoor
