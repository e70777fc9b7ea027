/- Parts F14z. -/
import Derived.Test.YtfkecmlmnhbmoaaGreatDoorX24
set_option linter.unusedVariables false
set_option linter.unusedSimpArgs false
set_option maxRecDepth 100000
set_option maxHeartbeats 40000000
namespace Go.Proofs.YtfkecmlmnhbmoaaGreatDoor
open Go Go.RowKit
theorem c1A {s:ByteArray}{l:By}{c:UInt8}(h:s.data.toList=c::l):∃hk:0<s.size,s[0]'hk=c∧decide ((0:Int)<(s.size:Int))=true∧0≤(c.toNat:Int)∧(c.toNat:Int)≤255:=by
 obtain⟨h1,h2,h3,h4,h5⟩:=a0G (pre:=[]) (c:=c) (l:=l) (by rw[h];rfl);exact⟨h1,h2,h3,h4,h5⟩
theorem b7M (w:World)(b:Nat)(A:By)(s:ByteArray)(l:By)(hD:a0O w b A 0 0 false false)(hs:s.data.toList=l)(hok:a1q l)(hs2:s.size≤1000) :
  Calls Tryz.prog 149 #[.pointer (some ⟨b,0,none⟩),.string s] w fun e w'=>e=.returned (.bool true)∧DecN w' b (stF (a0i l) 0 0).1 (stF (a0i l) 0 0).2 (a0p l (· == 45)) false∧w.grownBy w' (some b):=by
 obtain⟨pre,c,l1,d,a,rfl,hp,hst,hsc,hd1,hd2,ha⟩:=a2c hok;clear hok;rw[hst];generalize hR:stF (c::l1) 0 0=R;have HR:=xhd hR;clear hR
 obtain⟨hc1,hc2⟩:=a3G hsc;have Hsc:=xhd hsc;clear hsc
 obtain⟨c0,c1,c2,c3,cf⟩:=hD.cells;have HD:=xhd hD;clear hD
 obtain⟨P0,hP0⟩:∃P,P=pre:=⟨_,rfl⟩;obtain⟨ng,hng⟩:∃b,b=a0p (pre++c::l1) (· == 45):=⟨_,rfl⟩;rw[←hng];have Hs:=xhd (show s.data.toList=P0++c::l1 by rw[hP0];exact hs);obtain⟨k0,hPl⟩:∃k,P0.length=k:=⟨_,rfl⟩;have hPl0:pre.length=k0:=by rw[←hP0];exact hPl
 have b2:((c.toNat:Int)==45)=false:=by simp;omega
 have b1:((c.toNat:Int)==43)=false:=by simp;omega
 clear hst;rcases hp with rfl|rfl|rfl
 all_goals as_aux_lemma =>
  simp only[List.length_nil,List.length_cons,Nat.zero_add]at hPl0;subst hPl0;simp only[List.cons_append,List.nil_append]at hs;obtain⟨hlt,hcc,hd,hc0,hc9⟩:=c1A hs;have h1:¬s=ByteArray.empty:=by intro e;rw[e]at hlt;exact absurd hlt (by decide)
  simp only[a0p,List.nil_append,List.cons_append,b2]at hng;have Hng:=xhd hng;clear hs hP0 hng;go_enter Tryz.func149,Tryz.ntmps149;go_wp2_with fail
  have Hl0:=xhd (show (c::l1).length=(c::l1).length from rfl)
  go_loopg [5,6,7] ((c::l1).length) (fun g t5 t6 t7 wr=>∃(q l':By) (N:Nat) (dp d' p' a':Int) (sd sg:Bool),g=l'.length∧t5=.int .i64 ((P0++q:By).length:Nat)∧t6=.bool sd∧t7=.bool sg∧sd=(p'==1)∧sg=decide (0<d') ∧
   s.data.toList=(P0++q)++l'∧a0l l' d' p' a'=some (d,1,a)∧stF l' N dp=R∧(numD N:Nat)≤d'∧-d'≤dp∧dp≤d'∧0≤p'∧DecN wr b N dp ng false∧w.grownBy wr (some b))
  case atStart=>exact⟨[],c::l1,0,0,0,0,0,false,false,Hl0.out,by simp[hPl],rfl,rfl,by simp,by simp,by simpa using Hs.out,Hsc.out,HR.out,by rw[a1n];simp,by omega,by omega,by omega,DecN.zero ((by rw[Hng.out];first|exact(HD.out.setNeg false).setTr false|exact((HD.out.setNeg false).setTr false).setNeg true)),(by repeat (first|with_reducible exact xgr w (some b)|with_reducible apply a0a|with_reducible apply a0b|with_reducible apply a0d|with_reducible apply a0e|((with_reducible refine a0B ?_ ?_ _ _);rotate_left;(first|omega|(simp;omega)))))⟩
  case round =>
   clear Hl0 c0 c1 c2 c3 cf;obtain⟨q,l',N,dp,d',p',a',sd,sg,hg,rfl,rfl,rfl,hsd,hsg,hsl,hsc',hst,hnd,hdp1,hdp2,hp0,hD,hG⟩:=hrel;have hsm:=a1T _ _ _ _ _ _ _ hsc';obtain⟨c0,c1,c2,c3,cf⟩:=hD.cells;obtain⟨pq,hpq⟩:∃pq,pq=P0++q:=⟨_,rfl⟩;rw[←hpq]at hsl⊢;obtain⟨nd,hndd⟩:∃nd,nd=numD N:=⟨_,rfl⟩;rw[←hndd]at c0 hnd;have hndb:nd≤60:=by omega
   have hdpb1:-60≤dp:=by omega
   have hdpb2:dp≤60:=by omega
   obtain⟨Hpq,Hnd,Hg,Hst,Hsc',HG⟩:=xh6 hpq hndd hg hst hsc' hG;clear hpq hndd hg hst hsc' hG
   cases l' with
   | nil =>
    have hlt9:¬pq.length<s.size:=by have:=congrArg List.length hsl;simp at this;omega
    have hpqs:((pq.length:Int) != (s.size:Int))=false:=by have:=congrArg List.length hsl;simp at this⊢;omega
    have hend:d'=d∧p'=1:=by have:=Hsc'.out;simp[a0l]at this;omega
    obtain rfl:sd=true:=by rw[hsd];simp;omega
    obtain rfl:sg=true:=by rw[hsg];simp;omega
    obtain⟨Hsl,HD2⟩:=xh2 hsl hD;clear hsl hD
    clear hsd hsg hsm hend;go_wp2_with fail
    go_ret;have e:R=(N,dp):=by rw[←Hst.out];rfl
    rw[e];exact⟨rfl,HD2.out,HG.out⟩
   | cons c3' l3 =>
    obtain⟨hlt3,hc3,hd3,hr3,hr4⟩:=a0G hsl;have Hsl:=xhd hsl;clear hsl
    have h95:((c3'.toNat:Int)==95)=false:=by have:=a3G Hsc'.out;simp;omega
    rcases a2j Hsc'.out with⟨hz1,hz2,hz3⟩|⟨hz1,hz3⟩
    ·have h46:((c3'.toNat:Int)==46)=false:=by simp;omega
     have hm2:=a1T _ _ _ _ _ _ _ hz3;obtain⟨Hz3,Hsd⟩:=xh2 hz3 hsd;clear hz3 hsd
     clear hsg hsm;have hdd:0≤d':=by omega
     have Hcn:=xhd (show ¬c3'.toNat=46 by omega)
     have hNz:nd=0↔N=0:=by
      have:=Hnd.out
      constructor
      ·intro e;by_cases h0:N=0
       ·exact h0
       ·have:=a0N h0;omega
      ·intro e;rw[this,e,a1n]
     by_cases h48:c3'.toNat=48
     ·have hb48:((c3'.toNat:Int)==48)=true:=by simp;omega
      have H48:=xhd h48;clear h48
      by_cases hn0:nd=0
      ·have hbn:((nd:Int)==0)=true:=by simp;omega
       have HN0:=xhd (hNz.1 hn0);have Hn0:=xhd hn0;clear hn0 hNz;have HD2:=xhd hD;clear hD
       go_wp2_with fail
       go_roundg l3.length
       case measure=>rw[Hg.out];simp
       case rel =>
        refine⟨q++[c3'],l3,N,dp-1,d'+1,p',_,sd,true,rfl,by rw[←List.append_assoc,←Hpq.out];simp,rfl,rfl,Hsd.out,by simp;omega,by rw[←List.append_assoc,←Hpq.out,Hsl.out];simp,Hz3.out,?_,by rw[←Hnd.out];omega,by omega,by omega,hp0,HD2.out.setDp _,(by repeat (first|with_reducible exact HG.out|with_reducible apply a0a|with_reducible apply a0b|with_reducible apply a0d|with_reducible apply a0e|((with_reducible refine a0B ?_ ?_ _ _);rotate_left;(first|omega|(simp;omega)))))⟩;rw[←Hst.out];simp only[stF];rw[if_neg Hcn.out,if_pos ⟨H48.out,HN0.out⟩]
      ·have hbn:((nd:Int)==0)=false:=by simp;omega
       have HNz:=xhd (show ¬(c3'.toNat=48∧N=0) from fun x=>hn0 (hNz.2 x.2));clear hn0 hNz
       obtain⟨c9,hc9,cw⟩:∃c9:UInt8,True∧wr.cell? ⟨b,nd,none⟩=some (.int .u8 (c9.toNat:Int)):=by
        obtain⟨_,A9,hA9,_,_⟩:=hD;obtain⟨c9,_,cw⟩:=hA9.digE (i:=nd) (by omega);exact⟨c9,trivial,cw⟩
       clear hc9;have HD2:=xhd hD;clear hD
       go_wp2_with fail
       (refine a0r 11 (by kernel_rfl) (by kernel_rfl) ?_;simp only[List.take_succ_cons,List.take_zero,List.drop_succ_cons,List.drop_zero];(repeat (go_big_quiet_step (fail)));refine wpQuiet_nil ?_;intro _ hwt;obtain⟨nt,hwt'⟩:=hwt;subst hwt';go_wp2_with fail)
       go_roundg l3.length
       case measure=>rw[Hg.out];simp
       case rel =>
        have h9:=(HD2.out.drewN nt).digit hz1 hz2 HNz.out (by rw[←Hnd.out];omega);rw[←Hnd.out]at h9;have hdn:=a5f (N:=N) (d:=c3'.toNat-48) (by omega) (fun x=>HNz.out ⟨by omega,x.2⟩);refine⟨q++[c3'],l3,_,dp,d'+1,p',_,sd,true,rfl,by rw[←List.append_assoc,←Hpq.out];simp,rfl,rfl,Hsd.out,by simp;omega,by rw[←List.append_assoc,←Hpq.out,Hsl.out];simp,Hz3.out,?_,by rw[hdn,←Hnd.out];omega,by omega,by omega,hp0,h9,(by repeat (first|with_reducible exact HG.out|with_reducible apply a0a|with_reducible apply a0b|with_reducible apply a0d|with_reducible apply a0e|((with_reducible refine a0B ?_ ?_ _ _);rotate_left;(first|omega|(simp;omega)))))⟩;rw[←Hst.out];simp only[stF];rw[if_neg Hcn.out,if_neg HNz.out]
     ·have hb48:((c3'.toNat:Int)==48)=false:=by simp;omega
      have HNz:=xhd (show ¬(c3'.toNat=48∧N=0) from fun x=>h48 x.1);clear h48 hNz
      obtain⟨c9,hc9,cw⟩:∃c9:UInt8,True∧wr.cell? ⟨b,nd,none⟩=some (.int .u8 (c9.toNat:Int)):=by
       obtain⟨_,A9,hA9,_,_⟩:=hD;obtain⟨c9,_,cw⟩:=hA9.digE (i:=nd) (by omega);exact⟨c9,trivial,cw⟩
      clear hc9;have HD2:=xhd hD;clear hD
      go_wp2_with fail
      (refine a0r 11 (by kernel_rfl) (by kernel_rfl) ?_;simp only[List.take_succ_cons,List.take_zero,List.drop_succ_cons,List.drop_zero];(repeat (go_big_quiet_step (fail)));refine wpQuiet_nil ?_;intro _ hwt;obtain⟨nt,hwt'⟩:=hwt;subst hwt';go_wp2_with fail)
      go_roundg l3.length
      case measure=>rw[Hg.out];simp
      case rel =>
       have h9:=(HD2.out.drewN nt).digit hz1 hz2 HNz.out (by rw[←Hnd.out];omega);rw[←Hnd.out]at h9;have hdn:=a5f (N:=N) (d:=c3'.toNat-48) (by omega) (fun x=>HNz.out ⟨by omega,x.2⟩);refine⟨q++[c3'],l3,_,dp,d'+1,p',_,sd,true,rfl,by rw[←List.append_assoc,←Hpq.out];simp,rfl,rfl,Hsd.out,by simp;omega,by rw[←List.append_assoc,←Hpq.out,Hsl.out];simp,Hz3.out,?_,by rw[hdn,←Hnd.out];omega,by omega,by omega,hp0,h9,(by repeat (first|with_reducible exact HG.out|with_reducible apply a0a|with_reducible apply a0b|with_reducible apply a0d|with_reducible apply a0e|((with_reducible refine a0B ?_ ?_ _ _);rotate_left;(first|omega|(simp;omega)))))⟩;rw[←Hst.out];simp only[stF];rw[if_neg Hcn.out,if_neg HNz.out]
    ·have h46:((c3'.toNat:Int)==46)=true:=by simp;omega
     have hp1:=a1T _ _ _ _ _ _ _ hz3;obtain rfl:sd=false:=by rw[hsd];simp;omega
     obtain⟨Hz3,Hsg,HZ1⟩:=xh3 hz3 hsg hz1;clear hz3 hsg
     clear hsd hsm hz1;have hp9:p'=0:=by omega
     have Hp9:=xhd hp9;clear hp1 hp9;have HD2:=xhd hD;clear hD
     go_wp2_with fail
     go_roundg l3.length
     case measure=>rw[Hg.out];simp
     case rel=>exact⟨q++[c3'],l3,N,nd,d',p'+1,a',true,sg,rfl,by rw[←List.append_assoc,←Hpq.out];simp,rfl,rfl,by rw[Hp9.out];rfl,Hsg.out,by rw[←List.append_assoc,←Hpq.out,Hsl.out];simp,Hz3.out,by rw[←Hst.out];simp only[stF];rw[if_pos HZ1.out,Hnd.out],by rw[←Hnd.out];omega,by omega,by omega,by omega,HD2.out.setDp _,(by repeat (first|with_reducible exact HG.out|with_reducible apply a0a|with_reducible apply a0b|with_reducible apply a0d|with_reducible apply a0e|((with_reducible refine a0B ?_ ?_ _ _);rotate_left;(first|omega|(simp;omega)))))⟩
end Go.Proofs.YtfkecmlmnhbmoaaGreatDoor
