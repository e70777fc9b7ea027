/- Parts F13z. -/
import Derived.Test.YtfkecmlmnhbmoaaGreatDoorX24
set_option linter.unusedVariables false
set_option linter.unusedSimpArgs false
set_option maxRecDepth 100000
set_option maxHeartbeats 40000000
namespace Go.Proofs.YtfkecmlmnhbmoaaGreatDoor
open Go Go.RowKit
theorem c1z {s:ByteArray}{l:By}{c:UInt8}(h:s.data.toList=c::l):∃hk:0<s.size,s[0]'hk=c∧decide ((0:Int)<(s.size:Int))=true∧0≤(c.toNat:Int)∧(c.toNat:Int)≤255:=by
 obtain⟨h1,h2,h3,h4,h5⟩:=a0G (pre:=[]) (c:=c) (l:=l) (by rw[h];rfl);exact⟨h1,h2,h3,h4,h5⟩
theorem b8f {P:Program}{s:Code}{K:Act→World→Prop}{Q':Exit→Act→World→Prop}{id:Nat}{a:Act}{w:World}(h:s.wp P (Exit.then K (Exit.inBlock id (Exit.then K Q'))) a w):s.wp P (Exit.inBlock id (Exit.then K Q')) a w:=by
 refine wp_mono h ?_;intro e a' w' hq
 cases e<;>exact hq
theorem b2T (w : World)(s : ByteArray)(l : By)(hs : s.data.toList = l)(hok : a1q l)(hs2 : s.size ≤ 1000) :
  Calls Tryz.prog 143 #[.string s] w fun e w'=>e=a9d l s.size∧w'=w:=by
 obtain⟨P0,c,l1,d,a,rfl,hp,hst,hsc,hd1,hd2,ha⟩:=a2c hok;clear hok;generalize hR:a9d (P0++c::l1) s.size=R;have HR:=xhd hR;clear hR
 obtain⟨hc1,hc2⟩:=a3G hsc;obtain⟨Hsc,Hst⟩:=xh2 hsc hst;clear hsc hst
 have b45:((c.toNat:Int)==45)=false:=by simp;omega
 have b43:((c.toNat:Int)==43)=false:=by simp;omega
 obtain⟨ng,k0,x0,l0,hng,hPl,hx0,hsw⟩:∃(ng:Bool) (k0:Nat) (x0:UInt8) (l0:By),a0p (P0++c::l1) (· == 45)=ng∧P0.length=k0∧P0++c::l1=x0::l0∧((((x0.toNat:Int)==43)=true∧k0=1∧ng=false)∨(((x0.toNat:Int)==43)=false∧((x0.toNat:Int)==45)=true∧k0=1∧ng=true)∨(((x0.toNat:Int)==43)=false∧((x0.toNat:Int)==45)=false∧k0=0∧ng=false)):=by
  rcases hp with rfl|rfl|rfl
  ·exact⟨false,0,c,l1,by simpa[a0p] using b45,rfl,rfl,.inr (.inr ⟨b43,b45,rfl,rfl⟩)⟩
  ·exact⟨false,1,43,c::l1,rfl,rfl,rfl,.inl ⟨rfl,rfl,rfl⟩⟩
  ·exact⟨true,1,45,c::l1,rfl,rfl,rfl,.inr (.inl ⟨rfl,rfl,rfl,rfl⟩)⟩
 obtain⟨hlt,hcc,hd,hc0,hc9⟩:=c1z (hs.trans hx0);have h1:¬s=ByteArray.empty:=by intro e;rw[e]at hlt;exact absurd hlt (by decide)
 obtain⟨Hs,Hng⟩:=xh2 hs hng;have hk01:k0=0∨k0=1:=by rcases hsw with⟨_,h,_⟩|⟨_,_,h,_⟩|⟨_,_,h,_⟩<;>omega
 obtain⟨Hk01,Hsw,HPl⟩:=xh3 hk01 hsw hPl;clear hs hng hp hx0 hk01 hsw hPl b43 b45;go_enter Tryz.func143,Tryz.ntmps143;go_wp2_with fail
 go_step3
 go_upto_if 28 with (fail)
 refine b8f ?_
 go_cut [4,7] from 21 (fun t4 t7 wr=>t4=.bool ng∧t7=.int .i64 (k0:Nat)∧w=wr)
 case first =>
  rcases Hsw.out with⟨h43,rfl,rfl⟩|⟨h43,h45,rfl,rfl⟩|⟨h43,h45,rfl,rfl⟩
  all_goals
   go_wp2_with fail
   go_meet
   case rel=>exact⟨rfl,rfl,rfl⟩
 obtain⟨rfl,rfl,rfl⟩:=hcut;clear hlt hcc hd hc0 hc9 Hsw
 go_upto_region 12 with (fail)
 go_cut [54] from 21 (fun t54 wr=>t54=.bool false∧w=wr)
 case first=>as_aux_lemma =>
  obtain⟨hlt,hcc,hd,hc0,hc9⟩:=a0G Hs.out;simp only[HPl.out]at hlt hcc hd
  by_cases hl:k0+2<s.size
  ·by_cases h48:c.toNat=48
   ·have hb:((c.toNat:Int)==48)=true:=by simp;omega
    obtain⟨c2,l2,rfl⟩:∃c2 l2,l1=c2::l2:=by
     cases l1 with
     | nil=>have h:=congrArg List.length Hs.out;have h2:=HPl.out;simp at h;omega
     | cons c2 l2=>exact⟨c2,l2,rfl⟩
    have hc22:46≤c2.toNat∧c2.toNat≤57:=by
     rcases a2j Hsc.out with⟨_,_,h⟩|⟨_,h⟩<;>exact a3G h
    obtain⟨hlt2,hcc2,_,_⟩:=a9r Hs.out;simp only[HPl.out]at hlt2 hcc2;have hlow:=(b4o c2.toNat (by omega) (by omega)).1;clear h48;rcases Hk01.out with rfl|rfl
    all_goals
     simp only[Nat.zero_add,Nat.reduceAdd]at hl hlt2 hcc2;go_wp2_with fail
     refine(b7c _ _).mono ?_;rintro e w1⟨rfl,hw⟩;subst w1;go_wp2_with fail
     go_meet
     case rel=>exact⟨rfl,rfl⟩
   ·have hb:((c.toNat:Int)==48)=false:=by simp;omega
    clear h48;rcases Hk01.out with rfl|rfl
    all_goals
     simp only[Nat.zero_add,Nat.reduceAdd]at hl;go_wp2_with fail
     go_meet
     case rel=>exact⟨rfl,rfl⟩
  ·rcases Hk01.out with rfl|rfl
   all_goals
    simp only[Nat.zero_add,Nat.reduceAdd]at hl;go_wp2_with fail
    go_meet
    case rel=>exact⟨rfl,rfl⟩
 obtain⟨rfl,rfl⟩:=hcut
 as_aux_lemma =>
  have hPl:=HPl.out;go_wp2_with fail
  go_step3;go_wp2_with fail
  have Hl0:=xhd (show (c::l1).length=(c::l1).length from rfl)
  go_loopg [2,5,7,9,13,14,15,16,17] ((c::l1).length) (fun g t2 t5 t7 t9 t13 t14 t15 t16 t17 wr=>∃(q l':By) (M nd mm:Nat) (dp d' p' a':Int) (tr sd sg:Bool),g=l'.length∧t2=.int .u64 M∧t5=.bool tr∧t7=.int .i64 ((P0++q:By).length:Nat)∧t9=.bool false∧t13=.bool sd∧t14=.bool sg∧t15=.int .i64 nd∧t16=.int .i64 mm∧t17=.int .i64 dp∧mm=min nd 19∧sd=(p'==1)∧sg=decide (0<d') ∧
   s.data.toList=(P0++q)++l'∧a0l l' d' p' a'=some (d,1,a)∧rfF l' M nd dp tr=rfF (c::l1) 0 0 0 false∧RfI M nd dp tr d' p' a'∧w=wr)
  case atStart=>exact⟨[],c::l1,0,0,0,0,0,0,0,false,false,false,Hl0.out,rfl,rfl,by simp[hPl],rfl,rfl,rfl,rfl,rfl,rfl,by simp,by simp,by simp,by simpa using Hs.out,Hsc.out,rfl,RfI.start,rfl⟩
  case round =>
   clear Hl0;obtain⟨q,l',M,nd,mm,dp,d',p',a',tr,sd,sg,hg,rfl,rfl,rfl,rfl,rfl,rfl,rfl,rfl,rfl,hmm,hsd,hsg,hsl,hsc',hrf,hI,rfl⟩:=hrel;have hsm:=a1T _ _ _ _ _ _ _ hsc';obtain⟨pq,hpq⟩:∃pq,pq=P0++q:=⟨_,rfl⟩;rw[←hpq]at hsl⊢;have hndb:nd≤60:=by have:=hI.nd_d;omega
   have hdpb1:-60≤dp:=by have:=hI.lo;omega
   have hdpb2:dp≤14:=by have:=hI.hi;omega
   have hp0:=hI.p0;have hmm9:mm≤19:=by omega
   obtain⟨Hpq,Hg,Hrf,HI,Hsc',Hmm⟩:=xh6 hpq hg hrf hI hsc' hmm;clear hpq hg hrf hI hsc' hmm
   cases l' with
   | nil =>
    have hlt9:¬pq.length<s.size:=by have:=congrArg List.length hsl;simp at this;omega
    have hpqs:(pq.length:Int)=(s.size:Int):=by have:=congrArg List.length hsl;simp at this;omega
    have hend:d'=d∧p'=1:=by have:=Hsc'.out;simp[a0l]at this;omega
    obtain rfl:sd=true:=by rw[hsd];simp;omega
    obtain rfl:sg=true:=by rw[hsg];simp;omega
    obtain⟨Hsl,Hpqs⟩:=xh2 hsl hpqs;clear hsl hpqs
    clear hsd hsg hsm hend
    by_cases hM:M=0
    ·have hMb:((M:Int) != 0)=false:=by simp;omega
     have HM:=xhd hM;clear hM;go_wp2_with fail
     rw[Exit.noGoto_ret];refine bodyPost_ret (v:=.tuple #[.int .u64 M,.int .i64 (0),.bool ng,.bool tr,.bool false,.int .i64 pq.length,.bool true]) (by simp[results,Tryz.results143,go_sem]) rfl ⟨?_,rfl⟩;rw[←HR.out];unfold a9d;rw[Hng.out,Hst.out,←Hrf.out];simp[rfF,HM.out,Hmm.out,Hpqs.out]
    ·have hMb:((M:Int) != 0)=true:=by simp;omega
     have HM:=xhd hM;clear hM;go_wp2_with fail
     rw[Exit.noGoto_ret];refine bodyPost_ret (v:=.tuple #[.int .u64 M,.int .i64 (dp-mm),.bool ng,.bool tr,.bool false,.int .i64 pq.length,.bool true]) (by simp[results,Tryz.results143,go_sem]) rfl ⟨?_,rfl⟩;rw[←HR.out];unfold a9d;rw[Hng.out,Hst.out,←Hrf.out];simp[rfF,HM.out,Hmm.out,Hpqs.out]
   | cons c3 l3 =>
    obtain⟨hlt3,hc3,hd3,hr3,hr4⟩:=a0G hsl;have Hsl:=xhd hsl;clear hsl
    have h95:((c3.toNat:Int)==95)=false:=by have:=a3G Hsc'.out;simp;omega
    rcases a2j Hsc'.out with⟨hz1,hz2,hz3⟩|⟨hz1,hz3⟩
    ·have h46:((c3.toNat:Int)==46)=false:=by rcases a2j Hsc'.out with h|h;simp;omega;simp;omega
     have hMd:mm<19→M≤999999999999999999:=by
      intro h;have h1:=HI.out.m;have h2:=Hmm.out;have h3:10^min nd 19≤10^18:=a5l (by omega);have h4:(10:Nat)^18=1000000000000000000:=by decide
      omega
     have hd8:=HI.out.nd_d;obtain⟨Hz3,Hsd⟩:=xh2 hz3 hsd;clear hz3 hsd
     clear hsg hsm;have Hcn:=xhd (show ¬c3.toNat=46 by omega)
     by_cases h48:c3.toNat=48
     ·have hb48:((c3.toNat:Int)==48)=true:=by simp;omega
      have hb48n:((c3.toNat:Int) != 48)=false:=by simp;omega
      have H48:=xhd h48;clear h48
      by_cases hn0:nd=0
      ·have hbn:((nd:Int)==0)=true:=by simp;omega
       have Hn0:=xhd hn0;clear hn0 hMd;go_wp2_with fail
       go_roundg l3.length
       case measure=>rw[Hg.out];simp
       case rel =>
        refine⟨q++[c3],l3,M,nd,mm,dp-1,d'+1,p',(if p'==0 then a'+1 else a'),tr,sd,true,rfl,by go_num,rfl,by rw[←List.append_assoc,←Hpq.out];simp,rfl,rfl,rfl,by go_num,by go_num,by go_num,?_,Hsd.out,by simp;omega,by rw[←List.append_assoc,←Hpq.out,Hsl.out];simp,Hz3.out,?_,?_,rfl⟩
        ·exact Hmm.out
        ·rw[←Hrf.out];simp only[rfF];rw[if_neg Hcn.out,if_pos ⟨H48.out,Hn0.out⟩]
        ·exact HI.out.zero Hn0.out
      ·have hbn:((nd:Int)==0)=false:=by simp;omega
       have Hn0:=xhd hn0;clear hn0
       by_cases h19:mm<19
       ·have hM18:=hMd h19
        have Hmn:=xhd (show mm=nd∧nd<19 by have:=Hmm.out;omega);clear hMd;go_wp2_with fail
        go_roundg l3.length
        case measure=>rw[Hg.out];simp
        case rel =>
         refine⟨q++[c3],l3,M*10+(c3.toNat-48),nd+1,mm+1,dp,d'+1,p',(if p'==0 then a'+1 else a'),tr,sd,true,rfl,by go_num,rfl,by rw[←List.append_assoc,←Hpq.out];simp,rfl,rfl,rfl,by go_num,by go_num,by go_num,?_,Hsd.out,by simp;omega,by rw[←List.append_assoc,←Hpq.out,Hsl.out];simp,Hz3.out,?_,?_,rfl⟩
         ·have:=Hmn.out;omega
         ·rw[←Hrf.out];simp only[rfF];rw[if_neg Hcn.out,if_neg (by first|exact fun x=>H48.out x.1|exact fun x=>Hn0.out x.2),if_pos Hmn.out.2]
         ·exact HI.out.dig (by omega) (by first|exact fun x=>H48.out (by omega)|exact fun x=>Hn0.out x.2) Hmn.out.2
       ·have Hmn:=xhd (show mm=19∧¬nd<19 by have:=Hmm.out;omega)
        clear hMd;go_wp2_with fail
        go_roundg l3.length
        case measure=>rw[Hg.out];simp
        case rel =>
         refine⟨q++[c3],l3,M,nd+1,mm,dp,d'+1,p',(if p'==0 then a'+1 else a'),tr,sd,true,rfl,by go_num,rfl,by rw[←List.append_assoc,←Hpq.out];simp,rfl,rfl,rfl,by go_num,by go_num,by go_num,?_,Hsd.out,by simp;omega,by rw[←List.append_assoc,←Hpq.out,Hsl.out];simp,Hz3.out,?_,?_,rfl⟩
         ·have:=Hmn.out;omega
         ·rw[←Hrf.out];simp only[rfF];rw[if_neg Hcn.out,if_neg (by first|exact fun x=>H48.out x.1|exact fun x=>Hn0.out x.2),if_neg Hmn.out.2,if_pos H48.out]
         ·exact HI.out.more Hmn.out.2
     ·have hb48:((c3.toNat:Int)==48)=false:=by simp;omega
      have hb48n:((c3.toNat:Int) != 48)=true:=by simp;omega
      have H48:=xhd h48;clear h48
      by_cases h19:mm<19
      ·have hM18:=hMd h19
       have Hmn:=xhd (show mm=nd∧nd<19 by have:=Hmm.out;omega);clear hMd;go_wp2_with fail
       go_roundg l3.length
       case measure=>rw[Hg.out];simp
       case rel =>
        refine⟨q++[c3],l3,M*10+(c3.toNat-48),nd+1,mm+1,dp,d'+1,p',(if p'==0 then a'+1 else a'),tr,sd,true,rfl,by go_num,rfl,by rw[←List.append_assoc,←Hpq.out];simp,rfl,rfl,rfl,by go_num,by go_num,by go_num,?_,Hsd.out,by simp;omega,by rw[←List.append_assoc,←Hpq.out,Hsl.out];simp,Hz3.out,?_,?_,rfl⟩
        ·have:=Hmn.out;omega
        ·rw[←Hrf.out];simp only[rfF];rw[if_neg Hcn.out,if_neg (by first|exact fun x=>H48.out x.1|exact fun x=>Hn0.out x.2),if_pos Hmn.out.2]
        ·exact HI.out.dig (by omega) (by first|exact fun x=>H48.out (by omega)|exact fun x=>Hn0.out x.2) Hmn.out.2
      ·have Hmn:=xhd (show mm=19∧¬nd<19 by have:=Hmm.out;omega)
       clear hMd;go_wp2_with fail
       go_roundg l3.length
       case measure=>rw[Hg.out];simp
       case rel =>
        refine⟨q++[c3],l3,M,nd+1,mm,dp,d'+1,p',(if p'==0 then a'+1 else a'),true,sd,true,rfl,by go_num,rfl,by rw[←List.append_assoc,←Hpq.out];simp,rfl,rfl,rfl,by go_num,by go_num,by go_num,?_,Hsd.out,by simp;omega,by rw[←List.append_assoc,←Hpq.out,Hsl.out];simp,Hz3.out,?_,?_,rfl⟩
        ·have:=Hmn.out;omega
        ·rw[←Hrf.out];simp only[rfF];rw[if_neg Hcn.out,if_neg (by first|exact fun x=>H48.out x.1|exact fun x=>Hn0.out x.2),if_neg Hmn.out.2,if_neg H48.out]
        ·exact HI.out.more Hmn.out.2
    ·have h46:((c3.toNat:Int)==46)=true:=by simp;omega
     have hp1:=a1T _ _ _ _ _ _ _ hz3;obtain rfl:sd=false:=by rw[hsd];simp;omega
     obtain⟨Hz3,Hsg,HZ1⟩:=xh3 hz3 hsg hz1;clear hz3 hsg
     clear hsd hsm hz1;have hp9:p'=0:=by omega
     have Hp9:=xhd hp9;clear hp1 hp9;go_wp2_with fail
     go_roundg l3.length
     case measure=>rw[Hg.out];simp
     case rel=>exact⟨q++[c3],l3,M,nd,mm,nd,d',p'+1,a',tr,true,sg,rfl,rfl,rfl,by rw[←List.append_assoc,←Hpq.out];simp,rfl,rfl,rfl,rfl,rfl,rfl,Hmm.out,by rw[Hp9.out];rfl,Hsg.out,by rw[←List.append_assoc,←Hpq.out,Hsl.out];simp,Hz3.out,by rw[←Hrf.out];simp only[rfF];rw[if_pos HZ1.out],HI.out.point Hp9.out,rfl⟩
end Go.Proofs.YtfkecmlmnhbmoaaGreatDoor
