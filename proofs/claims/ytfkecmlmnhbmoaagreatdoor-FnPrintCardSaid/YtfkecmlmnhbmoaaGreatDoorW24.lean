/- Parts F13 F13a F13b F13c F14 F14a F14b F14c G7 G8 G9 Q3. -/
import Derived.Test.YtfkecmlmnhbmoaaGreatDoorW23
set_option linter.unusedVariables false
set_option linter.unusedSimpArgs false
set_option maxRecDepth 100000
set_option maxHeartbeats 40000000
namespace Go.Proofs.YtfkecmlmnhbmoaaGreatDoor
open Go Go.RowKit
def rfRet (l:By)(n:Nat):Ending:=.returned (.tuple #[.int .u64 (rfF (numStrip l) 0 0 0 false).1,.int .i64 (if (rfF (numStrip l) 0 0 0 false).1=0 then 0 else (rfF (numStrip l) 0 0 0 false).2.2.1-(min (rfF (numStrip l) 0 0 0 false).2.1 19:Nat)),
 .bool (headIs l (· == 45)),.bool (rfF (numStrip l) 0 0 0 false).2.2.2,.bool false,.int .i64 n,.bool true])
theorem rf_nil (w : World)(s : ByteArray)(c : UInt8)(l1 : By)(d a : Int)(hs : s.data.toList = [] ++ c :: l1)(hst : numStrip ([] ++ c :: l1) = c :: l1)(hsc : numScan (c :: l1) 0 0 0 = some (d, 1, a))(hd1 : 1 ≤ d)(hd2 : d ≤ 60)(ha : a ≤ 14)(hs2 : s.size ≤ 1000) :
  Calls Tryz.prog 143 #[.string s] w fun e w'=>e=rfRet ([]++c::l1) s.size∧w'=w:=by
 generalize hR:rfRet ([]++c::l1) s.size=R;have HR:=xhd hR;clear hR
 obtain⟨hc1,hc2⟩:=scan_dig hsc;obtain⟨Hsc,Hst⟩:=xh2 hsc hst;clear hsc hst
 obtain⟨hlt,hcc,hd,hc0,_⟩:=at_byte (pre:=[]) (by simpa using hs);simp only[List.length_nil]at hlt hcc hd;have h1:¬s=ByteArray.empty:=by intro e;rw[e]at hlt;exact absurd hlt (by decide)
 have b1:((c.toNat:Int)==43)=false:=by simp;omega
 have b2:((c.toNat:Int)==45)=false:=by simp;omega
 have Hs:=xhd hs;clear hs
 go_enter Tryz.func143,Tryz.ntmps143;go_wp2_with fail
 go_step3
 go_upto_region 12 with (fail)
 go_cut [54] from 21 (fun t54 wr=>t54=.bool false∧w=wr)
 case first =>
  by_cases hl2:2<s.size
  ·by_cases h48:c.toNat=48
   ·have hb:((c.toNat:Int)==48)=true:=by simp;omega
    obtain⟨c2,l2,rfl⟩:∃c2 l2,l1=c2::l2:=by
     cases l1 with
     | nil=>have:=congrArg List.length Hs.out;simp at this;omega
     | cons c2 l2=>exact⟨c2,l2,rfl⟩
    have hc22:46≤c2.toNat∧c2.toNat≤57:=by
     rcases scan_cons Hsc.out with⟨_,_,h⟩|⟨_,h⟩<;>exact scan_dig h
    obtain⟨hlt2,hcc2,_,_⟩:=at_byte1 (pre:=[]) (by simpa using Hs.out);simp only[List.length_nil,Nat.zero_add]at hlt2 hcc2;have hlow:=(low_bits c2.toNat (by omega) (by omega)).1;clear h48;go_wp2_with fail
    refine(low_any _ _).mono ?_;rintro e w1⟨rfl,hw⟩;subst w1;go_wp2_with fail
    go_meet
    case rel=>exact⟨rfl,rfl⟩
   ·have hb:((c.toNat:Int)==48)=false:=by simp;omega
    clear h48;go_wp2_with fail
    go_meet
    case rel=>exact⟨rfl,rfl⟩
  ·go_wp2_with fail
   go_meet
   case rel=>exact⟨rfl,rfl⟩
 case rest =>
  obtain⟨rfl,rfl⟩:=hcut;go_wp2_with fail
  go_step3;go_wp2_with fail
  have Hl0:=xhd (show (c::l1).length=(c::l1).length from rfl)
  go_loopg [2,5,7,9,13,14,15,16,17] ((c::l1).length) (fun g t2 t5 t7 t9 t13 t14 t15 t16 t17 wr=>∃(q l':By) (M nd mm:Nat) (dp d' p' a':Int) (tr sd sg:Bool),g=l'.length∧t2=.int .u64 M∧t5=.bool tr∧t7=.int .i64 (([]++q:By).length:Nat)∧t9=.bool false∧t13=.bool sd∧t14=.bool sg∧t15=.int .i64 nd∧t16=.int .i64 mm∧t17=.int .i64 dp∧mm=min nd 19∧sd=(p'==1)∧sg=decide (0<d') ∧
   s.data.toList=([]++q)++l'∧numScan l' d' p' a'=some (d,1,a)∧rfF l' M nd dp tr=rfF (c::l1) 0 0 0 false∧RfI M nd dp tr d' p' a'∧w=wr)
  case atStart=>exact⟨[],c::l1,0,0,0,0,0,0,0,false,false,false,Hl0.out,rfl,rfl,rfl,rfl,rfl,rfl,rfl,rfl,rfl,by simp,by simp,by simp,by simpa using Hs.out,Hsc.out,rfl,RfI.start,rfl⟩
  case round =>
   clear Hl0;obtain⟨q,l',M,nd,mm,dp,d',p',a',tr,sd,sg,hg,rfl,rfl,rfl,rfl,rfl,rfl,rfl,rfl,rfl,hmm,hsd,hsg,hsl,hsc',hrf,hI,rfl⟩:=hrel;have hsm:=scan_mono _ _ _ _ _ _ _ hsc';obtain⟨pq,hpq⟩:∃pq,pq=[]++q:=⟨_,rfl⟩;rw[←hpq]at hsl⊢;have hndb:nd≤60:=by have:=hI.nd_d;omega
   have hdpb1:-60≤dp:=by have:=hI.lo;omega
   have hdpb2:dp≤14:=by have:=hI.hi;omega
   have hp0:=hI.p0;have hmm9:mm≤19:=by omega
   obtain⟨Hpq,Hg,Hrf,HI,Hsc',Hmm⟩:=xh6 hpq hg hrf hI hsc' hmm;clear hpq hg hrf hI hsc' hmm
   cases l' with
   | nil =>
    have hlt9:¬pq.length<s.size:=by have:=congrArg List.length hsl;simp at this;omega
    have hpqs:(pq.length:Int)=(s.size:Int):=by have:=congrArg List.length hsl;simp at this;omega
    have hend:d'=d∧p'=1:=by have:=Hsc'.out;simp[numScan]at this;omega
    obtain rfl:sd=true:=by rw[hsd];simp;omega
    obtain rfl:sg=true:=by rw[hsg];simp;omega
    obtain⟨Hsl,Hpqs⟩:=xh2 hsl hpqs;clear hsl hpqs
    clear hsd hsg hsm hend
    by_cases hM:M=0
    ·have hMb:((M:Int) != 0)=false:=by simp;omega
     have HM:=xhd hM;clear hM;go_wp2_with fail
     rw[Exit.noGoto_ret];refine bodyPost_ret (v:=.tuple #[.int .u64 M,.int .i64 (0),.bool false,.bool tr,.bool false,.int .i64 pq.length,.bool true]) (by simp[results,Tryz.results143,go_sem]) rfl ⟨?_,rfl⟩;rw[←HR.out];unfold rfRet;rw[Hst.out,←Hrf.out];have hc45:((c.toNat:Int)==45)=false:=by simp;omega
     simp[rfF,headIs,hc45,HM.out,Hmm.out,Hpqs.out]
    ·have hMb:((M:Int) != 0)=true:=by simp;omega
     have HM:=xhd hM;clear hM;go_wp2_with fail
     rw[Exit.noGoto_ret];refine bodyPost_ret (v:=.tuple #[.int .u64 M,.int .i64 (dp-mm),.bool false,.bool tr,.bool false,.int .i64 pq.length,.bool true]) (by simp[results,Tryz.results143,go_sem]) rfl ⟨?_,rfl⟩;rw[←HR.out];unfold rfRet;rw[Hst.out,←Hrf.out];have hc45:((c.toNat:Int)==45)=false:=by simp;omega
     simp[rfF,headIs,hc45,HM.out,Hmm.out,Hpqs.out]
   | cons c3 l3 =>
    obtain⟨hlt3,hc3,hd3,hr3,hr4⟩:=at_byte hsl;have Hsl:=xhd hsl;clear hsl
    have h95:((c3.toNat:Int)==95)=false:=by have:=scan_dig Hsc'.out;simp;omega
    rcases scan_cons Hsc'.out with⟨hz1,hz2,hz3⟩|⟨hz1,hz3⟩
    ·have h46:((c3.toNat:Int)==46)=false:=by rcases scan_cons Hsc'.out with h|h;simp;omega;simp;omega
     have hMd:mm<19→M≤999999999999999999:=by
      intro h;have h1:=HI.out.m;have h2:=Hmm.out;have h3:10^min nd 19≤10^18:=pow10_le (by omega);have h4:(10:Nat)^18=1000000000000000000:=by decide
      omega
     have hd8:=HI.out.nd_d;obtain⟨Hz3,Hsd⟩:=xh2 hz3 hsd;clear hz3 hsd
     clear hsg hsm;have Hcn:=xhd (show ¬c3.toNat=46 by omega)
     by_cases h48:c3.toNat=48
     ·have hb48:((c3.toNat:Int)==48)=true:=by simp;omega
      have hb48n:((c3.toNat:Int) != 48)=false:=by simp;omega
      have H48:=xhd h48;clear h48
      by_cases hn0:nd=0
      ·have hbn:((nd:Int)==0)=true:=by simp;omega
       have Hn0:=xhd hn0;clear hn0 hMd;go_wp2_with fail
       go_roundg l3.length
       case measure=>rw[Hg.out];simp
       case rel =>
        refine⟨q++[c3],l3,M,nd,mm,dp-1,d'+1,p',(if p'==0 then a'+1 else a'),tr,sd,true,rfl,by go_num,rfl,by rw[←List.append_assoc,←Hpq.out];simp,rfl,rfl,rfl,by go_num,by go_num,by go_num,?_,Hsd.out,by simp;omega,by rw[←List.append_assoc,←Hpq.out,Hsl.out];simp,Hz3.out,?_,?_,rfl⟩
        ·exact Hmm.out
        ·rw[←Hrf.out];simp only[rfF];rw[if_neg Hcn.out,if_pos ⟨H48.out,Hn0.out⟩]
        ·exact HI.out.zero Hn0.out
      ·have hbn:((nd:Int)==0)=false:=by simp;omega
       have Hn0:=xhd hn0;clear hn0
       by_cases h19:mm<19
       ·have hM18:=hMd h19
        have Hmn:=xhd (show mm=nd∧nd<19 by have:=Hmm.out;omega);clear hMd;go_wp2_with fail
        go_roundg l3.length
        case measure=>rw[Hg.out];simp
        case rel =>
         refine⟨q++[c3],l3,M*10+(c3.toNat-48),nd+1,mm+1,dp,d'+1,p',(if p'==0 then a'+1 else a'),tr,sd,true,rfl,by go_num,rfl,by rw[←List.append_assoc,←Hpq.out];simp,rfl,rfl,rfl,by go_num,by go_num,by go_num,?_,Hsd.out,by simp;omega,by rw[←List.append_assoc,←Hpq.out,Hsl.out];simp,Hz3.out,?_,?_,rfl⟩
         ·have:=Hmn.out;omega
         ·rw[←Hrf.out];simp only[rfF];rw[if_neg Hcn.out,if_neg (by first|exact fun x=>H48.out x.1|exact fun x=>Hn0.out x.2),if_pos Hmn.out.2]
         ·exact HI.out.dig (by omega) (by first|exact fun x=>H48.out (by omega)|exact fun x=>Hn0.out x.2) Hmn.out.2
       ·have Hmn:=xhd (show mm=19∧¬nd<19 by have:=Hmm.out;omega)
        clear hMd;go_wp2_with fail
        go_roundg l3.length
        case measure=>rw[Hg.out];simp
        case rel =>
         refine⟨q++[c3],l3,M,nd+1,mm,dp,d'+1,p',(if p'==0 then a'+1 else a'),tr,sd,true,rfl,by go_num,rfl,by rw[←List.append_assoc,←Hpq.out];simp,rfl,rfl,rfl,by go_num,by go_num,by go_num,?_,Hsd.out,by simp;omega,by rw[←List.append_assoc,←Hpq.out,Hsl.out];simp,Hz3.out,?_,?_,rfl⟩
         ·have:=Hmn.out;omega
         ·rw[←Hrf.out];simp only[rfF];rw[if_neg Hcn.out,if_neg (by first|exact fun x=>H48.out x.1|exact fun x=>Hn0.out x.2),if_neg Hmn.out.2,if_pos H48.out]
         ·exact HI.out.more Hmn.out.2
     ·have hb48:((c3.toNat:Int)==48)=false:=by simp;omega
      have hb48n:((c3.toNat:Int) != 48)=true:=by simp;omega
      have H48:=xhd h48;clear h48
      by_cases h19:mm<19
      ·have hM18:=hMd h19
       have Hmn:=xhd (show mm=nd∧nd<19 by have:=Hmm.out;omega);clear hMd;go_wp2_with fail
       go_roundg l3.length
       case measure=>rw[Hg.out];simp
       case rel =>
        refine⟨q++[c3],l3,M*10+(c3.toNat-48),nd+1,mm+1,dp,d'+1,p',(if p'==0 then a'+1 else a'),tr,sd,true,rfl,by go_num,rfl,by rw[←List.append_assoc,←Hpq.out];simp,rfl,rfl,rfl,by go_num,by go_num,by go_num,?_,Hsd.out,by simp;omega,by rw[←List.append_assoc,←Hpq.out,Hsl.out];simp,Hz3.out,?_,?_,rfl⟩
        ·have:=Hmn.out;omega
        ·rw[←Hrf.out];simp only[rfF];rw[if_neg Hcn.out,if_neg (by first|exact fun x=>H48.out x.1|exact fun x=>Hn0.out x.2),if_pos Hmn.out.2]
        ·exact HI.out.dig (by omega) (by first|exact fun x=>H48.out (by omega)|exact fun x=>Hn0.out x.2) Hmn.out.2
      ·have Hmn:=xhd (show mm=19∧¬nd<19 by have:=Hmm.out;omega)
       clear hMd;go_wp2_with fail
       go_roundg l3.length
       case measure=>rw[Hg.out];simp
       case rel =>
        refine⟨q++[c3],l3,M,nd+1,mm,dp,d'+1,p',(if p'==0 then a'+1 else a'),true,sd,true,rfl,by go_num,rfl,by rw[←List.append_assoc,←Hpq.out];simp,rfl,rfl,rfl,by go_num,by go_num,by go_num,?_,Hsd.out,by simp;omega,by rw[←List.append_assoc,←Hpq.out,Hsl.out];simp,Hz3.out,?_,?_,rfl⟩
        ·have:=Hmn.out;omega
        ·rw[←Hrf.out];simp only[rfF];rw[if_neg Hcn.out,if_neg (by first|exact fun x=>H48.out x.1|exact fun x=>Hn0.out x.2),if_neg Hmn.out.2,if_neg H48.out]
        ·exact HI.out.more Hmn.out.2
    ·have h46:((c3.toNat:Int)==46)=true:=by simp;omega
     have hp1:=scan_mono _ _ _ _ _ _ _ hz3;obtain rfl:sd=false:=by rw[hsd];simp;omega
     obtain⟨Hz3,Hsg,HZ1⟩:=xh3 hz3 hsg hz1;clear hz3 hsg
     clear hsd hsm hz1;have hp9:p'=0:=by omega
     have Hp9:=xhd hp9;clear hp1 hp9;go_wp2_with fail
     go_roundg l3.length
     case measure=>rw[Hg.out];simp
     case rel=>exact⟨q++[c3],l3,M,nd,mm,nd,d',p'+1,a',tr,true,sg,rfl,rfl,rfl,by rw[←List.append_assoc,←Hpq.out];simp,rfl,rfl,rfl,rfl,rfl,rfl,Hmm.out,by rw[Hp9.out];rfl,Hsg.out,by rw[←List.append_assoc,←Hpq.out,Hsl.out];simp,Hz3.out,by rw[←Hrf.out];simp only[rfF];rw[if_pos HZ1.out],HI.out.point Hp9.out,rfl⟩
theorem rf_b (w : World)(s : ByteArray)(c : UInt8)(l1 : By)(d a : Int)(hs : s.data.toList = [43] ++ c :: l1)(hst : numStrip ([43] ++ c :: l1) = c :: l1)(hsc : numScan (c :: l1) 0 0 0 = some (d, 1, a))(hd1 : 1 ≤ d)(hd2 : d ≤ 60)(ha : a ≤ 14)(hs2 : s.size ≤ 1000) :
  Calls Tryz.prog 143 #[.string s] w fun e w'=>e=rfRet ([43]++c::l1) s.size∧w'=w:=by
 generalize hR:rfRet ([43]++c::l1) s.size=R;have HR:=xhd hR;clear hR
 obtain⟨hc1,hc2⟩:=scan_dig hsc;obtain⟨Hsc,Hst⟩:=xh2 hsc hst;clear hsc hst
 obtain⟨hlt,hcc,hd,hc0,_⟩:=at_byte (pre:=[]) (c:=43) (l:=c::l1) (by simpa using hs);obtain⟨hlt1,hcc1,_,_⟩:=at_byte1 (pre:=[]) (c:=43) (d:=c) (l:=l1) (by simpa using hs);simp only[List.length_nil,Nat.zero_add]at hlt1 hcc1;simp only[List.length_nil]at hlt hcc hd;have h1:¬s=ByteArray.empty:=by intro e;rw[e]at hlt;exact absurd hlt (by decide)
 have Hs:=xhd hs;clear hs
 go_enter Tryz.func143,Tryz.ntmps143;go_wp2_with fail
 go_step3
 go_upto_region 12 with (fail)
 go_cut [54] from 21 (fun t54 wr=>t54=.bool false∧w=wr)
 case first =>
  by_cases hl2:3<s.size
  ·by_cases h48:c.toNat=48
   ·have hb:((c.toNat:Int)==48)=true:=by simp;omega
    obtain⟨c2,l2,rfl⟩:∃c2 l2,l1=c2::l2:=by
     cases l1 with
     | nil=>have:=congrArg List.length Hs.out;simp at this;omega
     | cons c2 l2=>exact⟨c2,l2,rfl⟩
    have hc22:46≤c2.toNat∧c2.toNat≤57:=by
     rcases scan_cons Hsc.out with⟨_,_,h⟩|⟨_,h⟩<;>exact scan_dig h
    obtain⟨hlt2,hcc2,_,_⟩:=at_byte2 (pre:=[]) (c:=43) (d:=c) (f:=c2) (l:=l2) (by simpa using Hs.out);simp only[List.length_nil,Nat.zero_add]at hlt2 hcc2;have hlow:=(low_bits c2.toNat (by omega) (by omega)).1;clear h48;go_wp2_with fail
    refine(low_any _ _).mono ?_;rintro e w1⟨rfl,hw⟩;subst w1;go_wp2_with fail
    go_meet
    case rel=>exact⟨rfl,rfl⟩
   ·have hb:((c.toNat:Int)==48)=false:=by simp;omega
    clear h48;go_wp2_with fail
    go_meet
    case rel=>exact⟨rfl,rfl⟩
  ·go_wp2_with fail
   go_meet
   case rel=>exact⟨rfl,rfl⟩
 case rest =>
  obtain⟨rfl,rfl⟩:=hcut;go_wp2_with fail
  go_step3;go_wp2_with fail
  have Hl0:=xhd (show (c::l1).length=(c::l1).length from rfl)
  go_loopg [2,5,7,9,13,14,15,16,17] ((c::l1).length) (fun g t2 t5 t7 t9 t13 t14 t15 t16 t17 wr=>∃(q l':By) (M nd mm:Nat) (dp d' p' a':Int) (tr sd sg:Bool),g=l'.length∧t2=.int .u64 M∧t5=.bool tr∧t7=.int .i64 (([43]++q:By).length:Nat)∧t9=.bool false∧t13=.bool sd∧t14=.bool sg∧t15=.int .i64 nd∧t16=.int .i64 mm∧t17=.int .i64 dp∧mm=min nd 19∧sd=(p'==1)∧sg=decide (0<d') ∧
   s.data.toList=([43]++q)++l'∧numScan l' d' p' a'=some (d,1,a)∧rfF l' M nd dp tr=rfF (c::l1) 0 0 0 false∧RfI M nd dp tr d' p' a'∧w=wr)
  case atStart=>exact⟨[],c::l1,0,0,0,0,0,0,0,false,false,false,Hl0.out,rfl,rfl,rfl,rfl,rfl,rfl,rfl,rfl,rfl,by simp,by simp,by simp,by simpa using Hs.out,Hsc.out,rfl,RfI.start,rfl⟩
  case round =>
   clear Hl0;obtain⟨q,l',M,nd,mm,dp,d',p',a',tr,sd,sg,hg,rfl,rfl,rfl,rfl,rfl,rfl,rfl,rfl,rfl,hmm,hsd,hsg,hsl,hsc',hrf,hI,rfl⟩:=hrel;have hsm:=scan_mono _ _ _ _ _ _ _ hsc';obtain⟨pq,hpq⟩:∃pq,pq=[43]++q:=⟨_,rfl⟩;rw[←hpq]at hsl⊢;have hndb:nd≤60:=by have:=hI.nd_d;omega
   have hdpb1:-60≤dp:=by have:=hI.lo;omega
   have hdpb2:dp≤14:=by have:=hI.hi;omega
   have hp0:=hI.p0;have hmm9:mm≤19:=by omega
   obtain⟨Hpq,Hg,Hrf,HI,Hsc',Hmm⟩:=xh6 hpq hg hrf hI hsc' hmm;clear hpq hg hrf hI hsc' hmm
   cases l' with
   | nil =>
    have hlt9:¬pq.length<s.size:=by have:=congrArg List.length hsl;simp at this;omega
    have hpqs:(pq.length:Int)=(s.size:Int):=by have:=congrArg List.length hsl;simp at this;omega
    have hend:d'=d∧p'=1:=by have:=Hsc'.out;simp[numScan]at this;omega
    obtain rfl:sd=true:=by rw[hsd];simp;omega
    obtain rfl:sg=true:=by rw[hsg];simp;omega
    obtain⟨Hsl,Hpqs⟩:=xh2 hsl hpqs;clear hsl hpqs
    clear hsd hsg hsm hend
    by_cases hM:M=0
    ·have hMb:((M:Int) != 0)=false:=by simp;omega
     have HM:=xhd hM;clear hM;go_wp2_with fail
     rw[Exit.noGoto_ret];refine bodyPost_ret (v:=.tuple #[.int .u64 M,.int .i64 (0),.bool false,.bool tr,.bool false,.int .i64 pq.length,.bool true]) (by simp[results,Tryz.results143,go_sem]) rfl ⟨?_,rfl⟩;rw[←HR.out];unfold rfRet;rw[Hst.out,←Hrf.out];have hc45:((c.toNat:Int)==45)=false:=by simp;omega
     simp[rfF,headIs,hc45,HM.out,Hmm.out,Hpqs.out]
    ·have hMb:((M:Int) != 0)=true:=by simp;omega
     have HM:=xhd hM;clear hM;go_wp2_with fail
     rw[Exit.noGoto_ret];refine bodyPost_ret (v:=.tuple #[.int .u64 M,.int .i64 (dp-mm),.bool false,.bool tr,.bool false,.int .i64 pq.length,.bool true]) (by simp[results,Tryz.results143,go_sem]) rfl ⟨?_,rfl⟩;rw[←HR.out];unfold rfRet;rw[Hst.out,←Hrf.out];have hc45:((c.toNat:Int)==45)=false:=by simp;omega
     simp[rfF,headIs,hc45,HM.out,Hmm.out,Hpqs.out]
   | cons c3 l3 =>
    obtain⟨hlt3,hc3,hd3,hr3,hr4⟩:=at_byte hsl;have Hsl:=xhd hsl;clear hsl
    have h95:((c3.toNat:Int)==95)=false:=by have:=scan_dig Hsc'.out;simp;omega
    rcases scan_cons Hsc'.out with⟨hz1,hz2,hz3⟩|⟨hz1,hz3⟩
    ·have h46:((c3.toNat:Int)==46)=false:=by rcases scan_cons Hsc'.out with h|h;simp;omega;simp;omega
     have hMd:mm<19→M≤999999999999999999:=by
      intro h;have h1:=HI.out.m;have h2:=Hmm.out;have h3:10^min nd 19≤10^18:=pow10_le (by omega);have h4:(10:Nat)^18=1000000000000000000:=by decide
      omega
     have hd8:=HI.out.nd_d;obtain⟨Hz3,Hsd⟩:=xh2 hz3 hsd;clear hz3 hsd
     clear hsg hsm;have Hcn:=xhd (show ¬c3.toNat=46 by omega)
     by_cases h48:c3.toNat=48
     ·have hb48:((c3.toNat:Int)==48)=true:=by simp;omega
      have hb48n:((c3.toNat:Int) != 48)=false:=by simp;omega
      have H48:=xhd h48;clear h48
      by_cases hn0:nd=0
      ·have hbn:((nd:Int)==0)=true:=by simp;omega
       have Hn0:=xhd hn0;clear hn0 hMd;go_wp2_with fail
       go_roundg l3.length
       case measure=>rw[Hg.out];simp
       case rel =>
        refine⟨q++[c3],l3,M,nd,mm,dp-1,d'+1,p',(if p'==0 then a'+1 else a'),tr,sd,true,rfl,by go_num,rfl,by rw[←List.append_assoc,←Hpq.out];simp,rfl,rfl,rfl,by go_num,by go_num,by go_num,?_,Hsd.out,by simp;omega,by rw[←List.append_assoc,←Hpq.out,Hsl.out];simp,Hz3.out,?_,?_,rfl⟩
        ·exact Hmm.out
        ·rw[←Hrf.out];simp only[rfF];rw[if_neg Hcn.out,if_pos ⟨H48.out,Hn0.out⟩]
        ·exact HI.out.zero Hn0.out
      ·have hbn:((nd:Int)==0)=false:=by simp;omega
       have Hn0:=xhd hn0;clear hn0
       by_cases h19:mm<19
       ·have hM18:=hMd h19
        have Hmn:=xhd (show mm=nd∧nd<19 by have:=Hmm.out;omega);clear hMd;go_wp2_with fail
        go_roundg l3.length
        case measure=>rw[Hg.out];simp
        case rel =>
         refine⟨q++[c3],l3,M*10+(c3.toNat-48),nd+1,mm+1,dp,d'+1,p',(if p'==0 then a'+1 else a'),tr,sd,true,rfl,by go_num,rfl,by rw[←List.append_assoc,←Hpq.out];simp,rfl,rfl,rfl,by go_num,by go_num,by go_num,?_,Hsd.out,by simp;omega,by rw[←List.append_assoc,←Hpq.out,Hsl.out];simp,Hz3.out,?_,?_,rfl⟩
         ·have:=Hmn.out;omega
         ·rw[←Hrf.out];simp only[rfF];rw[if_neg Hcn.out,if_neg (by first|exact fun x=>H48.out x.1|exact fun x=>Hn0.out x.2),if_pos Hmn.out.2]
         ·exact HI.out.dig (by omega) (by first|exact fun x=>H48.out (by omega)|exact fun x=>Hn0.out x.2) Hmn.out.2
       ·have Hmn:=xhd (show mm=19∧¬nd<19 by have:=Hmm.out;omega)
        clear hMd;go_wp2_with fail
        go_roundg l3.length
        case measure=>rw[Hg.out];simp
        case rel =>
         refine⟨q++[c3],l3,M,nd+1,mm,dp,d'+1,p',(if p'==0 then a'+1 else a'),tr,sd,true,rfl,by go_num,rfl,by rw[←List.append_assoc,←Hpq.out];simp,rfl,rfl,rfl,by go_num,by go_num,by go_num,?_,Hsd.out,by simp;omega,by rw[←List.append_assoc,←Hpq.out,Hsl.out];simp,Hz3.out,?_,?_,rfl⟩
         ·have:=Hmn.out;omega
         ·rw[←Hrf.out];simp only[rfF];rw[if_neg Hcn.out,if_neg (by first|exact fun x=>H48.out x.1|exact fun x=>Hn0.out x.2),if_neg Hmn.out.2,if_pos H48.out]
         ·exact HI.out.more Hmn.out.2
     ·have hb48:((c3.toNat:Int)==48)=false:=by simp;omega
      have hb48n:((c3.toNat:Int) != 48)=true:=by simp;omega
      have H48:=xhd h48;clear h48
      by_cases h19:mm<19
      ·have hM18:=hMd h19
       have Hmn:=xhd (show mm=nd∧nd<19 by have:=Hmm.out;omega);clear hMd;go_wp2_with fail
       go_roundg l3.length
       case measure=>rw[Hg.out];simp
       case rel =>
        refine⟨q++[c3],l3,M*10+(c3.toNat-48),nd+1,mm+1,dp,d'+1,p',(if p'==0 then a'+1 else a'),tr,sd,true,rfl,by go_num,rfl,by rw[←List.append_assoc,←Hpq.out];simp,rfl,rfl,rfl,by go_num,by go_num,by go_num,?_,Hsd.out,by simp;omega,by rw[←List.append_assoc,←Hpq.out,Hsl.out];simp,Hz3.out,?_,?_,rfl⟩
        ·have:=Hmn.out;omega
        ·rw[←Hrf.out];simp only[rfF];rw[if_neg Hcn.out,if_neg (by first|exact fun x=>H48.out x.1|exact fun x=>Hn0.out x.2),if_pos Hmn.out.2]
        ·exact HI.out.dig (by omega) (by first|exact fun x=>H48.out (by omega)|exact fun x=>Hn0.out x.2) Hmn.out.2
      ·have Hmn:=xhd (show mm=19∧¬nd<19 by have:=Hmm.out;omega)
       clear hMd;go_wp2_with fail
       go_roundg l3.length
       case measure=>rw[Hg.out];simp
       case rel =>
        refine⟨q++[c3],l3,M,nd+1,mm,dp,d'+1,p',(if p'==0 then a'+1 else a'),true,sd,true,rfl,by go_num,rfl,by rw[←List.append_assoc,←Hpq.out];simp,rfl,rfl,rfl,by go_num,by go_num,by go_num,?_,Hsd.out,by simp;omega,by rw[←List.append_assoc,←Hpq.out,Hsl.out];simp,Hz3.out,?_,?_,rfl⟩
        ·have:=Hmn.out;omega
        ·rw[←Hrf.out];simp only[rfF];rw[if_neg Hcn.out,if_neg (by first|exact fun x=>H48.out x.1|exact fun x=>Hn0.out x.2),if_neg Hmn.out.2,if_neg H48.out]
        ·exact HI.out.more Hmn.out.2
    ·have h46:((c3.toNat:Int)==46)=true:=by simp;omega
     have hp1:=scan_mono _ _ _ _ _ _ _ hz3;obtain rfl:sd=false:=by rw[hsd];simp;omega
     obtain⟨Hz3,Hsg,HZ1⟩:=xh3 hz3 hsg hz1;clear hz3 hsg
     clear hsd hsm hz1;have hp9:p'=0:=by omega
     have Hp9:=xhd hp9;clear hp1 hp9;go_wp2_with fail
     go_roundg l3.length
     case measure=>rw[Hg.out];simp
     case rel=>exact⟨q++[c3],l3,M,nd,mm,nd,d',p'+1,a',tr,true,sg,rfl,rfl,rfl,by rw[←List.append_assoc,←Hpq.out];simp,rfl,rfl,rfl,rfl,rfl,rfl,Hmm.out,by rw[Hp9.out];rfl,Hsg.out,by rw[←List.append_assoc,←Hpq.out,Hsl.out];simp,Hz3.out,by rw[←Hrf.out];simp only[rfF];rw[if_pos HZ1.out],HI.out.point Hp9.out,rfl⟩
theorem rf_c (w : World)(s : ByteArray)(c : UInt8)(l1 : By)(d a : Int)(hs : s.data.toList = [45] ++ c :: l1)(hst : numStrip ([45] ++ c :: l1) = c :: l1)(hsc : numScan (c :: l1) 0 0 0 = some (d, 1, a))(hd1 : 1 ≤ d)(hd2 : d ≤ 60)(ha : a ≤ 14)(hs2 : s.size ≤ 1000) :
  Calls Tryz.prog 143 #[.string s] w fun e w'=>e=rfRet ([45]++c::l1) s.size∧w'=w:=by
 generalize hR:rfRet ([45]++c::l1) s.size=R;have HR:=xhd hR;clear hR
 obtain⟨hc1,hc2⟩:=scan_dig hsc;obtain⟨Hsc,Hst⟩:=xh2 hsc hst;clear hsc hst
 obtain⟨hlt,hcc,hd,hc0,_⟩:=at_byte (pre:=[]) (c:=45) (l:=c::l1) (by simpa using hs);obtain⟨hlt1,hcc1,_,_⟩:=at_byte1 (pre:=[]) (c:=45) (d:=c) (l:=l1) (by simpa using hs);simp only[List.length_nil,Nat.zero_add]at hlt1 hcc1;simp only[List.length_nil]at hlt hcc hd;have h1:¬s=ByteArray.empty:=by intro e;rw[e]at hlt;exact absurd hlt (by decide)
 have Hs:=xhd hs;clear hs
 go_enter Tryz.func143,Tryz.ntmps143;go_wp2_with fail
 go_step3
 go_upto_region 12 with (fail)
 go_cut [54] from 21 (fun t54 wr=>t54=.bool false∧w=wr)
 case first =>
  by_cases hl2:3<s.size
  ·by_cases h48:c.toNat=48
   ·have hb:((c.toNat:Int)==48)=true:=by simp;omega
    obtain⟨c2,l2,rfl⟩:∃c2 l2,l1=c2::l2:=by
     cases l1 with
     | nil=>have:=congrArg List.length Hs.out;simp at this;omega
     | cons c2 l2=>exact⟨c2,l2,rfl⟩
    have hc22:46≤c2.toNat∧c2.toNat≤57:=by
     rcases scan_cons Hsc.out with⟨_,_,h⟩|⟨_,h⟩<;>exact scan_dig h
    obtain⟨hlt2,hcc2,_,_⟩:=at_byte2 (pre:=[]) (c:=45) (d:=c) (f:=c2) (l:=l2) (by simpa using Hs.out);simp only[List.length_nil,Nat.zero_add]at hlt2 hcc2;have hlow:=(low_bits c2.toNat (by omega) (by omega)).1;clear h48;go_wp2_with fail
    refine(low_any _ _).mono ?_;rintro e w1⟨rfl,hw⟩;subst w1;go_wp2_with fail
    go_meet
    case rel=>exact⟨rfl,rfl⟩
   ·have hb:((c.toNat:Int)==48)=false:=by simp;omega
    clear h48;go_wp2_with fail
    go_meet
    case rel=>exact⟨rfl,rfl⟩
  ·go_wp2_with fail
   go_meet
   case rel=>exact⟨rfl,rfl⟩
 case rest =>
  obtain⟨rfl,rfl⟩:=hcut;go_wp2_with fail
  go_step3;go_wp2_with fail
  have Hl0:=xhd (show (c::l1).length=(c::l1).length from rfl)
  go_loopg [2,5,7,9,13,14,15,16,17] ((c::l1).length) (fun g t2 t5 t7 t9 t13 t14 t15 t16 t17 wr=>∃(q l':By) (M nd mm:Nat) (dp d' p' a':Int) (tr sd sg:Bool),g=l'.length∧t2=.int .u64 M∧t5=.bool tr∧t7=.int .i64 (([45]++q:By).length:Nat)∧t9=.bool false∧t13=.bool sd∧t14=.bool sg∧t15=.int .i64 nd∧t16=.int .i64 mm∧t17=.int .i64 dp∧mm=min nd 19∧sd=(p'==1)∧sg=decide (0<d') ∧
   s.data.toList=([45]++q)++l'∧numScan l' d' p' a'=some (d,1,a)∧rfF l' M nd dp tr=rfF (c::l1) 0 0 0 false∧RfI M nd dp tr d' p' a'∧w=wr)
  case atStart=>exact⟨[],c::l1,0,0,0,0,0,0,0,false,false,false,Hl0.out,rfl,rfl,rfl,rfl,rfl,rfl,rfl,rfl,rfl,by simp,by simp,by simp,by simpa using Hs.out,Hsc.out,rfl,RfI.start,rfl⟩
  case round =>
   clear Hl0;obtain⟨q,l',M,nd,mm,dp,d',p',a',tr,sd,sg,hg,rfl,rfl,rfl,rfl,rfl,rfl,rfl,rfl,rfl,hmm,hsd,hsg,hsl,hsc',hrf,hI,rfl⟩:=hrel;have hsm:=scan_mono _ _ _ _ _ _ _ hsc';obtain⟨pq,hpq⟩:∃pq,pq=[45]++q:=⟨_,rfl⟩;rw[←hpq]at hsl⊢;have hndb:nd≤60:=by have:=hI.nd_d;omega
   have hdpb1:-60≤dp:=by have:=hI.lo;omega
   have hdpb2:dp≤14:=by have:=hI.hi;omega
   have hp0:=hI.p0;have hmm9:mm≤19:=by omega
   obtain⟨Hpq,Hg,Hrf,HI,Hsc',Hmm⟩:=xh6 hpq hg hrf hI hsc' hmm;clear hpq hg hrf hI hsc' hmm
   cases l' with
   | nil =>
    have hlt9:¬pq.length<s.size:=by have:=congrArg List.length hsl;simp at this;omega
    have hpqs:(pq.length:Int)=(s.size:Int):=by have:=congrArg List.length hsl;simp at this;omega
    have hend:d'=d∧p'=1:=by have:=Hsc'.out;simp[numScan]at this;omega
    obtain rfl:sd=true:=by rw[hsd];simp;omega
    obtain rfl:sg=true:=by rw[hsg];simp;omega
    obtain⟨Hsl,Hpqs⟩:=xh2 hsl hpqs;clear hsl hpqs
    clear hsd hsg hsm hend
    by_cases hM:M=0
    ·have hMb:((M:Int) != 0)=false:=by simp;omega
     have HM:=xhd hM;clear hM;go_wp2_with fail
     rw[Exit.noGoto_ret];refine bodyPost_ret (v:=.tuple #[.int .u64 M,.int .i64 (0),.bool true,.bool tr,.bool false,.int .i64 pq.length,.bool true]) (by simp[results,Tryz.results143,go_sem]) rfl ⟨?_,rfl⟩;rw[←HR.out];unfold rfRet;rw[Hst.out,←Hrf.out];have hc45:((c.toNat:Int)==45)=false:=by simp;omega
     simp[rfF,headIs,hc45,HM.out,Hmm.out,Hpqs.out]
    ·have hMb:((M:Int) != 0)=true:=by simp;omega
     have HM:=xhd hM;clear hM;go_wp2_with fail
     rw[Exit.noGoto_ret];refine bodyPost_ret (v:=.tuple #[.int .u64 M,.int .i64 (dp-mm),.bool true,.bool tr,.bool false,.int .i64 pq.length,.bool true]) (by simp[results,Tryz.results143,go_sem]) rfl ⟨?_,rfl⟩;rw[←HR.out];unfold rfRet;rw[Hst.out,←Hrf.out];have hc45:((c.toNat:Int)==45)=false:=by simp;omega
     simp[rfF,headIs,hc45,HM.out,Hmm.out,Hpqs.out]
   | cons c3 l3 =>
    obtain⟨hlt3,hc3,hd3,hr3,hr4⟩:=at_byte hsl;have Hsl:=xhd hsl;clear hsl
    have h95:((c3.toNat:Int)==95)=false:=by have:=scan_dig Hsc'.out;simp;omega
    rcases scan_cons Hsc'.out with⟨hz1,hz2,hz3⟩|⟨hz1,hz3⟩
    ·have h46:((c3.toNat:Int)==46)=false:=by rcases scan_cons Hsc'.out with h|h;simp;omega;simp;omega
     have hMd:mm<19→M≤999999999999999999:=by
      intro h;have h1:=HI.out.m;have h2:=Hmm.out;have h3:10^min nd 19≤10^18:=pow10_le (by omega);have h4:(10:Nat)^18=1000000000000000000:=by decide
      omega
     have hd8:=HI.out.nd_d;obtain⟨Hz3,Hsd⟩:=xh2 hz3 hsd;clear hz3 hsd
     clear hsg hsm;have Hcn:=xhd (show ¬c3.toNat=46 by omega)
     by_cases h48:c3.toNat=48
     ·have hb48:((c3.toNat:Int)==48)=true:=by simp;omega
      have hb48n:((c3.toNat:Int) != 48)=false:=by simp;omega
      have H48:=xhd h48;clear h48
      by_cases hn0:nd=0
      ·have hbn:((nd:Int)==0)=true:=by simp;omega
       have Hn0:=xhd hn0;clear hn0 hMd;go_wp2_with fail
       go_roundg l3.length
       case measure=>rw[Hg.out];simp
       case rel =>
        refine⟨q++[c3],l3,M,nd,mm,dp-1,d'+1,p',(if p'==0 then a'+1 else a'),tr,sd,true,rfl,by go_num,rfl,by rw[←List.append_assoc,←Hpq.out];simp,rfl,rfl,rfl,by go_num,by go_num,by go_num,?_,Hsd.out,by simp;omega,by rw[←List.append_assoc,←Hpq.out,Hsl.out];simp,Hz3.out,?_,?_,rfl⟩
        ·exact Hmm.out
        ·rw[←Hrf.out];simp only[rfF];rw[if_neg Hcn.out,if_pos ⟨H48.out,Hn0.out⟩]
        ·exact HI.out.zero Hn0.out
      ·have hbn:((nd:Int)==0)=false:=by simp;omega
       have Hn0:=xhd hn0;clear hn0
       by_cases h19:mm<19
       ·have hM18:=hMd h19
        have Hmn:=xhd (show mm=nd∧nd<19 by have:=Hmm.out;omega);clear hMd;go_wp2_with fail
        go_roundg l3.length
        case measure=>rw[Hg.out];simp
        case rel =>
         refine⟨q++[c3],l3,M*10+(c3.toNat-48),nd+1,mm+1,dp,d'+1,p',(if p'==0 then a'+1 else a'),tr,sd,true,rfl,by go_num,rfl,by rw[←List.append_assoc,←Hpq.out];simp,rfl,rfl,rfl,by go_num,by go_num,by go_num,?_,Hsd.out,by simp;omega,by rw[←List.append_assoc,←Hpq.out,Hsl.out];simp,Hz3.out,?_,?_,rfl⟩
         ·have:=Hmn.out;omega
         ·rw[←Hrf.out];simp only[rfF];rw[if_neg Hcn.out,if_neg (by first|exact fun x=>H48.out x.1|exact fun x=>Hn0.out x.2),if_pos Hmn.out.2]
         ·exact HI.out.dig (by omega) (by first|exact fun x=>H48.out (by omega)|exact fun x=>Hn0.out x.2) Hmn.out.2
       ·have Hmn:=xhd (show mm=19∧¬nd<19 by have:=Hmm.out;omega)
        clear hMd;go_wp2_with fail
        go_roundg l3.length
        case measure=>rw[Hg.out];simp
        case rel =>
         refine⟨q++[c3],l3,M,nd+1,mm,dp,d'+1,p',(if p'==0 then a'+1 else a'),tr,sd,true,rfl,by go_num,rfl,by rw[←List.append_assoc,←Hpq.out];simp,rfl,rfl,rfl,by go_num,by go_num,by go_num,?_,Hsd.out,by simp;omega,by rw[←List.append_assoc,←Hpq.out,Hsl.out];simp,Hz3.out,?_,?_,rfl⟩
         ·have:=Hmn.out;omega
         ·rw[←Hrf.out];simp only[rfF];rw[if_neg Hcn.out,if_neg (by first|exact fun x=>H48.out x.1|exact fun x=>Hn0.out x.2),if_neg Hmn.out.2,if_pos H48.out]
         ·exact HI.out.more Hmn.out.2
     ·have hb48:((c3.toNat:Int)==48)=false:=by simp;omega
      have hb48n:((c3.toNat:Int) != 48)=true:=by simp;omega
      have H48:=xhd h48;clear h48
      by_cases h19:mm<19
      ·have hM18:=hMd h19
       have Hmn:=xhd (show mm=nd∧nd<19 by have:=Hmm.out;omega);clear hMd;go_wp2_with fail
       go_roundg l3.length
       case measure=>rw[Hg.out];simp
       case rel =>
        refine⟨q++[c3],l3,M*10+(c3.toNat-48),nd+1,mm+1,dp,d'+1,p',(if p'==0 then a'+1 else a'),tr,sd,true,rfl,by go_num,rfl,by rw[←List.append_assoc,←Hpq.out];simp,rfl,rfl,rfl,by go_num,by go_num,by go_num,?_,Hsd.out,by simp;omega,by rw[←List.append_assoc,←Hpq.out,Hsl.out];simp,Hz3.out,?_,?_,rfl⟩
        ·have:=Hmn.out;omega
        ·rw[←Hrf.out];simp only[rfF];rw[if_neg Hcn.out,if_neg (by first|exact fun x=>H48.out x.1|exact fun x=>Hn0.out x.2),if_pos Hmn.out.2]
        ·exact HI.out.dig (by omega) (by first|exact fun x=>H48.out (by omega)|exact fun x=>Hn0.out x.2) Hmn.out.2
      ·have Hmn:=xhd (show mm=19∧¬nd<19 by have:=Hmm.out;omega)
       clear hMd;go_wp2_with fail
       go_roundg l3.length
       case measure=>rw[Hg.out];simp
       case rel =>
        refine⟨q++[c3],l3,M,nd+1,mm,dp,d'+1,p',(if p'==0 then a'+1 else a'),true,sd,true,rfl,by go_num,rfl,by rw[←List.append_assoc,←Hpq.out];simp,rfl,rfl,rfl,by go_num,by go_num,by go_num,?_,Hsd.out,by simp;omega,by rw[←List.append_assoc,←Hpq.out,Hsl.out];simp,Hz3.out,?_,?_,rfl⟩
        ·have:=Hmn.out;omega
        ·rw[←Hrf.out];simp only[rfF];rw[if_neg Hcn.out,if_neg (by first|exact fun x=>H48.out x.1|exact fun x=>Hn0.out x.2),if_neg Hmn.out.2,if_neg H48.out]
        ·exact HI.out.more Hmn.out.2
    ·have h46:((c3.toNat:Int)==46)=true:=by simp;omega
     have hp1:=scan_mono _ _ _ _ _ _ _ hz3;obtain rfl:sd=false:=by rw[hsd];simp;omega
     obtain⟨Hz3,Hsg,HZ1⟩:=xh3 hz3 hsg hz1;clear hz3 hsg
     clear hsd hsm hz1;have hp9:p'=0:=by omega
     have Hp9:=xhd hp9;clear hp1 hp9;go_wp2_with fail
     go_roundg l3.length
     case measure=>rw[Hg.out];simp
     case rel=>exact⟨q++[c3],l3,M,nd,mm,nd,d',p'+1,a',tr,true,sg,rfl,rfl,rfl,by rw[←List.append_assoc,←Hpq.out];simp,rfl,rfl,rfl,rfl,rfl,rfl,Hmm.out,by rw[Hp9.out];rfl,Hsg.out,by rw[←List.append_assoc,←Hpq.out,Hsl.out];simp,Hz3.out,by rw[←Hrf.out];simp only[rfF];rw[if_pos HZ1.out],HI.out.point Hp9.out,rfl⟩
theorem take_set_at {A:By}{n:Nat}(h:n<A.length)(c:UInt8):(A.set n c).take (n+1)=A.take n++[c]:=by
 rw[List.set_eq_take_append_cons_drop,if_pos h,List.take_append,List.length_take,Nat.min_eq_left (by omega)];simp;rw[List.take_of_length_le (by simp;omega)]
theorem DecN.digit {w:World}{b N:Nat}{dp:Int}{neg tr:Bool}(h:DecN w b N dp neg tr){c:UInt8}(h1:48≤c.toNat)(h2:c.toNat≤57)(h0:¬(c.toNat=48∧N=0))(h8:numD N≤799) :
  DecN ((w.setCell ⟨b,numD N,none⟩ (.int .u8 (c.toNat:Int))).setCell ⟨b,800,none⟩ (.int .i64 ((numD N:Nat)+1))) b (10*N+(c.toNat-48)) dp neg tr:=by
 obtain⟨h3,A,hD,hds,hdv⟩:=h;have hd:=numD_dig (N:=N) (d:=c.toNat-48) (by omega) (fun x=>h0 ⟨by omega,x.2⟩);have hl:=hD.1;have ht:=take_set_at (A:=A) (n:=numD N) (by omega) c;refine⟨by omega,A.set (numD N) c,?_,?_,?_⟩
 ·have:=(hD.setDig (i:=numD N) (by omega) c).setNd (numD N+1)
  rw[hd];simpa using this
 ·rw[hd,ht];exact isDs_snoc hds h1 h2
 ·rw[hd,ht,dv_snoc,hdv]
theorem DecN.setDp {w:World}{b N:Nat}{dp:Int}{neg tr:Bool}(h:DecN w b N dp neg tr)(n:Int):DecN (w.setCell ⟨b,801,none⟩ (.int .i64 n)) b N n neg tr:=by
 obtain⟨h3,A,hD,hds,hdv⟩:=h;exact⟨h3,A,hD.setDp n,hds,hdv⟩
theorem DecN.drewN {w:World}{b N:Nat}{dp:Int}{neg tr:Bool}(h:DecN w b N dp neg tr)(n:Nat):DecN (w.drewN n) b N dp neg tr:=h.heap rfl
theorem DecN.zero {w:World}{b:Nat}{A:By}{neg tr:Bool}{dp:Int}(h:DecAt w b A 0 dp neg tr):DecN w b 0 dp neg tr:=by
 refine⟨by rw[numD_zero];omega,A,by rw[numD_zero];exact h,?_,?_⟩
 ·rw[numD_zero];intro x hx;cases hx
 ·rw[numD_zero];simp[dv]
theorem set_a (w:World)(b:Nat)(A:By)(s:ByteArray)(c:UInt8)(l1:By)(d a:Int)(hD:DecAt w b A 0 0 false false)(hs:s.data.toList=[]++c::l1)(hsc:numScan (c::l1) 0 0 0=some (d,1,a))(hd1:1≤d)(hd2:d≤60)(ha:a≤14)(hs2:s.size≤1000) :
  Calls Tryz.prog 149 #[.pointer (some ⟨b,0,none⟩),.string s] w fun e w'=>e=.returned (.bool true)∧DecN w' b (stF (c::l1) 0 0).1 (stF (c::l1) 0 0).2 false false∧w.grownBy w' (some b):=by
 generalize hR:stF (c::l1) 0 0=R;have HR:=xhd hR;clear hR
 obtain⟨hc1,hc2⟩:=scan_dig hsc;have Hsc:=xhd hsc;clear hsc
 obtain⟨c0,c1,c2,c3,cf⟩:=hD.cells;have HD:=xhd hD;clear hD
 obtain⟨hlt,hcc,hd,hc0,_⟩:=at_byte (pre:=[]) (by simpa using hs);simp only[List.length_nil]at hlt hcc hd;have b1:((c.toNat:Int)==43)=false:=by simp;omega
 have b2:((c.toNat:Int)==45)=false:=by simp;omega
 have h1:¬s=ByteArray.empty:=by intro e;rw[e]at hlt;exact absurd hlt (by decide)
 have Hs:=xhd hs;clear hs
 go_enter Tryz.func149,Tryz.ntmps149;go_wp2_with fail
 have Hl0:=xhd (show (c::l1).length=(c::l1).length from rfl)
 go_loopg [5,6,7] ((c::l1).length) (fun g t5 t6 t7 wr=>∃(q l':By) (N:Nat) (dp d' p' a':Int) (sd sg:Bool),g=l'.length∧t5=.int .i64 (([]++q:By).length:Nat)∧t6=.bool sd∧t7=.bool sg∧sd=(p'==1)∧sg=decide (0<d') ∧
  s.data.toList=([]++q)++l'∧numScan l' d' p' a'=some (d,1,a)∧stF l' N dp=R∧(numD N:Nat)≤d'∧-d'≤dp∧dp≤d'∧0≤p'∧DecN wr b N dp false false∧w.grownBy wr (some b))
 case atStart=>exact⟨[],c::l1,0,0,0,0,0,false,false,Hl0.out,rfl,rfl,rfl,by simp,by simp,by simpa using Hs.out,Hsc.out,HR.out,by rw[numD_zero];simp,by omega,by omega,by omega,DecN.zero ((HD.out.setNeg false).setTr false),(by repeat (first|with_reducible exact xgr w (some b)|with_reducible apply gr_alloc|with_reducible apply gr_drewN|with_reducible apply gr_drew|with_reducible apply gr_set|((with_reducible refine gr_setM ?_ ?_ _ _);rotate_left;(first|omega|(simp;omega)))))⟩
 case round =>
  clear Hl0 c0 c1 c2 c3 cf;obtain⟨q,l',N,dp,d',p',a',sd,sg,hg,rfl,rfl,rfl,hsd,hsg,hsl,hsc',hst,hnd,hdp1,hdp2,hp0,hD,hG⟩:=hrel;have hsm:=scan_mono _ _ _ _ _ _ _ hsc';obtain⟨c0,c1,c2,c3,cf⟩:=hD.cells;obtain⟨pq,hpq⟩:∃pq,pq=[]++q:=⟨_,rfl⟩;rw[←hpq]at hsl⊢;obtain⟨nd,hndd⟩:∃nd,nd=numD N:=⟨_,rfl⟩;rw[←hndd]at c0 hnd;have hndb:nd≤60:=by omega
  have hdpb1:-60≤dp:=by omega
  have hdpb2:dp≤60:=by omega
  obtain⟨Hpq,Hnd,Hg,Hst,Hsc',HG⟩:=xh6 hpq hndd hg hst hsc' hG;clear hpq hndd hg hst hsc' hG
  cases l' with
  | nil =>
   have hlt9:¬pq.length<s.size:=by have:=congrArg List.length hsl;simp at this;omega
   have hpqs:((pq.length:Int) != (s.size:Int))=false:=by have:=congrArg List.length hsl;simp at this⊢;omega
   have hend:d'=d∧p'=1:=by have:=Hsc'.out;simp[numScan]at this;omega
   obtain rfl:sd=true:=by rw[hsd];simp;omega
   obtain rfl:sg=true:=by rw[hsg];simp;omega
   obtain⟨Hsl,HD2⟩:=xh2 hsl hD;clear hsl hD
   clear hsd hsg hsm hend;go_wp2_with fail
   go_ret;have e:R=(N,dp):=by rw[←Hst.out];rfl
   rw[e];exact⟨rfl,HD2.out,HG.out⟩
  | cons c3' l3 =>
   obtain⟨hlt3,hc3,hd3,hr3,hr4⟩:=at_byte hsl;have Hsl:=xhd hsl;clear hsl
   have h95:((c3'.toNat:Int)==95)=false:=by have:=scan_dig Hsc'.out;simp;omega
   rcases scan_cons Hsc'.out with⟨hz1,hz2,hz3⟩|⟨hz1,hz3⟩
   ·have h46:((c3'.toNat:Int)==46)=false:=by simp;omega
    have hm2:=scan_mono _ _ _ _ _ _ _ hz3;obtain⟨Hz3,Hsd⟩:=xh2 hz3 hsd;clear hz3 hsd
    clear hsg hsm;have hdd:0≤d':=by omega
    have Hcn:=xhd (show ¬c3'.toNat=46 by omega)
    have hNz:nd=0↔N=0:=by
     have:=Hnd.out
     constructor
     ·intro e;by_cases h0:N=0
      ·exact h0
      ·have:=numD_pos1 h0;omega
     ·intro e;rw[this,e,numD_zero]
    by_cases h48:c3'.toNat=48
    ·have hb48:((c3'.toNat:Int)==48)=true:=by simp;omega
     have H48:=xhd h48;clear h48
     by_cases hn0:nd=0
     ·have hbn:((nd:Int)==0)=true:=by simp;omega
      have HN0:=xhd (hNz.1 hn0);have Hn0:=xhd hn0;clear hn0 hNz;have HD2:=xhd hD;clear hD
      go_wp2_with fail
      go_roundg l3.length
      case measure=>rw[Hg.out];simp
      case rel =>
       refine⟨q++[c3'],l3,N,dp-1,d'+1,p',_,sd,true,rfl,by rw[←List.append_assoc,←Hpq.out];simp,rfl,rfl,Hsd.out,by simp;omega,by rw[←List.append_assoc,←Hpq.out,Hsl.out];simp,Hz3.out,?_,by rw[←Hnd.out];omega,by omega,by omega,hp0,HD2.out.setDp _,(by repeat (first|with_reducible exact HG.out|with_reducible apply gr_alloc|with_reducible apply gr_drewN|with_reducible apply gr_drew|with_reducible apply gr_set|((with_reducible refine gr_setM ?_ ?_ _ _);rotate_left;(first|omega|(simp;omega)))))⟩;rw[←Hst.out];simp only[stF];rw[if_neg Hcn.out,if_pos ⟨H48.out,HN0.out⟩]
     ·have hbn:((nd:Int)==0)=false:=by simp;omega
      have HNz:=xhd (show ¬(c3'.toNat=48∧N=0) from fun x=>hn0 (hNz.2 x.2));clear hn0 hNz
      obtain⟨c9,hc9,cw⟩:∃c9:UInt8,True∧wr.cell? ⟨b,nd,none⟩=some (.int .u8 (c9.toNat:Int)):=by
       obtain⟨_,A9,hA9,_,_⟩:=hD;obtain⟨c9,_,cw⟩:=hA9.digE (i:=nd) (by omega);exact⟨c9,trivial,cw⟩
      clear hc9;have HD2:=xhd hD;clear hD
      go_wp2_with fail
      (refine wp_region_quiet_tail 11 (by kernel_rfl) (by kernel_rfl) ?_;simp only[List.take_succ_cons,List.take_zero,List.drop_succ_cons,List.drop_zero];(repeat (go_big_quiet_step (fail)));refine wpQuiet_nil ?_;intro _ hwt;obtain⟨nt,hwt'⟩:=hwt;subst hwt';go_wp2_with fail)
      go_roundg l3.length
      case measure=>rw[Hg.out];simp
      case rel =>
       have h9:=(HD2.out.drewN nt).digit hz1 hz2 HNz.out (by rw[←Hnd.out];omega);rw[←Hnd.out]at h9;have hdn:=numD_dig (N:=N) (d:=c3'.toNat-48) (by omega) (fun x=>HNz.out ⟨by omega,x.2⟩);refine⟨q++[c3'],l3,_,dp,d'+1,p',_,sd,true,rfl,by rw[←List.append_assoc,←Hpq.out];simp,rfl,rfl,Hsd.out,by simp;omega,by rw[←List.append_assoc,←Hpq.out,Hsl.out];simp,Hz3.out,?_,by rw[hdn,←Hnd.out];omega,by omega,by omega,hp0,h9,(by repeat (first|with_reducible exact HG.out|with_reducible apply gr_alloc|with_reducible apply gr_drewN|with_reducible apply gr_drew|with_reducible apply gr_set|((with_reducible refine gr_setM ?_ ?_ _ _);rotate_left;(first|omega|(simp;omega)))))⟩;rw[←Hst.out];simp only[stF];rw[if_neg Hcn.out,if_neg HNz.out]
    ·have hb48:((c3'.toNat:Int)==48)=false:=by simp;omega
     have HNz:=xhd (show ¬(c3'.toNat=48∧N=0) from fun x=>h48 x.1);clear h48 hNz
     obtain⟨c9,hc9,cw⟩:∃c9:UInt8,True∧wr.cell? ⟨b,nd,none⟩=some (.int .u8 (c9.toNat:Int)):=by
      obtain⟨_,A9,hA9,_,_⟩:=hD;obtain⟨c9,_,cw⟩:=hA9.digE (i:=nd) (by omega);exact⟨c9,trivial,cw⟩
     clear hc9;have HD2:=xhd hD;clear hD
     go_wp2_with fail
     (refine wp_region_quiet_tail 11 (by kernel_rfl) (by kernel_rfl) ?_;simp only[List.take_succ_cons,List.take_zero,List.drop_succ_cons,List.drop_zero];(repeat (go_big_quiet_step (fail)));refine wpQuiet_nil ?_;intro _ hwt;obtain⟨nt,hwt'⟩:=hwt;subst hwt';go_wp2_with fail)
     go_roundg l3.length
     case measure=>rw[Hg.out];simp
     case rel =>
      have h9:=(HD2.out.drewN nt).digit hz1 hz2 HNz.out (by rw[←Hnd.out];omega);rw[←Hnd.out]at h9;have hdn:=numD_dig (N:=N) (d:=c3'.toNat-48) (by omega) (fun x=>HNz.out ⟨by omega,x.2⟩);refine⟨q++[c3'],l3,_,dp,d'+1,p',_,sd,true,rfl,by rw[←List.append_assoc,←Hpq.out];simp,rfl,rfl,Hsd.out,by simp;omega,by rw[←List.append_assoc,←Hpq.out,Hsl.out];simp,Hz3.out,?_,by rw[hdn,←Hnd.out];omega,by omega,by omega,hp0,h9,(by repeat (first|with_reducible exact HG.out|with_reducible apply gr_alloc|with_reducible apply gr_drewN|with_reducible apply gr_drew|with_reducible apply gr_set|((with_reducible refine gr_setM ?_ ?_ _ _);rotate_left;(first|omega|(simp;omega)))))⟩;rw[←Hst.out];simp only[stF];rw[if_neg Hcn.out,if_neg HNz.out]
   ·have h46:((c3'.toNat:Int)==46)=true:=by simp;omega
    have hp1:=scan_mono _ _ _ _ _ _ _ hz3;obtain rfl:sd=false:=by rw[hsd];simp;omega
    obtain⟨Hz3,Hsg,HZ1⟩:=xh3 hz3 hsg hz1;clear hz3 hsg
    clear hsd hsm hz1;have hp9:p'=0:=by omega
    have Hp9:=xhd hp9;clear hp1 hp9;have HD2:=xhd hD;clear hD
    go_wp2_with fail
    go_roundg l3.length
    case measure=>rw[Hg.out];simp
    case rel=>exact⟨q++[c3'],l3,N,nd,d',p'+1,a',true,sg,rfl,by rw[←List.append_assoc,←Hpq.out];simp,rfl,rfl,by rw[Hp9.out];rfl,Hsg.out,by rw[←List.append_assoc,←Hpq.out,Hsl.out];simp,Hz3.out,by rw[←Hst.out];simp only[stF];rw[if_pos HZ1.out,Hnd.out],by rw[←Hnd.out];omega,by omega,by omega,by omega,HD2.out.setDp _,(by repeat (first|with_reducible exact HG.out|with_reducible apply gr_alloc|with_reducible apply gr_drewN|with_reducible apply gr_drew|with_reducible apply gr_set|((with_reducible refine gr_setM ?_ ?_ _ _);rotate_left;(first|omega|(simp;omega)))))⟩
theorem set_b (w:World)(b:Nat)(A:By)(s:ByteArray)(c:UInt8)(l1:By)(d a:Int)(hD:DecAt w b A 0 0 false false)(hs:s.data.toList=[43]++c::l1)(hsc:numScan (c::l1) 0 0 0=some (d,1,a))(hd1:1≤d)(hd2:d≤60)(ha:a≤14)(hs2:s.size≤1000) :
  Calls Tryz.prog 149 #[.pointer (some ⟨b,0,none⟩),.string s] w fun e w'=>e=.returned (.bool true)∧DecN w' b (stF (c::l1) 0 0).1 (stF (c::l1) 0 0).2 false false∧w.grownBy w' (some b):=by
 generalize hR:stF (c::l1) 0 0=R;have HR:=xhd hR;clear hR
 obtain⟨hc1,hc2⟩:=scan_dig hsc;have Hsc:=xhd hsc;clear hsc
 obtain⟨c0,c1,c2,c3,cf⟩:=hD.cells;have HD:=xhd hD;clear hD
 obtain⟨hlt,hcc,hd,hc0,_⟩:=at_byte (pre:=[]) (c:=43) (l:=c::l1) (by simpa using hs);simp only[List.length_nil]at hlt hcc hd;have h1:¬s=ByteArray.empty:=by intro e;rw[e]at hlt;exact absurd hlt (by decide)
 have Hs:=xhd hs;clear hs
 go_enter Tryz.func149,Tryz.ntmps149;go_wp2_with fail
 have Hl0:=xhd (show (c::l1).length=(c::l1).length from rfl)
 go_loopg [5,6,7] ((c::l1).length) (fun g t5 t6 t7 wr=>∃(q l':By) (N:Nat) (dp d' p' a':Int) (sd sg:Bool),g=l'.length∧t5=.int .i64 (([43]++q:By).length:Nat)∧t6=.bool sd∧t7=.bool sg∧sd=(p'==1)∧sg=decide (0<d') ∧
  s.data.toList=([43]++q)++l'∧numScan l' d' p' a'=some (d,1,a)∧stF l' N dp=R∧(numD N:Nat)≤d'∧-d'≤dp∧dp≤d'∧0≤p'∧DecN wr b N dp false false∧w.grownBy wr (some b))
 case atStart=>exact⟨[],c::l1,0,0,0,0,0,false,false,Hl0.out,rfl,rfl,rfl,by simp,by simp,by simpa using Hs.out,Hsc.out,HR.out,by rw[numD_zero];simp,by omega,by omega,by omega,DecN.zero ((HD.out.setNeg false).setTr false),(by repeat (first|with_reducible exact xgr w (some b)|with_reducible apply gr_alloc|with_reducible apply gr_drewN|with_reducible apply gr_drew|with_reducible apply gr_set|((with_reducible refine gr_setM ?_ ?_ _ _);rotate_left;(first|omega|(simp;omega)))))⟩
 case round =>
  clear Hl0 c0 c1 c2 c3 cf;obtain⟨q,l',N,dp,d',p',a',sd,sg,hg,rfl,rfl,rfl,hsd,hsg,hsl,hsc',hst,hnd,hdp1,hdp2,hp0,hD,hG⟩:=hrel;have hsm:=scan_mono _ _ _ _ _ _ _ hsc';obtain⟨c0,c1,c2,c3,cf⟩:=hD.cells;obtain⟨pq,hpq⟩:∃pq,pq=[43]++q:=⟨_,rfl⟩;rw[←hpq]at hsl⊢;obtain⟨nd,hndd⟩:∃nd,nd=numD N:=⟨_,rfl⟩;rw[←hndd]at c0 hnd;have hndb:nd≤60:=by omega
  have hdpb1:-60≤dp:=by omega
  have hdpb2:dp≤60:=by omega
  obtain⟨Hpq,Hnd,Hg,Hst,Hsc',HG⟩:=xh6 hpq hndd hg hst hsc' hG;clear hpq hndd hg hst hsc' hG
  cases l' with
  | nil =>
   have hlt9:¬pq.length<s.size:=by have:=congrArg List.length hsl;simp at this;omega
   have hpqs:((pq.length:Int) != (s.size:Int))=false:=by have:=congrArg List.length hsl;simp at this⊢;omega
   have hend:d'=d∧p'=1:=by have:=Hsc'.out;simp[numScan]at this;omega
   obtain rfl:sd=true:=by rw[hsd];simp;omega
   obtain rfl:sg=true:=by rw[hsg];simp;omega
   obtain⟨Hsl,HD2⟩:=xh2 hsl hD;clear hsl hD
   clear hsd hsg hsm hend;go_wp2_with fail
   go_ret;have e:R=(N,dp):=by rw[←Hst.out];rfl
   rw[e];exact⟨rfl,HD2.out,HG.out⟩
  | cons c3' l3 =>
   obtain⟨hlt3,hc3,hd3,hr3,hr4⟩:=at_byte hsl;have Hsl:=xhd hsl;clear hsl
   have h95:((c3'.toNat:Int)==95)=false:=by have:=scan_dig Hsc'.out;simp;omega
   rcases scan_cons Hsc'.out with⟨hz1,hz2,hz3⟩|⟨hz1,hz3⟩
   ·have h46:((c3'.toNat:Int)==46)=false:=by simp;omega
    have hm2:=scan_mono _ _ _ _ _ _ _ hz3;obtain⟨Hz3,Hsd⟩:=xh2 hz3 hsd;clear hz3 hsd
    clear hsg hsm;have hdd:0≤d':=by omega
    have Hcn:=xhd (show ¬c3'.toNat=46 by omega)
    have hNz:nd=0↔N=0:=by
     have:=Hnd.out
     constructor
     ·intro e;by_cases h0:N=0
      ·exact h0
      ·have:=numD_pos1 h0;omega
     ·intro e;rw[this,e,numD_zero]
    by_cases h48:c3'.toNat=48
    ·have hb48:((c3'.toNat:Int)==48)=true:=by simp;omega
     have H48:=xhd h48;clear h48
     by_cases hn0:nd=0
     ·have hbn:((nd:Int)==0)=true:=by simp;omega
      have HN0:=xhd (hNz.1 hn0);have Hn0:=xhd hn0;clear hn0 hNz;have HD2:=xhd hD;clear hD
      go_wp2_with fail
      go_roundg l3.length
      case measure=>rw[Hg.out];simp
      case rel =>
       refine⟨q++[c3'],l3,N,dp-1,d'+1,p',_,sd,true,rfl,by rw[←List.append_assoc,←Hpq.out];simp,rfl,rfl,Hsd.out,by simp;omega,by rw[←List.append_assoc,←Hpq.out,Hsl.out];simp,Hz3.out,?_,by rw[←Hnd.out];omega,by omega,by omega,hp0,HD2.out.setDp _,(by repeat (first|with_reducible exact HG.out|with_reducible apply gr_alloc|with_reducible apply gr_drewN|with_reducible apply gr_drew|with_reducible apply gr_set|((with_reducible refine gr_setM ?_ ?_ _ _);rotate_left;(first|omega|(simp;omega)))))⟩;rw[←Hst.out];simp only[stF];rw[if_neg Hcn.out,if_pos ⟨H48.out,HN0.out⟩]
     ·have hbn:((nd:Int)==0)=false:=by simp;omega
      have HNz:=xhd (show ¬(c3'.toNat=48∧N=0) from fun x=>hn0 (hNz.2 x.2));clear hn0 hNz
      obtain⟨c9,hc9,cw⟩:∃c9:UInt8,True∧wr.cell? ⟨b,nd,none⟩=some (.int .u8 (c9.toNat:Int)):=by
       obtain⟨_,A9,hA9,_,_⟩:=hD;obtain⟨c9,_,cw⟩:=hA9.digE (i:=nd) (by omega);exact⟨c9,trivial,cw⟩
      clear hc9;have HD2:=xhd hD;clear hD
      go_wp2_with fail
      (refine wp_region_quiet_tail 11 (by kernel_rfl) (by kernel_rfl) ?_;simp only[List.take_succ_cons,List.take_zero,List.drop_succ_cons,List.drop_zero];(repeat (go_big_quiet_step (fail)));refine wpQuiet_nil ?_;intro _ hwt;obtain⟨nt,hwt'⟩:=hwt;subst hwt';go_wp2_with fail)
      go_roundg l3.length
      case measure=>rw[Hg.out];simp
      case rel =>
       have h9:=(HD2.out.drewN nt).digit hz1 hz2 HNz.out (by rw[←Hnd.out];omega);rw[←Hnd.out]at h9;have hdn:=numD_dig (N:=N) (d:=c3'.toNat-48) (by omega) (fun x=>HNz.out ⟨by omega,x.2⟩);refine⟨q++[c3'],l3,_,dp,d'+1,p',_,sd,true,rfl,by rw[←List.append_assoc,←Hpq.out];simp,rfl,rfl,Hsd.out,by simp;omega,by rw[←List.append_assoc,←Hpq.out,Hsl.out];simp,Hz3.out,?_,by rw[hdn,←Hnd.out];omega,by omega,by omega,hp0,h9,(by repeat (first|with_reducible exact HG.out|with_reducible apply gr_alloc|with_reducible apply gr_drewN|with_reducible apply gr_drew|with_reducible apply gr_set|((with_reducible refine gr_setM ?_ ?_ _ _);rotate_left;(first|omega|(simp;omega)))))⟩;rw[←Hst.out];simp only[stF];rw[if_neg Hcn.out,if_neg HNz.out]
    ·have hb48:((c3'.toNat:Int)==48)=false:=by simp;omega
     have HNz:=xhd (show ¬(c3'.toNat=48∧N=0) from fun x=>h48 x.1);clear h48 hNz
     obtain⟨c9,hc9,cw⟩:∃c9:UInt8,True∧wr.cell? ⟨b,nd,none⟩=some (.int .u8 (c9.toNat:Int)):=by
      obtain⟨_,A9,hA9,_,_⟩:=hD;obtain⟨c9,_,cw⟩:=hA9.digE (i:=nd) (by omega);exact⟨c9,trivial,cw⟩
     clear hc9;have HD2:=xhd hD;clear hD
     go_wp2_with fail
     (refine wp_region_quiet_tail 11 (by kernel_rfl) (by kernel_rfl) ?_;simp only[List.take_succ_cons,List.take_zero,List.drop_succ_cons,List.drop_zero];(repeat (go_big_quiet_step (fail)));refine wpQuiet_nil ?_;intro _ hwt;obtain⟨nt,hwt'⟩:=hwt;subst hwt';go_wp2_with fail)
     go_roundg l3.length
     case measure=>rw[Hg.out];simp
     case rel =>
      have h9:=(HD2.out.drewN nt).digit hz1 hz2 HNz.out (by rw[←Hnd.out];omega);rw[←Hnd.out]at h9;have hdn:=numD_dig (N:=N) (d:=c3'.toNat-48) (by omega) (fun x=>HNz.out ⟨by omega,x.2⟩);refine⟨q++[c3'],l3,_,dp,d'+1,p',_,sd,true,rfl,by rw[←List.append_assoc,←Hpq.out];simp,rfl,rfl,Hsd.out,by simp;omega,by rw[←List.append_assoc,←Hpq.out,Hsl.out];simp,Hz3.out,?_,by rw[hdn,←Hnd.out];omega,by omega,by omega,hp0,h9,(by repeat (first|with_reducible exact HG.out|with_reducible apply gr_alloc|with_reducible apply gr_drewN|with_reducible apply gr_drew|with_reducible apply gr_set|((with_reducible refine gr_setM ?_ ?_ _ _);rotate_left;(first|omega|(simp;omega)))))⟩;rw[←Hst.out];simp only[stF];rw[if_neg Hcn.out,if_neg HNz.out]
   ·have h46:((c3'.toNat:Int)==46)=true:=by simp;omega
    have hp1:=scan_mono _ _ _ _ _ _ _ hz3;obtain rfl:sd=false:=by rw[hsd];simp;omega
    obtain⟨Hz3,Hsg,HZ1⟩:=xh3 hz3 hsg hz1;clear hz3 hsg
    clear hsd hsm hz1;have hp9:p'=0:=by omega
    have Hp9:=xhd hp9;clear hp1 hp9;have HD2:=xhd hD;clear hD
    go_wp2_with fail
    go_roundg l3.length
    case measure=>rw[Hg.out];simp
    case rel=>exact⟨q++[c3'],l3,N,nd,d',p'+1,a',true,sg,rfl,by rw[←List.append_assoc,←Hpq.out];simp,rfl,rfl,by rw[Hp9.out];rfl,Hsg.out,by rw[←List.append_assoc,←Hpq.out,Hsl.out];simp,Hz3.out,by rw[←Hst.out];simp only[stF];rw[if_pos HZ1.out,Hnd.out],by rw[←Hnd.out];omega,by omega,by omega,by omega,HD2.out.setDp _,(by repeat (first|with_reducible exact HG.out|with_reducible apply gr_alloc|with_reducible apply gr_drewN|with_reducible apply gr_drew|with_reducible apply gr_set|((with_reducible refine gr_setM ?_ ?_ _ _);rotate_left;(first|omega|(simp;omega)))))⟩
theorem set_c (w:World)(b:Nat)(A:By)(s:ByteArray)(c:UInt8)(l1:By)(d a:Int)(hD:DecAt w b A 0 0 false false)(hs:s.data.toList=[45]++c::l1)(hsc:numScan (c::l1) 0 0 0=some (d,1,a))(hd1:1≤d)(hd2:d≤60)(ha:a≤14)(hs2:s.size≤1000) :
  Calls Tryz.prog 149 #[.pointer (some ⟨b,0,none⟩),.string s] w fun e w'=>e=.returned (.bool true)∧DecN w' b (stF (c::l1) 0 0).1 (stF (c::l1) 0 0).2 true false∧w.grownBy w' (some b):=by
 generalize hR:stF (c::l1) 0 0=R;have HR:=xhd hR;clear hR
 obtain⟨hc1,hc2⟩:=scan_dig hsc;have Hsc:=xhd hsc;clear hsc
 obtain⟨c0,c1,c2,c3,cf⟩:=hD.cells;have HD:=xhd hD;clear hD
 obtain⟨hlt,hcc,hd,hc0,_⟩:=at_byte (pre:=[]) (c:=45) (l:=c::l1) (by simpa using hs);simp only[List.length_nil]at hlt hcc hd;have h1:¬s=ByteArray.empty:=by intro e;rw[e]at hlt;exact absurd hlt (by decide)
 have Hs:=xhd hs;clear hs
 go_enter Tryz.func149,Tryz.ntmps149;go_wp2_with fail
 have Hl0:=xhd (show (c::l1).length=(c::l1).length from rfl)
 go_loopg [5,6,7] ((c::l1).length) (fun g t5 t6 t7 wr=>∃(q l':By) (N:Nat) (dp d' p' a':Int) (sd sg:Bool),g=l'.length∧t5=.int .i64 (([45]++q:By).length:Nat)∧t6=.bool sd∧t7=.bool sg∧sd=(p'==1)∧sg=decide (0<d') ∧
  s.data.toList=([45]++q)++l'∧numScan l' d' p' a'=some (d,1,a)∧stF l' N dp=R∧(numD N:Nat)≤d'∧-d'≤dp∧dp≤d'∧0≤p'∧DecN wr b N dp true false∧w.grownBy wr (some b))
 case atStart=>exact⟨[],c::l1,0,0,0,0,0,false,false,Hl0.out,rfl,rfl,rfl,by simp,by simp,by simpa using Hs.out,Hsc.out,HR.out,by rw[numD_zero];simp,by omega,by omega,by omega,DecN.zero (((HD.out.setNeg false).setTr false).setNeg true),(by repeat (first|with_reducible exact xgr w (some b)|with_reducible apply gr_alloc|with_reducible apply gr_drewN|with_reducible apply gr_drew|with_reducible apply gr_set|((with_reducible refine gr_setM ?_ ?_ _ _);rotate_left;(first|omega|(simp;omega)))))⟩
 case round =>
  clear Hl0 c0 c1 c2 c3 cf;obtain⟨q,l',N,dp,d',p',a',sd,sg,hg,rfl,rfl,rfl,hsd,hsg,hsl,hsc',hst,hnd,hdp1,hdp2,hp0,hD,hG⟩:=hrel;have hsm:=scan_mono _ _ _ _ _ _ _ hsc';obtain⟨c0,c1,c2,c3,cf⟩:=hD.cells;obtain⟨pq,hpq⟩:∃pq,pq=[45]++q:=⟨_,rfl⟩;rw[←hpq]at hsl⊢;obtain⟨nd,hndd⟩:∃nd,nd=numD N:=⟨_,rfl⟩;rw[←hndd]at c0 hnd;have hndb:nd≤60:=by omega
  have hdpb1:-60≤dp:=by omega
  have hdpb2:dp≤60:=by omega
  obtain⟨Hpq,Hnd,Hg,Hst,Hsc',HG⟩:=xh6 hpq hndd hg hst hsc' hG;clear hpq hndd hg hst hsc' hG
  cases l' with
  | nil =>
   have hlt9:¬pq.length<s.size:=by have:=congrArg List.length hsl;simp at this;omega
   have hpqs:((pq.length:Int) != (s.size:Int))=false:=by have:=congrArg List.length hsl;simp at this⊢;omega
   have hend:d'=d∧p'=1:=by have:=Hsc'.out;simp[numScan]at this;omega
   obtain rfl:sd=true:=by rw[hsd];simp;omega
   obtain rfl:sg=true:=by rw[hsg];simp;omega
   obtain⟨Hsl,HD2⟩:=xh2 hsl hD;clear hsl hD
   clear hsd hsg hsm hend;go_wp2_with fail
   go_ret;have e:R=(N,dp):=by rw[←Hst.out];rfl
   rw[e];exact⟨rfl,HD2.out,HG.out⟩
  | cons c3' l3 =>
   obtain⟨hlt3,hc3,hd3,hr3,hr4⟩:=at_byte hsl;have Hsl:=xhd hsl;clear hsl
   have h95:((c3'.toNat:Int)==95)=false:=by have:=scan_dig Hsc'.out;simp;omega
   rcases scan_cons Hsc'.out with⟨hz1,hz2,hz3⟩|⟨hz1,hz3⟩
   ·have h46:((c3'.toNat:Int)==46)=false:=by simp;omega
    have hm2:=scan_mono _ _ _ _ _ _ _ hz3;obtain⟨Hz3,Hsd⟩:=xh2 hz3 hsd;clear hz3 hsd
    clear hsg hsm;have hdd:0≤d':=by omega
    have Hcn:=xhd (show ¬c3'.toNat=46 by omega)
    have hNz:nd=0↔N=0:=by
     have:=Hnd.out
     constructor
     ·intro e;by_cases h0:N=0
      ·exact h0
      ·have:=numD_pos1 h0;omega
     ·intro e;rw[this,e,numD_zero]
    by_cases h48:c3'.toNat=48
    ·have hb48:((c3'.toNat:Int)==48)=true:=by simp;omega
     have H48:=xhd h48;clear h48
     by_cases hn0:nd=0
     ·have hbn:((nd:Int)==0)=true:=by simp;omega
      have HN0:=xhd (hNz.1 hn0);have Hn0:=xhd hn0;clear hn0 hNz;have HD2:=xhd hD;clear hD
      go_wp2_with fail
      go_roundg l3.length
      case measure=>rw[Hg.out];simp
      case rel =>
       refine⟨q++[c3'],l3,N,dp-1,d'+1,p',_,sd,true,rfl,by rw[←List.append_assoc,←Hpq.out];simp,rfl,rfl,Hsd.out,by simp;omega,by rw[←List.append_assoc,←Hpq.out,Hsl.out];simp,Hz3.out,?_,by rw[←Hnd.out];omega,by omega,by omega,hp0,HD2.out.setDp _,(by repeat (first|with_reducible exact HG.out|with_reducible apply gr_alloc|with_reducible apply gr_drewN|with_reducible apply gr_drew|with_reducible apply gr_set|((with_reducible refine gr_setM ?_ ?_ _ _);rotate_left;(first|omega|(simp;omega)))))⟩;rw[←Hst.out];simp only[stF];rw[if_neg Hcn.out,if_pos ⟨H48.out,HN0.out⟩]
     ·have hbn:((nd:Int)==0)=false:=by simp;omega
      have HNz:=xhd (show ¬(c3'.toNat=48∧N=0) from fun x=>hn0 (hNz.2 x.2));clear hn0 hNz
      obtain⟨c9,hc9,cw⟩:∃c9:UInt8,True∧wr.cell? ⟨b,nd,none⟩=some (.int .u8 (c9.toNat:Int)):=by
       obtain⟨_,A9,hA9,_,_⟩:=hD;obtain⟨c9,_,cw⟩:=hA9.digE (i:=nd) (by omega);exact⟨c9,trivial,cw⟩
      clear hc9;have HD2:=xhd hD;clear hD
      go_wp2_with fail
      (refine wp_region_quiet_tail 11 (by kernel_rfl) (by kernel_rfl) ?_;simp only[List.take_succ_cons,List.take_zero,List.drop_succ_cons,List.drop_zero];(repeat (go_big_quiet_step (fail)));refine wpQuiet_nil ?_;intro _ hwt;obtain⟨nt,hwt'⟩:=hwt;subst hwt';go_wp2_with fail)
      go_roundg l3.length
      case measure=>rw[Hg.out];simp
      case rel =>
       have h9:=(HD2.out.drewN nt).digit hz1 hz2 HNz.out (by rw[←Hnd.out];omega);rw[←Hnd.out]at h9;have hdn:=numD_dig (N:=N) (d:=c3'.toNat-48) (by omega) (fun x=>HNz.out ⟨by omega,x.2⟩);refine⟨q++[c3'],l3,_,dp,d'+1,p',_,sd,true,rfl,by rw[←List.append_assoc,←Hpq.out];simp,rfl,rfl,Hsd.out,by simp;omega,by rw[←List.append_assoc,←Hpq.out,Hsl.out];simp,Hz3.out,?_,by rw[hdn,←Hnd.out];omega,by omega,by omega,hp0,h9,(by repeat (first|with_reducible exact HG.out|with_reducible apply gr_alloc|with_reducible apply gr_drewN|with_reducible apply gr_drew|with_reducible apply gr_set|((with_reducible refine gr_setM ?_ ?_ _ _);rotate_left;(first|omega|(simp;omega)))))⟩;rw[←Hst.out];simp only[stF];rw[if_neg Hcn.out,if_neg HNz.out]
    ·have hb48:((c3'.toNat:Int)==48)=false:=by simp;omega
     have HNz:=xhd (show ¬(c3'.toNat=48∧N=0) from fun x=>h48 x.1);clear h48 hNz
     obtain⟨c9,hc9,cw⟩:∃c9:UInt8,True∧wr.cell? ⟨b,nd,none⟩=some (.int .u8 (c9.toNat:Int)):=by
      obtain⟨_,A9,hA9,_,_⟩:=hD;obtain⟨c9,_,cw⟩:=hA9.digE (i:=nd) (by omega);exact⟨c9,trivial,cw⟩
     clear hc9;have HD2:=xhd hD;clear hD
     go_wp2_with fail
     (refine wp_region_quiet_tail 11 (by kernel_rfl) (by kernel_rfl) ?_;simp only[List.take_succ_cons,List.take_zero,List.drop_succ_cons,List.drop_zero];(repeat (go_big_quiet_step (fail)));refine wpQuiet_nil ?_;intro _ hwt;obtain⟨nt,hwt'⟩:=hwt;subst hwt';go_wp2_with fail)
     go_roundg l3.length
     case measure=>rw[Hg.out];simp
     case rel =>
      have h9:=(HD2.out.drewN nt).digit hz1 hz2 HNz.out (by rw[←Hnd.out];omega);rw[←Hnd.out]at h9;have hdn:=numD_dig (N:=N) (d:=c3'.toNat-48) (by omega) (fun x=>HNz.out ⟨by omega,x.2⟩);refine⟨q++[c3'],l3,_,dp,d'+1,p',_,sd,true,rfl,by rw[←List.append_assoc,←Hpq.out];simp,rfl,rfl,Hsd.out,by simp;omega,by rw[←List.append_assoc,←Hpq.out,Hsl.out];simp,Hz3.out,?_,by rw[hdn,←Hnd.out];omega,by omega,by omega,hp0,h9,(by repeat (first|with_reducible exact HG.out|with_reducible apply gr_alloc|with_reducible apply gr_drewN|with_reducible apply gr_drew|with_reducible apply gr_set|((with_reducible refine gr_setM ?_ ?_ _ _);rotate_left;(first|omega|(simp;omega)))))⟩;rw[←Hst.out];simp only[stF];rw[if_neg Hcn.out,if_neg HNz.out]
   ·have h46:((c3'.toNat:Int)==46)=true:=by simp;omega
    have hp1:=scan_mono _ _ _ _ _ _ _ hz3;obtain rfl:sd=false:=by rw[hsd];simp;omega
    obtain⟨Hz3,Hsg,HZ1⟩:=xh3 hz3 hsg hz1;clear hz3 hsg
    clear hsd hsm hz1;have hp9:p'=0:=by omega
    have Hp9:=xhd hp9;clear hp1 hp9;have HD2:=xhd hD;clear hD
    go_wp2_with fail
    go_roundg l3.length
    case measure=>rw[Hg.out];simp
    case rel=>exact⟨q++[c3'],l3,N,nd,d',p'+1,a',true,sg,rfl,by rw[←List.append_assoc,←Hpq.out];simp,rfl,rfl,by rw[Hp9.out];rfl,Hsg.out,by rw[←List.append_assoc,←Hpq.out,Hsl.out];simp,Hz3.out,by rw[←Hst.out];simp only[stF];rw[if_pos HZ1.out,Hnd.out],by rw[←Hnd.out];omega,by omega,by omega,by omega,HD2.out.setDp _,(by repeat (first|with_reducible exact HG.out|with_reducible apply gr_alloc|with_reducible apply gr_drewN|with_reducible apply gr_drew|with_reducible apply gr_set|((with_reducible refine gr_setM ?_ ?_ _ _);rotate_left;(first|omega|(simp;omega)))))⟩
theorem encN_snoc:∀(l:By) (c:UInt8),encN (l++[c])=encN l++(if needHex (c.toNat:Int) then [35,hexDig (c.toNat/16),hexDig (c.toNat%16)] else [c])
 | [],c=>by simp only[List.nil_append,encN]
 | d::l,c=>by
  simp only[List.cons_append,encN,encN_snoc l c]
  by_cases h:needHex (d.toNat:Int)=true
  ·rw[if_pos h,if_pos h];simp
  ·rw[if_neg h,if_neg h];simp
theorem hx_enc (c:UInt8):Lib.Hx.encode [c]=[hexDig (c.toNat/16),hexDig (c.toNat%16)]:=by
 have key:∀n:Nat,n<16→Lib.Hx.digit n=hexDig n:=by decide
 have:=c.toNat_lt;rw[Lib.Hx.encode_cons,key _ (by omega),key _ (by omega)];rfl
theorem gr_below {w0 w w':World}(hg:w0.grownBy w none)(h:Below w0.heap.size w w'):w0.grownBy w' none :=
 ⟨h.os.trans hg.os,h.tape.trans hg.tape,h.output.trans hg.output,Nat.le_trans hg.size h.size,fun k hk _=>(h.block k (by have:=hg.size;omega)).trans (hg.block k hk (by simp))⟩
def EnI (l:By)(i:Nat)(rep:Bool)(pre rest:By):Prop:=l=pre++rest∧i=pre.length∧(rep=false→encN pre=pre)
theorem encname_any (l:By)(hl:l.length≤100000000)(w:World):Calls Tryz.prog 279 #[.string (bs l)] w fun e w'=>e=.returned (.string (bs (encN l)))∧w.grownBy w' none:=by
 obtain⟨z,hz⟩:∃z,z=bs l:=⟨_,rfl⟩;have hzs:z.size=l.length:=by rw[hz,bs_size]
 rw[←hz];have Hz:=xhd hz;clear hz;go_enter Tryz.func279,Tryz.ntmps279;go_wp2_with fail
 go_loopg [3,5] l.length (fun g t3 t5 wr=>∃(i:Nat) (rep:Bool) (pre rest:By),rest.length=g∧t3=.bool rep∧t5=.int .i64 i∧EnI l i rep pre rest∧BldAt wr w.heap.size (w.heap.size+1) (if rep then encN pre else [])∧w.grownBy wr none)
 case atStart=>exact⟨0,false,[],l,rfl,rfl,rfl,⟨rfl,rfl,fun _=>rfl⟩,BldAt.fresh w,gr_alloc (xgr _ _) _⟩
 case round =>
  obtain⟨i,rep,pre,rest,hg,rfl,rfl,⟨hp,hi,hrep⟩,hB,hb⟩:=hrel;have hple:pre.length+rest.length=l.length:=by rw[hp];simp
  cases rest with
  | nil =>
   have hlt:¬(i:Int)<z.size:=by rw[hzs];simp at hple;omega
   have hpre:pre=l:=by rw[hp];simp
   obtain⟨Hb,HB⟩:=xh2 hb hB;clear hb hB hp hg
   cases rep
   ·have Hzk:=xhd (show z=bs (encN l) by rw[Hz.out,←hpre,hrep rfl])
    clear hrep hple hzs hi hpre;go_wp2_with fail
    go_ret;exact⟨by rw[Hzk.out];rfl,Hb.out⟩
   ·have Hpre:=xhd hpre
    clear hrep hple hzs hi hpre;go_wp2_with fail
    refine(wtoS_any wr w.heap.size _ _ HB.out).mono ?_;rintro e w2⟨rfl,hb2⟩;have Hb2:=xhd hb2;clear hb2;go_wp2_with fail
    go_ret;exact⟨by simp[Hpre.out],gr_below Hb.out Hb2.out⟩
  | cons c rest =>
   have hlt:i<z.size:=by rw[hzs];simp at hple;omega
   have hlt2:(i:Int)<z.size:=by omega
   obtain⟨hk0,hget0⟩:=bs_at (l:=l) (pre:=pre) (c:=c) (post:=rest) hp;have hget:z[i]'hlt=c:=by simp only[Hz.out,hi];exact hget0
   have hex:z.extract 0 i=bs pre:=by rw[Hz.out,bs_extract,hp,hi];simp
   have hil:i<100000000:=by simp at hple;omega
   have hel:(encN pre).length≤300000000:=by
    have:∀q:By,(encN q).length≤3*q.length:=by
     intro q
     induction q with
     | nil=>simp[encN]
     | cons d q ih=>simp only[encN];split<;>simp<;>omega
    have:=this pre;omega
   have hsn:=encN_snoc pre c;obtain⟨Hp,Hi,Hrep,Hg,Hb,HB,Hsn⟩:=xh7 hp hi hrep hg hb hB hsn;have Hle:=xhd (And.intro hel hil);clear hp hi hrep hg hb hB hsn hk0 hget0 hple hzs hel;rcases xbt (needHex (c.toNat:Int)) with hn|hn
   ·rw[if_pos hn]at Hsn
    have hstep:∀(wr:World),BldAt wr w.heap.size (w.heap.size+1) (encN pre)→w.grownBy wr none→Calls Tryz.prog 215 #[.pointer (some ⟨w.heap.size,0,none⟩),.int .u8 35] wr fun e w'=>e=.returned .nilIface∧BldAt w' w.heap.size (w.heap.size+1) (encN pre++[35])∧w.grownBy w' none:=fun wr hB hg=>by
     refine(wbyte_any wr w.heap.size _ (encN pre) 35 hB (by have:=Hle.out.1;omega)).mono ?_;rintro e w2⟨rfl,hB2,hK2⟩;exact⟨rfl,hB2,gr_below hg hK2.1⟩
    have Hstep:=xhd hstep
    have hstep2:∀(wr:World) (g cap:Nat),wr.cell? ⟨g,0,none⟩=some (.int .u8 (c.toNat:Int))→Calls Tryz.prog 281 #[.slice (some ⟨g,0,none⟩) 1 cap] wr fun e w'=>e=.returned (.string (bs [hexDig (c.toNat/16),hexDig (c.toNat%16)]))∧Below wr.heap.size wr w':=fun wr g cap hc=>by
     have h:=Tryz.hex_EncodeToString_bytes g 0 cap [c] wr (fun i hi=>by
      have:i=0:=by simp at hi;exact hi
      subst this
      simpa using hc) (World.block_lt_of_cell? _ _ hc) (by simp)
     rw[hx_enc]at h;exact h
    have Hstep2:=xhd hstep2
    have hstep3:∀(wr:World),BldAt wr w.heap.size (w.heap.size+1) (encN pre++[35])→w.grownBy wr none→Calls Tryz.prog 217 #[.pointer (some ⟨w.heap.size,0,none⟩),.string (bs [hexDig (c.toNat/16),hexDig (c.toNat%16)])] wr fun e w'=>(∃k,e=.returned (.tuple #[k,.nilIface]))∧BldAt w' w.heap.size (w.heap.size+1) (encN (pre++[c]))∧w.grownBy w' none:=fun wr hB hg=>by
     refine(wstr_any wr w.heap.size _ (encN pre++[35]) [hexDig (c.toNat/16),hexDig (c.toNat%16)] hB (by have:=Hle.out.1;simp;omega)).mono ?_;rintro e w2⟨he,hB2,hK2⟩;refine⟨he,?_,gr_below hg hK2.1⟩;rw[Hsn.out];simpa using hB2
    have Hstep3:=xhd hstep3;obtain⟨zh,hzh⟩:∃z,z=bs [hexDig (c.toNat/16),hexDig (c.toNat%16)]:=⟨_,rfl⟩;rw[←hzh]at Hstep2 Hstep3;clear hstep hstep2 hstep3 hzh
    cases rep
    ·go_wp2_with fail
     refine(nhex_any _ _).mono ?_;rintro e w2⟨rfl,hw⟩;subst w2;rw[hn];go_wp2_with fail
     refine(wstr_any wr w.heap.size _ [] pre HB.out (by have:=Hle.out.2;have:=Hi.out;simp;omega)).mono ?_;rintro e w2⟨⟨k2,rfl⟩,hB2,hK2⟩;have HB2:=xhd (show BldAt w2 w.heap.size (w.heap.size+1) (encN pre) by rw[Hrep.out (by trivial)];simpa using hB2);have Hb2:=xhd (gr_below Hb.out hK2.1);clear hB2 hK2;go_wp2_with fail
     refine(Hstep.out _ HB2.out Hb2.out).mono ?_;rintro e w3⟨rfl,hB3,hg3⟩;obtain⟨HB3,Hg3⟩:=xh2 hB3 hg3;clear hB3 hg3;go_wp2_with fail
     refine(Hstep2.out _ w3.heap.size 1 (by rw[World.cell?_alloc_at _ _ _ _ (by simp)];rfl)).mono ?_;rintro e w4⟨rfl,hb4⟩;have hg34:w3.grownBy w4 none:=(gr_alloc (xgr w3 none) _).trans (gr_of_below hb4);have HB4:=xhd (HB3.out.keep hg34 (fun k hk=>by cases hk));have Hg4:=xhd (Hg3.out.trans hg34);clear hb4 hg34;go_wp2_with fail
     refine(Hstep3.out _ HB4.out Hg4.out).mono ?_;rintro e w5⟨⟨k5,rfl⟩,hB5,hg5⟩;obtain⟨HB5,Hg5⟩:=xh2 hB5 hg5;clear hB5 hg5;go_wp2_with fail
     go_roundg (gk-1)
     case measure=>have:=Hg.out;simp at this;omega
     case rel=>exact⟨i+1,true,pre++[c],rest,by have:=Hg.out;simp at this;omega,rfl,by simp,⟨by rw[Hp.out];simp,by rw[Hi.out];simp,fun h=>by cases h⟩,by simp only[if_true];exact HB5.out,Hg5.out⟩
    ·go_wp2_with fail
     refine(nhex_any _ _).mono ?_;rintro e w2⟨rfl,hw⟩;subst w2;rw[hn];have HB2:=xhd (show BldAt wr w.heap.size (w.heap.size+1) (encN pre) from HB.out);have Hb2:=xhd Hb.out;go_wp2_with fail
     refine(Hstep.out _ HB2.out Hb2.out).mono ?_;rintro e w3⟨rfl,hB3,hg3⟩;obtain⟨HB3,Hg3⟩:=xh2 hB3 hg3;clear hB3 hg3;go_wp2_with fail
     refine(Hstep2.out _ w3.heap.size 1 (by rw[World.cell?_alloc_at _ _ _ _ (by simp)];rfl)).mono ?_;rintro e w4⟨rfl,hb4⟩;have hg34:w3.grownBy w4 none:=(gr_alloc (xgr w3 none) _).trans (gr_of_below hb4);have HB4:=xhd (HB3.out.keep hg34 (fun k hk=>by cases hk));have Hg4:=xhd (Hg3.out.trans hg34);clear hb4 hg34;go_wp2_with fail
     refine(Hstep3.out _ HB4.out Hg4.out).mono ?_;rintro e w5⟨⟨k5,rfl⟩,hB5,hg5⟩;obtain⟨HB5,Hg5⟩:=xh2 hB5 hg5;clear hB5 hg5;go_wp2_with fail
     go_roundg (gk-1)
     case measure=>have:=Hg.out;simp at this;omega
     case rel=>exact⟨i+1,true,pre++[c],rest,by have:=Hg.out;simp at this;omega,rfl,by simp,⟨by rw[Hp.out];simp,by rw[Hi.out];simp,fun h=>by cases h⟩,by simp only[if_true];exact HB5.out,Hg5.out⟩
   ·rw[if_neg (by rw[hn];decide)]at Hsn
    cases rep
    ·go_wp2_with fail
     refine(nhex_any _ _).mono ?_;rintro e w2⟨rfl,hw⟩;subst w2;rw[hn];go_wp2_with fail
     go_roundg (gk-1)
     case measure=>have:=Hg.out;simp at this;omega
     case rel=>exact⟨i+1,false,pre++[c],rest,by have:=Hg.out;simp at this;omega,rfl,by simp,⟨by rw[Hp.out];simp,by rw[Hi.out];simp,fun _=>by rw[Hsn.out,Hrep.out (by trivial)]⟩,HB.out,Hb.out⟩
    ·go_wp2_with fail
     refine(nhex_any _ _).mono ?_;rintro e w2⟨rfl,hw⟩;subst w2;rw[hn];go_wp2_with fail
     refine(wbyte_any wr w.heap.size _ (encN pre) c HB.out (by have:=Hle.out.1;omega)).mono ?_;rintro e w2⟨rfl,hB2,hK2⟩;have HB2:=xhd hB2;have Hb2:=xhd (gr_below Hb.out hK2.1);clear hB2 hK2;go_wp2_with fail
     go_roundg (gk-1)
     case measure=>have:=Hg.out;simp at this;omega
     case rel=>exact⟨i+1,true,pre++[c],rest,by have:=Hg.out;simp at this;omega,rfl,by simp,⟨by rw[Hp.out];simp,by rw[Hi.out];simp,fun h=>by cases h⟩,by simp only[if_true];rw[Hsn.out];exact HB2.out,Hb2.out⟩
end Go.Proofs.YtfkecmlmnhbmoaaGreatDoor
