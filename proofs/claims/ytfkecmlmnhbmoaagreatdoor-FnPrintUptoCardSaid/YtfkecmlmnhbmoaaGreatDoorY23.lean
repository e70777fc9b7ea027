/- The texts F13b F13c F14b F14c of the workbench, laid together. -/
import Derived.Test.YtfkecmlmnhbmoaaGreatDoorProg
import Derived.WalkKit
import Derived.WalkLawsBesides
import Derived.WalkSpells
import Derived.BigQuiet
import Derived.BigRegion
import Derived.Deep.QuietTactic
import Derived.Deep.RegionHeld3
import Derived.Deep.LoopGhost
import Derived.StillTailTactics
import Derived.Lib.Hide
import Derived.Laws.EntriesVeiled
import Derived.Test.YtfkecmlmnhbmoaaGreatDoorY15
import Derived.Test.YtfkecmlmnhbmoaaGreatDoorY19
set_option linter.unusedVariables false
set_option linter.unusedSimpArgs false
namespace Go.Proofs.YtfkecmlmnhbmoaaGreatDoor
open Go Go.RowKit
set_option maxRecDepth 100000 in
set_option maxHeartbeats 40000000 in
theorem rf_b (w : World) (s : ByteArray) (c : UInt8) (l1 : By) (d a : Int) (hs : s.data.toList = [43] ++ c :: l1) (hst : numStrip ([43] ++ c :: l1) = c :: l1) (hsc : numScan (c :: l1) 0 0 0 = some (d, 1, a)) (hd1 : 1 ≤ d) (hd2 : d ≤ 60) (ha : a ≤ 14) (hs2 : s.size ≤ 1000) :
  Calls Tryz.prog 143 #[.string s] w fun e w'=>e=rfRet ([43] ++ c::l1) s.size∧w'=w:=by
 generalize hR:rfRet ([43] ++ c::l1) s.size=R
 have HR:=Lib.hid hR;clear hR
 obtain ⟨hc1,hc2⟩:=scan_dig hsc
 have Hsc:=Lib.hid hsc;clear hsc
 have Hst:=Lib.hid hst;clear hst
 obtain ⟨hlt,hcc,hd,hc0,_⟩:=at_byte (pre:=[]) (c:=43) (l:=c::l1) (by simpa using hs)
 obtain ⟨hlt1,hcc1,_,_⟩:=at_byte1 (pre:=[]) (c:=43) (d:=c) (l:=l1) (by simpa using hs)
 simp only [List.length_nil,Nat.zero_add] at hlt1 hcc1
 simp only [List.length_nil] at hlt hcc hd
 have h1:¬s=ByteArray.empty:=by intro e;rw [e] at hlt;exact absurd hlt (by decide)
 have Hs:=Lib.hid hs;clear hs
 go_enter Tryz.func143,Tryz.ntmps143
 go_wp2_with fail
 go_step3
 go_upto_region 12 with (fail)
 go_cut [54] from 21 (fun t54 wr=>t54=.bool false∧w=wr)
 case first =>
  by_cases hl2:3 < s.size
  ·by_cases h48:c.toNat=48
   ·have hb:((c.toNat:Int) == 48)=true:=by simp;omega
    obtain ⟨c2,l2,rfl⟩:∃ c2 l2,l1=c2::l2:=by
     cases l1 with
     | nil=>have:=congrArg List.length Hs.out;simp at this;omega
     | cons c2 l2=>exact ⟨c2,l2,rfl⟩
    have hc22:46≤c2.toNat∧c2.toNat≤57:=by
     rcases scan_cons Hsc.out with ⟨_,_,h⟩ | ⟨_,h⟩<;>exact scan_dig h
    obtain ⟨hlt2,hcc2,_,_⟩:=at_byte2 (pre:=[]) (c:=43) (d:=c) (f:=c2) (l:=l2) (by simpa using Hs.out)
    simp only [List.length_nil,Nat.zero_add] at hlt2 hcc2
    have hlow:=(low_bits c2.toNat (by omega) (by omega)).1
    clear h48
    go_wp2_with fail
    refine (low_any _ _).mono ?_
    rintro e w1 ⟨rfl,hw⟩
    subst w1
    go_wp2_with fail
    go_meet
    case rel=>exact ⟨rfl,rfl⟩
   ·have hb:((c.toNat:Int) == 48)=false:=by simp;omega
    clear h48
    go_wp2_with fail
    go_meet
    case rel=>exact ⟨rfl,rfl⟩
  ·go_wp2_with fail
   go_meet
   case rel=>exact ⟨rfl,rfl⟩
 case rest =>
  obtain ⟨rfl,rfl⟩:=hcut
  go_wp2_with fail
  go_step3
  go_wp2_with fail
  have Hl0:=Lib.hid (show (c::l1).length=(c::l1).length from rfl)
  go_loopg [2,5,7,9,13,14,15,16,17] ((c::l1).length) (fun g t2 t5 t7 t9 t13 t14 t15 t16 t17 wr=>∃ (q l':By) (M nd mm:Nat) (dp d' p' a':Int) (tr sd sg:Bool),g=l'.length∧t2=.int .u64 M∧t5=.bool tr∧t7=.int .i64 (([43] ++ q:By).length:Nat)∧t9=.bool false∧t13=.bool sd∧t14=.bool sg∧t15=.int .i64 nd∧t16=.int .i64 mm∧t17=.int .i64 dp∧mm=min nd 19∧sd=(p' == 1)∧sg=decide (0 < d') ∧
   s.data.toList=([43] ++ q) ++ l'∧numScan l' d' p' a'=some (d,1,a)∧rfF l' M nd dp tr=rfF (c::l1) 0 0 0 false∧RfI M nd dp tr d' p' a'∧w=wr)
  case atStart=>exact ⟨[],c::l1,0,0,0,0,0,0,0,false,false,false,Hl0.out,rfl,rfl,rfl,rfl,rfl,rfl,rfl,rfl,rfl,by simp,by simp,by simp,by simpa using Hs.out,Hsc.out,rfl,RfI.start,rfl⟩
  case round =>
   clear Hl0
   obtain ⟨q,l',M,nd,mm,dp,d',p',a',tr,sd,sg,hg,rfl,rfl,rfl,rfl,rfl,rfl,rfl,rfl,rfl,hmm,hsd,hsg,hsl,hsc',hrf,hI,rfl⟩:=hrel
   have hsm:=scan_mono _ _ _ _ _ _ _ hsc'
   obtain ⟨pq,hpq⟩:∃ pq,pq=[43] ++ q:=⟨_,rfl⟩
   rw [←hpq] at hsl ⊢
   have hndb:nd≤60:=by have:=hI.nd_d;omega
   have hdpb1:-60≤dp:=by have:=hI.lo;omega
   have hdpb2:dp≤14:=by have:=hI.hi;omega
   have hp0:=hI.p0
   have hmm9:mm≤19:=by omega
   have Hpq:=Lib.hid hpq;clear hpq
   have Hg:=Lib.hid hg;clear hg
   have Hrf:=Lib.hid hrf;clear hrf
   have HI:=Lib.hid hI;clear hI
   have Hsc':=Lib.hid hsc';clear hsc'
   have Hmm:=Lib.hid hmm;clear hmm
   cases l' with
   | nil =>
    have hlt9:¬pq.length < s.size:=by have:=congrArg List.length hsl;simp at this;omega
    have hpqs:(pq.length:Int)=(s.size:Int):=by have:=congrArg List.length hsl;simp at this;omega
    have hend:d'=d∧p'=1:=by have:=Hsc'.out;simp [numScan] at this;omega
    obtain rfl:sd=true:=by rw [hsd];simp;omega
    obtain rfl:sg=true:=by rw [hsg];simp;omega
    have Hsl:=Lib.hid hsl;clear hsl
    have Hpqs:=Lib.hid hpqs;clear hpqs
    clear hsd hsg hsm hend
    by_cases hM:M=0
    ·have hMb:((M:Int) != 0)=false:=by simp;omega
     have HM:=Lib.hid hM
     clear hM
     go_wp2_with fail
     rw [Exit.noGoto_ret]
     refine bodyPost_ret (v:=.tuple #[.int .u64 M,.int .i64 (0),.bool false,.bool tr,.bool false,.int .i64 pq.length,.bool true]) (by simp [results,Tryz.results143,go_sem]) rfl ⟨?_,rfl⟩
     rw [←HR.out]
     unfold rfRet
     rw [Hst.out,←Hrf.out]
     have hc45:((c.toNat:Int) == 45)=false:=by simp;omega
     simp [rfF,headIs,hc45,HM.out,Hmm.out,Hpqs.out]
    ·have hMb:((M:Int) != 0)=true:=by simp;omega
     have HM:=Lib.hid hM
     clear hM
     go_wp2_with fail
     rw [Exit.noGoto_ret]
     refine bodyPost_ret (v:=.tuple #[.int .u64 M,.int .i64 (dp - mm),.bool false,.bool tr,.bool false,.int .i64 pq.length,.bool true]) (by simp [results,Tryz.results143,go_sem]) rfl ⟨?_,rfl⟩
     rw [←HR.out]
     unfold rfRet
     rw [Hst.out,←Hrf.out]
     have hc45:((c.toNat:Int) == 45)=false:=by simp;omega
     simp [rfF,headIs,hc45,HM.out,Hmm.out,Hpqs.out]
   | cons c3 l3 =>
    obtain ⟨hlt3,hc3,hd3,hr3,hr4⟩:=at_byte hsl
    have Hsl:=Lib.hid hsl;clear hsl
    have h95:((c3.toNat:Int) == 95)=false:=by have:=scan_dig Hsc'.out;simp;omega
    rcases scan_cons Hsc'.out with ⟨hz1,hz2,hz3⟩ | ⟨hz1,hz3⟩
    ·have h46:((c3.toNat:Int) == 46)=false:=by rcases scan_cons Hsc'.out with h | h;simp;omega;simp;omega
     have hMd:mm < 19→M≤999999999999999999:=by
      intro h
      have h1:=HI.out.m
      have h2:=Hmm.out
      have h3:10 ^ min nd 19≤10 ^ 18:=pow10_le (by omega)
      have h4:(10:Nat) ^ 18=1000000000000000000:=by decide
      omega
     have hd8:=HI.out.nd_d
     have Hz3:=Lib.hid hz3;clear hz3
     have Hsd:=Lib.hid hsd;clear hsd
     clear hsg hsm
     have Hcn:=Lib.hid (show ¬c3.toNat=46 by omega)
     by_cases h48:c3.toNat=48
     ·have hb48:((c3.toNat:Int) == 48)=true:=by simp;omega
      have hb48n:((c3.toNat:Int) != 48)=false:=by simp;omega
      have H48:=Lib.hid h48
      clear h48
      by_cases hn0:nd=0
      ·have hbn:((nd:Int) == 0)=true:=by simp;omega
       have Hn0:=Lib.hid hn0
       clear hn0 hMd
       go_wp2_with fail
       go_roundg l3.length
       case measure=>rw [Hg.out];simp
       case rel =>
        refine ⟨q ++ [c3],l3,M,nd,mm,dp - 1,d' + 1,p',(if p' == 0 then a' + 1 else a'),tr,sd,true,rfl,by go_num,rfl,by rw [←List.append_assoc,←Hpq.out];simp,rfl,rfl,rfl,by go_num,by go_num,by go_num,?_,Hsd.out,by simp;omega,by rw [←List.append_assoc,←Hpq.out,Hsl.out];simp,Hz3.out,?_,?_,rfl⟩
        ·exact Hmm.out
        ·rw [←Hrf.out];simp only [rfF];rw [if_neg Hcn.out,if_pos ⟨H48.out,Hn0.out⟩]
        ·exact HI.out.zero Hn0.out
      ·have hbn:((nd:Int) == 0)=false:=by simp;omega
       have Hn0:=Lib.hid hn0
       clear hn0
       by_cases h19:mm < 19
       ·have hM18:=hMd h19
        have Hmn:=Lib.hid (show mm=nd∧nd < 19 by have:=Hmm.out;omega)
        clear hMd
        go_wp2_with fail
        go_roundg l3.length
        case measure=>rw [Hg.out];simp
        case rel =>
         refine ⟨q ++ [c3],l3,M * 10 + (c3.toNat - 48),nd + 1,mm + 1,dp,d' + 1,p',(if p' == 0 then a' + 1 else a'),tr,sd,true,rfl,by go_num,rfl,by rw [←List.append_assoc,←Hpq.out];simp,rfl,rfl,rfl,by go_num,by go_num,by go_num,?_,Hsd.out,by simp;omega,by rw [←List.append_assoc,←Hpq.out,Hsl.out];simp,Hz3.out,?_,?_,rfl⟩
         ·have:=Hmn.out;omega
         ·rw [←Hrf.out];simp only [rfF];rw [if_neg Hcn.out,if_neg (by first | exact fun x=>H48.out x.1 | exact fun x=>Hn0.out x.2),if_pos Hmn.out.2]
         ·exact HI.out.dig (by omega) (by first | exact fun x=>H48.out (by omega) | exact fun x=>Hn0.out x.2) Hmn.out.2
       ·have Hmn:=Lib.hid (show mm=19∧¬nd < 19 by have:=Hmm.out;omega)
        clear hMd
        go_wp2_with fail
        go_roundg l3.length
        case measure=>rw [Hg.out];simp
        case rel =>
         refine ⟨q ++ [c3],l3,M,nd + 1,mm,dp,d' + 1,p',(if p' == 0 then a' + 1 else a'),tr,sd,true,rfl,by go_num,rfl,by rw [←List.append_assoc,←Hpq.out];simp,rfl,rfl,rfl,by go_num,by go_num,by go_num,?_,Hsd.out,by simp;omega,by rw [←List.append_assoc,←Hpq.out,Hsl.out];simp,Hz3.out,?_,?_,rfl⟩
         ·have:=Hmn.out;omega
         ·rw [←Hrf.out];simp only [rfF];rw [if_neg Hcn.out,if_neg (by first | exact fun x=>H48.out x.1 | exact fun x=>Hn0.out x.2),if_neg Hmn.out.2,if_pos H48.out]
         ·exact HI.out.more Hmn.out.2
     ·have hb48:((c3.toNat:Int) == 48)=false:=by simp;omega
      have hb48n:((c3.toNat:Int) != 48)=true:=by simp;omega
      have H48:=Lib.hid h48
      clear h48
      by_cases h19:mm < 19
      ·have hM18:=hMd h19
       have Hmn:=Lib.hid (show mm=nd∧nd < 19 by have:=Hmm.out;omega)
       clear hMd
       go_wp2_with fail
       go_roundg l3.length
       case measure=>rw [Hg.out];simp
       case rel =>
        refine ⟨q ++ [c3],l3,M * 10 + (c3.toNat - 48),nd + 1,mm + 1,dp,d' + 1,p',(if p' == 0 then a' + 1 else a'),tr,sd,true,rfl,by go_num,rfl,by rw [←List.append_assoc,←Hpq.out];simp,rfl,rfl,rfl,by go_num,by go_num,by go_num,?_,Hsd.out,by simp;omega,by rw [←List.append_assoc,←Hpq.out,Hsl.out];simp,Hz3.out,?_,?_,rfl⟩
        ·have:=Hmn.out;omega
        ·rw [←Hrf.out];simp only [rfF];rw [if_neg Hcn.out,if_neg (by first | exact fun x=>H48.out x.1 | exact fun x=>Hn0.out x.2),if_pos Hmn.out.2]
        ·exact HI.out.dig (by omega) (by first | exact fun x=>H48.out (by omega) | exact fun x=>Hn0.out x.2) Hmn.out.2
      ·have Hmn:=Lib.hid (show mm=19∧¬nd < 19 by have:=Hmm.out;omega)
       clear hMd
       go_wp2_with fail
       go_roundg l3.length
       case measure=>rw [Hg.out];simp
       case rel =>
        refine ⟨q ++ [c3],l3,M,nd + 1,mm,dp,d' + 1,p',(if p' == 0 then a' + 1 else a'),true,sd,true,rfl,by go_num,rfl,by rw [←List.append_assoc,←Hpq.out];simp,rfl,rfl,rfl,by go_num,by go_num,by go_num,?_,Hsd.out,by simp;omega,by rw [←List.append_assoc,←Hpq.out,Hsl.out];simp,Hz3.out,?_,?_,rfl⟩
        ·have:=Hmn.out;omega
        ·rw [←Hrf.out];simp only [rfF];rw [if_neg Hcn.out,if_neg (by first | exact fun x=>H48.out x.1 | exact fun x=>Hn0.out x.2),if_neg Hmn.out.2,if_neg H48.out]
        ·exact HI.out.more Hmn.out.2
    ·have h46:((c3.toNat:Int) == 46)=true:=by simp;omega
     have hp1:=scan_mono _ _ _ _ _ _ _ hz3
     obtain rfl:sd=false:=by rw [hsd];simp;omega
     have Hz3:=Lib.hid hz3;clear hz3
     have Hsg:=Lib.hid hsg;clear hsg
     have HZ1:=Lib.hid hz1
     clear hsd hsm hz1
     have hp9:p'=0:=by omega
     have Hp9:=Lib.hid hp9
     clear hp1 hp9
     go_wp2_with fail
     go_roundg l3.length
     case measure=>rw [Hg.out];simp
     case rel=>exact ⟨q ++ [c3],l3,M,nd,mm,nd,d',p' + 1,a',tr,true,sg,rfl,rfl,rfl,by rw [←List.append_assoc,←Hpq.out];simp,rfl,rfl,rfl,rfl,rfl,rfl,Hmm.out,by rw [Hp9.out];rfl,Hsg.out,by rw [←List.append_assoc,←Hpq.out,Hsl.out];simp,Hz3.out,by rw [←Hrf.out];simp only [rfF];rw [if_pos HZ1.out],HI.out.point Hp9.out,rfl⟩
end Go.Proofs.YtfkecmlmnhbmoaaGreatDoor
namespace Go.Proofs.YtfkecmlmnhbmoaaGreatDoor
open Go Go.RowKit
set_option maxRecDepth 100000 in
set_option maxHeartbeats 40000000 in
theorem rf_c (w : World) (s : ByteArray) (c : UInt8) (l1 : By) (d a : Int) (hs : s.data.toList = [45] ++ c :: l1) (hst : numStrip ([45] ++ c :: l1) = c :: l1) (hsc : numScan (c :: l1) 0 0 0 = some (d, 1, a)) (hd1 : 1 ≤ d) (hd2 : d ≤ 60) (ha : a ≤ 14) (hs2 : s.size ≤ 1000) :
  Calls Tryz.prog 143 #[.string s] w fun e w'=>e=rfRet ([45] ++ c::l1) s.size∧w'=w:=by
 generalize hR:rfRet ([45] ++ c::l1) s.size=R
 have HR:=Lib.hid hR;clear hR
 obtain ⟨hc1,hc2⟩:=scan_dig hsc
 have Hsc:=Lib.hid hsc;clear hsc
 have Hst:=Lib.hid hst;clear hst
 obtain ⟨hlt,hcc,hd,hc0,_⟩:=at_byte (pre:=[]) (c:=45) (l:=c::l1) (by simpa using hs)
 obtain ⟨hlt1,hcc1,_,_⟩:=at_byte1 (pre:=[]) (c:=45) (d:=c) (l:=l1) (by simpa using hs)
 simp only [List.length_nil,Nat.zero_add] at hlt1 hcc1
 simp only [List.length_nil] at hlt hcc hd
 have h1:¬s=ByteArray.empty:=by intro e;rw [e] at hlt;exact absurd hlt (by decide)
 have Hs:=Lib.hid hs;clear hs
 go_enter Tryz.func143,Tryz.ntmps143
 go_wp2_with fail
 go_step3
 go_upto_region 12 with (fail)
 go_cut [54] from 21 (fun t54 wr=>t54=.bool false∧w=wr)
 case first =>
  by_cases hl2:3 < s.size
  ·by_cases h48:c.toNat=48
   ·have hb:((c.toNat:Int) == 48)=true:=by simp;omega
    obtain ⟨c2,l2,rfl⟩:∃ c2 l2,l1=c2::l2:=by
     cases l1 with
     | nil=>have:=congrArg List.length Hs.out;simp at this;omega
     | cons c2 l2=>exact ⟨c2,l2,rfl⟩
    have hc22:46≤c2.toNat∧c2.toNat≤57:=by
     rcases scan_cons Hsc.out with ⟨_,_,h⟩ | ⟨_,h⟩<;>exact scan_dig h
    obtain ⟨hlt2,hcc2,_,_⟩:=at_byte2 (pre:=[]) (c:=45) (d:=c) (f:=c2) (l:=l2) (by simpa using Hs.out)
    simp only [List.length_nil,Nat.zero_add] at hlt2 hcc2
    have hlow:=(low_bits c2.toNat (by omega) (by omega)).1
    clear h48
    go_wp2_with fail
    refine (low_any _ _).mono ?_
    rintro e w1 ⟨rfl,hw⟩
    subst w1
    go_wp2_with fail
    go_meet
    case rel=>exact ⟨rfl,rfl⟩
   ·have hb:((c.toNat:Int) == 48)=false:=by simp;omega
    clear h48
    go_wp2_with fail
    go_meet
    case rel=>exact ⟨rfl,rfl⟩
  ·go_wp2_with fail
   go_meet
   case rel=>exact ⟨rfl,rfl⟩
 case rest =>
  obtain ⟨rfl,rfl⟩:=hcut
  go_wp2_with fail
  go_step3
  go_wp2_with fail
  have Hl0:=Lib.hid (show (c::l1).length=(c::l1).length from rfl)
  go_loopg [2,5,7,9,13,14,15,16,17] ((c::l1).length) (fun g t2 t5 t7 t9 t13 t14 t15 t16 t17 wr=>∃ (q l':By) (M nd mm:Nat) (dp d' p' a':Int) (tr sd sg:Bool),g=l'.length∧t2=.int .u64 M∧t5=.bool tr∧t7=.int .i64 (([45] ++ q:By).length:Nat)∧t9=.bool false∧t13=.bool sd∧t14=.bool sg∧t15=.int .i64 nd∧t16=.int .i64 mm∧t17=.int .i64 dp∧mm=min nd 19∧sd=(p' == 1)∧sg=decide (0 < d') ∧
   s.data.toList=([45] ++ q) ++ l'∧numScan l' d' p' a'=some (d,1,a)∧rfF l' M nd dp tr=rfF (c::l1) 0 0 0 false∧RfI M nd dp tr d' p' a'∧w=wr)
  case atStart=>exact ⟨[],c::l1,0,0,0,0,0,0,0,false,false,false,Hl0.out,rfl,rfl,rfl,rfl,rfl,rfl,rfl,rfl,rfl,by simp,by simp,by simp,by simpa using Hs.out,Hsc.out,rfl,RfI.start,rfl⟩
  case round =>
   clear Hl0
   obtain ⟨q,l',M,nd,mm,dp,d',p',a',tr,sd,sg,hg,rfl,rfl,rfl,rfl,rfl,rfl,rfl,rfl,rfl,hmm,hsd,hsg,hsl,hsc',hrf,hI,rfl⟩:=hrel
   have hsm:=scan_mono _ _ _ _ _ _ _ hsc'
   obtain ⟨pq,hpq⟩:∃ pq,pq=[45] ++ q:=⟨_,rfl⟩
   rw [←hpq] at hsl ⊢
   have hndb:nd≤60:=by have:=hI.nd_d;omega
   have hdpb1:-60≤dp:=by have:=hI.lo;omega
   have hdpb2:dp≤14:=by have:=hI.hi;omega
   have hp0:=hI.p0
   have hmm9:mm≤19:=by omega
   have Hpq:=Lib.hid hpq;clear hpq
   have Hg:=Lib.hid hg;clear hg
   have Hrf:=Lib.hid hrf;clear hrf
   have HI:=Lib.hid hI;clear hI
   have Hsc':=Lib.hid hsc';clear hsc'
   have Hmm:=Lib.hid hmm;clear hmm
   cases l' with
   | nil =>
    have hlt9:¬pq.length < s.size:=by have:=congrArg List.length hsl;simp at this;omega
    have hpqs:(pq.length:Int)=(s.size:Int):=by have:=congrArg List.length hsl;simp at this;omega
    have hend:d'=d∧p'=1:=by have:=Hsc'.out;simp [numScan] at this;omega
    obtain rfl:sd=true:=by rw [hsd];simp;omega
    obtain rfl:sg=true:=by rw [hsg];simp;omega
    have Hsl:=Lib.hid hsl;clear hsl
    have Hpqs:=Lib.hid hpqs;clear hpqs
    clear hsd hsg hsm hend
    by_cases hM:M=0
    ·have hMb:((M:Int) != 0)=false:=by simp;omega
     have HM:=Lib.hid hM
     clear hM
     go_wp2_with fail
     rw [Exit.noGoto_ret]
     refine bodyPost_ret (v:=.tuple #[.int .u64 M,.int .i64 (0),.bool true,.bool tr,.bool false,.int .i64 pq.length,.bool true]) (by simp [results,Tryz.results143,go_sem]) rfl ⟨?_,rfl⟩
     rw [←HR.out]
     unfold rfRet
     rw [Hst.out,←Hrf.out]
     have hc45:((c.toNat:Int) == 45)=false:=by simp;omega
     simp [rfF,headIs,hc45,HM.out,Hmm.out,Hpqs.out]
    ·have hMb:((M:Int) != 0)=true:=by simp;omega
     have HM:=Lib.hid hM
     clear hM
     go_wp2_with fail
     rw [Exit.noGoto_ret]
     refine bodyPost_ret (v:=.tuple #[.int .u64 M,.int .i64 (dp - mm),.bool true,.bool tr,.bool false,.int .i64 pq.length,.bool true]) (by simp [results,Tryz.results143,go_sem]) rfl ⟨?_,rfl⟩
     rw [←HR.out]
     unfold rfRet
     rw [Hst.out,←Hrf.out]
     have hc45:((c.toNat:Int) == 45)=false:=by simp;omega
     simp [rfF,headIs,hc45,HM.out,Hmm.out,Hpqs.out]
   | cons c3 l3 =>
    obtain ⟨hlt3,hc3,hd3,hr3,hr4⟩:=at_byte hsl
    have Hsl:=Lib.hid hsl;clear hsl
    have h95:((c3.toNat:Int) == 95)=false:=by have:=scan_dig Hsc'.out;simp;omega
    rcases scan_cons Hsc'.out with ⟨hz1,hz2,hz3⟩ | ⟨hz1,hz3⟩
    ·have h46:((c3.toNat:Int) == 46)=false:=by rcases scan_cons Hsc'.out with h | h;simp;omega;simp;omega
     have hMd:mm < 19→M≤999999999999999999:=by
      intro h
      have h1:=HI.out.m
      have h2:=Hmm.out
      have h3:10 ^ min nd 19≤10 ^ 18:=pow10_le (by omega)
      have h4:(10:Nat) ^ 18=1000000000000000000:=by decide
      omega
     have hd8:=HI.out.nd_d
     have Hz3:=Lib.hid hz3;clear hz3
     have Hsd:=Lib.hid hsd;clear hsd
     clear hsg hsm
     have Hcn:=Lib.hid (show ¬c3.toNat=46 by omega)
     by_cases h48:c3.toNat=48
     ·have hb48:((c3.toNat:Int) == 48)=true:=by simp;omega
      have hb48n:((c3.toNat:Int) != 48)=false:=by simp;omega
      have H48:=Lib.hid h48
      clear h48
      by_cases hn0:nd=0
      ·have hbn:((nd:Int) == 0)=true:=by simp;omega
       have Hn0:=Lib.hid hn0
       clear hn0 hMd
       go_wp2_with fail
       go_roundg l3.length
       case measure=>rw [Hg.out];simp
       case rel =>
        refine ⟨q ++ [c3],l3,M,nd,mm,dp - 1,d' + 1,p',(if p' == 0 then a' + 1 else a'),tr,sd,true,rfl,by go_num,rfl,by rw [←List.append_assoc,←Hpq.out];simp,rfl,rfl,rfl,by go_num,by go_num,by go_num,?_,Hsd.out,by simp;omega,by rw [←List.append_assoc,←Hpq.out,Hsl.out];simp,Hz3.out,?_,?_,rfl⟩
        ·exact Hmm.out
        ·rw [←Hrf.out];simp only [rfF];rw [if_neg Hcn.out,if_pos ⟨H48.out,Hn0.out⟩]
        ·exact HI.out.zero Hn0.out
      ·have hbn:((nd:Int) == 0)=false:=by simp;omega
       have Hn0:=Lib.hid hn0
       clear hn0
       by_cases h19:mm < 19
       ·have hM18:=hMd h19
        have Hmn:=Lib.hid (show mm=nd∧nd < 19 by have:=Hmm.out;omega)
        clear hMd
        go_wp2_with fail
        go_roundg l3.length
        case measure=>rw [Hg.out];simp
        case rel =>
         refine ⟨q ++ [c3],l3,M * 10 + (c3.toNat - 48),nd + 1,mm + 1,dp,d' + 1,p',(if p' == 0 then a' + 1 else a'),tr,sd,true,rfl,by go_num,rfl,by rw [←List.append_assoc,←Hpq.out];simp,rfl,rfl,rfl,by go_num,by go_num,by go_num,?_,Hsd.out,by simp;omega,by rw [←List.append_assoc,←Hpq.out,Hsl.out];simp,Hz3.out,?_,?_,rfl⟩
         ·have:=Hmn.out;omega
         ·rw [←Hrf.out];simp only [rfF];rw [if_neg Hcn.out,if_neg (by first | exact fun x=>H48.out x.1 | exact fun x=>Hn0.out x.2),if_pos Hmn.out.2]
         ·exact HI.out.dig (by omega) (by first | exact fun x=>H48.out (by omega) | exact fun x=>Hn0.out x.2) Hmn.out.2
       ·have Hmn:=Lib.hid (show mm=19∧¬nd < 19 by have:=Hmm.out;omega)
        clear hMd
        go_wp2_with fail
        go_roundg l3.length
        case measure=>rw [Hg.out];simp
        case rel =>
         refine ⟨q ++ [c3],l3,M,nd + 1,mm,dp,d' + 1,p',(if p' == 0 then a' + 1 else a'),tr,sd,true,rfl,by go_num,rfl,by rw [←List.append_assoc,←Hpq.out];simp,rfl,rfl,rfl,by go_num,by go_num,by go_num,?_,Hsd.out,by simp;omega,by rw [←List.append_assoc,←Hpq.out,Hsl.out];simp,Hz3.out,?_,?_,rfl⟩
         ·have:=Hmn.out;omega
         ·rw [←Hrf.out];simp only [rfF];rw [if_neg Hcn.out,if_neg (by first | exact fun x=>H48.out x.1 | exact fun x=>Hn0.out x.2),if_neg Hmn.out.2,if_pos H48.out]
         ·exact HI.out.more Hmn.out.2
     ·have hb48:((c3.toNat:Int) == 48)=false:=by simp;omega
      have hb48n:((c3.toNat:Int) != 48)=true:=by simp;omega
      have H48:=Lib.hid h48
      clear h48
      by_cases h19:mm < 19
      ·have hM18:=hMd h19
       have Hmn:=Lib.hid (show mm=nd∧nd < 19 by have:=Hmm.out;omega)
       clear hMd
       go_wp2_with fail
       go_roundg l3.length
       case measure=>rw [Hg.out];simp
       case rel =>
        refine ⟨q ++ [c3],l3,M * 10 + (c3.toNat - 48),nd + 1,mm + 1,dp,d' + 1,p',(if p' == 0 then a' + 1 else a'),tr,sd,true,rfl,by go_num,rfl,by rw [←List.append_assoc,←Hpq.out];simp,rfl,rfl,rfl,by go_num,by go_num,by go_num,?_,Hsd.out,by simp;omega,by rw [←List.append_assoc,←Hpq.out,Hsl.out];simp,Hz3.out,?_,?_,rfl⟩
        ·have:=Hmn.out;omega
        ·rw [←Hrf.out];simp only [rfF];rw [if_neg Hcn.out,if_neg (by first | exact fun x=>H48.out x.1 | exact fun x=>Hn0.out x.2),if_pos Hmn.out.2]
        ·exact HI.out.dig (by omega) (by first | exact fun x=>H48.out (by omega) | exact fun x=>Hn0.out x.2) Hmn.out.2
      ·have Hmn:=Lib.hid (show mm=19∧¬nd < 19 by have:=Hmm.out;omega)
       clear hMd
       go_wp2_with fail
       go_roundg l3.length
       case measure=>rw [Hg.out];simp
       case rel =>
        refine ⟨q ++ [c3],l3,M,nd + 1,mm,dp,d' + 1,p',(if p' == 0 then a' + 1 else a'),true,sd,true,rfl,by go_num,rfl,by rw [←List.append_assoc,←Hpq.out];simp,rfl,rfl,rfl,by go_num,by go_num,by go_num,?_,Hsd.out,by simp;omega,by rw [←List.append_assoc,←Hpq.out,Hsl.out];simp,Hz3.out,?_,?_,rfl⟩
        ·have:=Hmn.out;omega
        ·rw [←Hrf.out];simp only [rfF];rw [if_neg Hcn.out,if_neg (by first | exact fun x=>H48.out x.1 | exact fun x=>Hn0.out x.2),if_neg Hmn.out.2,if_neg H48.out]
        ·exact HI.out.more Hmn.out.2
    ·have h46:((c3.toNat:Int) == 46)=true:=by simp;omega
     have hp1:=scan_mono _ _ _ _ _ _ _ hz3
     obtain rfl:sd=false:=by rw [hsd];simp;omega
     have Hz3:=Lib.hid hz3;clear hz3
     have Hsg:=Lib.hid hsg;clear hsg
     have HZ1:=Lib.hid hz1
     clear hsd hsm hz1
     have hp9:p'=0:=by omega
     have Hp9:=Lib.hid hp9
     clear hp1 hp9
     go_wp2_with fail
     go_roundg l3.length
     case measure=>rw [Hg.out];simp
     case rel=>exact ⟨q ++ [c3],l3,M,nd,mm,nd,d',p' + 1,a',tr,true,sg,rfl,rfl,rfl,by rw [←List.append_assoc,←Hpq.out];simp,rfl,rfl,rfl,rfl,rfl,rfl,Hmm.out,by rw [Hp9.out];rfl,Hsg.out,by rw [←List.append_assoc,←Hpq.out,Hsl.out];simp,Hz3.out,by rw [←Hrf.out];simp only [rfF];rw [if_pos HZ1.out],HI.out.point Hp9.out,rfl⟩
end Go.Proofs.YtfkecmlmnhbmoaaGreatDoor
namespace Go.Proofs.YtfkecmlmnhbmoaaGreatDoor
open Go Go.RowKit
set_option maxRecDepth 100000 in
set_option maxHeartbeats 40000000 in
theorem set_b (w:World) (b:Nat) (A:By) (s:ByteArray) (c:UInt8) (l1:By) (d a:Int) (hD:DecAt w b A 0 0 false false) (hs:s.data.toList=[43] ++ c::l1) (hsc:numScan (c::l1) 0 0 0=some (d,1,a)) (hd1:1≤d) (hd2:d≤60) (ha:a≤14) (hs2:s.size≤1000) :
  Calls Tryz.prog 149 #[.pointer (some ⟨b,0,none⟩),.string s] w fun e w'=>e=.returned (.bool true)∧DecN w' b (stF (c::l1) 0 0).1 (stF (c::l1) 0 0).2 false false∧w.grownBy w' (some b):=by
 generalize hR:stF (c::l1) 0 0=R
 have HR:=Lib.hid hR;clear hR
 obtain ⟨hc1,hc2⟩:=scan_dig hsc
 have Hsc:=Lib.hid hsc;clear hsc
 obtain ⟨c0,c1,c2,c3,cf⟩:=hD.cells
 have HD:=Lib.hid hD;clear hD
 obtain ⟨hlt,hcc,hd,hc0,_⟩:=at_byte (pre:=[]) (c:=43) (l:=c::l1) (by simpa using hs)
 simp only [List.length_nil] at hlt hcc hd
 have h1:¬s=ByteArray.empty:=by intro e;rw [e] at hlt;exact absurd hlt (by decide)
 have Hs:=Lib.hid hs;clear hs
 go_enter Tryz.func149,Tryz.ntmps149
 go_wp2_with fail
 have Hl0:=Lib.hid (show (c::l1).length=(c::l1).length from rfl)
 go_loopg [5,6,7] ((c::l1).length) (fun g t5 t6 t7 wr=>∃ (q l':By) (N:Nat) (dp d' p' a':Int) (sd sg:Bool),g=l'.length∧t5=.int .i64 (([43] ++ q:By).length:Nat)∧t6=.bool sd∧t7=.bool sg∧sd=(p' == 1)∧sg=decide (0 < d') ∧
  s.data.toList=([43] ++ q) ++ l'∧numScan l' d' p' a'=some (d,1,a)∧stF l' N dp=R∧(numD N:Nat)≤d'∧-d'≤dp∧dp≤d'∧0≤p'∧DecN wr b N dp false false∧w.grownBy wr (some b))
 case atStart=>exact ⟨[],c::l1,0,0,0,0,0,false,false,Hl0.out,rfl,rfl,rfl,by simp,by simp,by simpa using Hs.out,Hsc.out,HR.out,by rw [numD_zero];simp,by omega,by omega,by omega,DecN.zero ((HD.out.setNeg false).setTr false),(by repeat (first | with_reducible exact World.grownBy.refl w (some b) | with_reducible apply gr_alloc | with_reducible apply gr_drewN | with_reducible apply gr_drew | with_reducible apply gr_set | ((with_reducible refine gr_setM ?_ ?_ _ _);rotate_left;(first | omega | (simp;omega)))))⟩
 case round =>
  clear Hl0 c0 c1 c2 c3 cf
  obtain ⟨q,l',N,dp,d',p',a',sd,sg,hg,rfl,rfl,rfl,hsd,hsg,hsl,hsc',hst,hnd,hdp1,hdp2,hp0,hD,hG⟩:=hrel
  have hsm:=scan_mono _ _ _ _ _ _ _ hsc'
  obtain ⟨c0,c1,c2,c3,cf⟩:=hD.cells
  obtain ⟨pq,hpq⟩:∃ pq,pq=[43] ++ q:=⟨_,rfl⟩
  rw [←hpq] at hsl ⊢
  obtain ⟨nd,hndd⟩:∃ nd,nd=numD N:=⟨_,rfl⟩
  rw [←hndd] at c0 hnd
  have hndb:nd≤60:=by omega
  have hdpb1:-60≤dp:=by omega
  have hdpb2:dp≤60:=by omega
  have Hpq:=Lib.hid hpq;clear hpq
  have Hnd:=Lib.hid hndd;clear hndd
  have Hg:=Lib.hid hg;clear hg
  have Hst:=Lib.hid hst;clear hst
  have Hsc':=Lib.hid hsc';clear hsc'
  have HG:=Lib.hid hG;clear hG
  cases l' with
  | nil =>
   have hlt9:¬pq.length < s.size:=by have:=congrArg List.length hsl;simp at this;omega
   have hpqs:((pq.length:Int) != (s.size:Int))=false:=by have:=congrArg List.length hsl;simp at this ⊢;omega
   have hend:d'=d∧p'=1:=by have:=Hsc'.out;simp [numScan] at this;omega
   obtain rfl:sd=true:=by rw [hsd];simp;omega
   obtain rfl:sg=true:=by rw [hsg];simp;omega
   have Hsl:=Lib.hid hsl;clear hsl
   have HD2:=Lib.hid hD;clear hD
   clear hsd hsg hsm hend
   go_wp2_with fail
   go_ret
   have e:R=(N,dp):=by rw [←Hst.out];rfl
   rw [e]
   exact ⟨rfl,HD2.out,HG.out⟩
  | cons c3' l3 =>
   obtain ⟨hlt3,hc3,hd3,hr3,hr4⟩:=at_byte hsl
   have Hsl:=Lib.hid hsl;clear hsl
   have h95:((c3'.toNat:Int) == 95)=false:=by have:=scan_dig Hsc'.out;simp;omega
   rcases scan_cons Hsc'.out with ⟨hz1,hz2,hz3⟩ | ⟨hz1,hz3⟩
   ·have h46:((c3'.toNat:Int) == 46)=false:=by simp;omega
    have hm2:=scan_mono _ _ _ _ _ _ _ hz3
    have Hz3:=Lib.hid hz3;clear hz3
    have Hsd:=Lib.hid hsd;clear hsd
    clear hsg hsm
    have hdd:0≤d':=by omega
    have Hcn:=Lib.hid (show ¬c3'.toNat=46 by omega)
    have hNz:nd=0↔N=0:=by
     have:=Hnd.out
     constructor
     ·intro e;by_cases h0:N=0
      ·exact h0
      ·have:=numD_pos1 h0;omega
     ·intro e;rw [this,e,numD_zero]
    by_cases h48:c3'.toNat=48
    ·have hb48:((c3'.toNat:Int) == 48)=true:=by simp;omega
     have H48:=Lib.hid h48
     clear h48
     by_cases hn0:nd=0
     ·have hbn:((nd:Int) == 0)=true:=by simp;omega
      have HN0:=Lib.hid (hNz.1 hn0)
      have Hn0:=Lib.hid hn0
      clear hn0 hNz
      have HD2:=Lib.hid hD;clear hD
      go_wp2_with fail
      go_roundg l3.length
      case measure=>rw [Hg.out];simp
      case rel =>
       refine ⟨q ++ [c3'],l3,N,dp - 1,d' + 1,p',_,sd,true,rfl,by rw [←List.append_assoc,←Hpq.out];simp,rfl,rfl,Hsd.out,by simp;omega,by rw [←List.append_assoc,←Hpq.out,Hsl.out];simp,Hz3.out,?_,by rw [←Hnd.out];omega,by omega,by omega,hp0,HD2.out.setDp _,(by repeat (first | with_reducible exact HG.out | with_reducible apply gr_alloc | with_reducible apply gr_drewN | with_reducible apply gr_drew | with_reducible apply gr_set | ((with_reducible refine gr_setM ?_ ?_ _ _);rotate_left;(first | omega | (simp;omega)))))⟩
       rw [←Hst.out];simp only [stF];rw [if_neg Hcn.out,if_pos ⟨H48.out,HN0.out⟩]
     ·have hbn:((nd:Int) == 0)=false:=by simp;omega
      have HNz:=Lib.hid (show ¬(c3'.toNat=48∧N=0) from fun x=>hn0 (hNz.2 x.2))
      clear hn0 hNz
      obtain ⟨c9,hc9,cw⟩:∃ c9:UInt8,True∧wr.cell? ⟨b,nd,none⟩=some (.int .u8 (c9.toNat:Int)):=by
       obtain ⟨_,A9,hA9,_,_⟩:=hD
       obtain ⟨c9,_,cw⟩:=hA9.digE (i:=nd) (by omega)
       exact ⟨c9,trivial,cw⟩
      clear hc9
      have HD2:=Lib.hid hD;clear hD
      go_wp2_with fail
      (refine wp_region_quiet_tail 11 (by kernel_rfl) (by kernel_rfl) ?_;simp only [List.take_succ_cons,List.take_zero,List.drop_succ_cons,List.drop_zero];(repeat (go_big_quiet_step ((first|(go_at_call 42;with_reducible first|exact qaw _|exact qbw _)|(go_at_call 43;with_reducible first|exact qap _|exact qbp _)|(go_at_call 52;with_reducible first|exact qad _|exact qbd _)|(go_at_call 76;with_reducible first|exact qar _|exact qbr _)|(go_at_call 75;with_reducible first|exact qag _|exact qbg _)))));refine wpQuiet_nil ?_;intro _ hwt;obtain ⟨nt,hwt'⟩:=hwt;subst hwt';go_wp2_with fail)
      go_roundg l3.length
      case measure=>rw [Hg.out];simp
      case rel =>
       have h9:=(HD2.out.drewN nt).digit hz1 hz2 HNz.out (by rw [←Hnd.out];omega)
       rw [←Hnd.out] at h9
       have hdn:=numD_dig (N:=N) (d:=c3'.toNat - 48) (by omega) (fun x=>HNz.out ⟨by omega,x.2⟩)
       refine ⟨q ++ [c3'],l3,_,dp,d' + 1,p',_,sd,true,rfl,by rw [←List.append_assoc,←Hpq.out];simp,rfl,rfl,Hsd.out,by simp;omega,by rw [←List.append_assoc,←Hpq.out,Hsl.out];simp,Hz3.out,?_,by rw [hdn,←Hnd.out];omega,by omega,by omega,hp0,h9,(by repeat (first | with_reducible exact HG.out | with_reducible apply gr_alloc | with_reducible apply gr_drewN | with_reducible apply gr_drew | with_reducible apply gr_set | ((with_reducible refine gr_setM ?_ ?_ _ _);rotate_left;(first | omega | (simp;omega)))))⟩
       rw [←Hst.out];simp only [stF];rw [if_neg Hcn.out,if_neg HNz.out]
    ·have hb48:((c3'.toNat:Int) == 48)=false:=by simp;omega
     have HNz:=Lib.hid (show ¬(c3'.toNat=48∧N=0) from fun x=>h48 x.1)
     clear h48 hNz
     obtain ⟨c9,hc9,cw⟩:∃ c9:UInt8,True∧wr.cell? ⟨b,nd,none⟩=some (.int .u8 (c9.toNat:Int)):=by
      obtain ⟨_,A9,hA9,_,_⟩:=hD
      obtain ⟨c9,_,cw⟩:=hA9.digE (i:=nd) (by omega)
      exact ⟨c9,trivial,cw⟩
     clear hc9
     have HD2:=Lib.hid hD;clear hD
     go_wp2_with fail
     (refine wp_region_quiet_tail 11 (by kernel_rfl) (by kernel_rfl) ?_;simp only [List.take_succ_cons,List.take_zero,List.drop_succ_cons,List.drop_zero];(repeat (go_big_quiet_step ((first|(go_at_call 42;with_reducible first|exact qaw _|exact qbw _)|(go_at_call 43;with_reducible first|exact qap _|exact qbp _)|(go_at_call 52;with_reducible first|exact qad _|exact qbd _)|(go_at_call 76;with_reducible first|exact qar _|exact qbr _)|(go_at_call 75;with_reducible first|exact qag _|exact qbg _)))));refine wpQuiet_nil ?_;intro _ hwt;obtain ⟨nt,hwt'⟩:=hwt;subst hwt';go_wp2_with fail)
     go_roundg l3.length
     case measure=>rw [Hg.out];simp
     case rel =>
      have h9:=(HD2.out.drewN nt).digit hz1 hz2 HNz.out (by rw [←Hnd.out];omega)
      rw [←Hnd.out] at h9
      have hdn:=numD_dig (N:=N) (d:=c3'.toNat - 48) (by omega) (fun x=>HNz.out ⟨by omega,x.2⟩)
      refine ⟨q ++ [c3'],l3,_,dp,d' + 1,p',_,sd,true,rfl,by rw [←List.append_assoc,←Hpq.out];simp,rfl,rfl,Hsd.out,by simp;omega,by rw [←List.append_assoc,←Hpq.out,Hsl.out];simp,Hz3.out,?_,by rw [hdn,←Hnd.out];omega,by omega,by omega,hp0,h9,(by repeat (first | with_reducible exact HG.out | with_reducible apply gr_alloc | with_reducible apply gr_drewN | with_reducible apply gr_drew | with_reducible apply gr_set | ((with_reducible refine gr_setM ?_ ?_ _ _);rotate_left;(first | omega | (simp;omega)))))⟩
      rw [←Hst.out];simp only [stF];rw [if_neg Hcn.out,if_neg HNz.out]
   ·have h46:((c3'.toNat:Int) == 46)=true:=by simp;omega
    have hp1:=scan_mono _ _ _ _ _ _ _ hz3
    obtain rfl:sd=false:=by rw [hsd];simp;omega
    have Hz3:=Lib.hid hz3;clear hz3
    have Hsg:=Lib.hid hsg;clear hsg
    have HZ1:=Lib.hid hz1
    clear hsd hsm hz1
    have hp9:p'=0:=by omega
    have Hp9:=Lib.hid hp9
    clear hp1 hp9
    have HD2:=Lib.hid hD;clear hD
    go_wp2_with fail
    go_roundg l3.length
    case measure=>rw [Hg.out];simp
    case rel=>exact ⟨q ++ [c3'],l3,N,nd,d',p' + 1,a',true,sg,rfl,by rw [←List.append_assoc,←Hpq.out];simp,rfl,rfl,by rw [Hp9.out];rfl,Hsg.out,by rw [←List.append_assoc,←Hpq.out,Hsl.out];simp,Hz3.out,by rw [←Hst.out];simp only [stF];rw [if_pos HZ1.out,Hnd.out],by rw [←Hnd.out];omega,by omega,by omega,by omega,HD2.out.setDp _,(by repeat (first | with_reducible exact HG.out | with_reducible apply gr_alloc | with_reducible apply gr_drewN | with_reducible apply gr_drew | with_reducible apply gr_set | ((with_reducible refine gr_setM ?_ ?_ _ _);rotate_left;(first | omega | (simp;omega)))))⟩
end Go.Proofs.YtfkecmlmnhbmoaaGreatDoor
namespace Go.Proofs.YtfkecmlmnhbmoaaGreatDoor
open Go Go.RowKit
set_option maxRecDepth 100000 in
set_option maxHeartbeats 40000000 in
theorem set_c (w:World) (b:Nat) (A:By) (s:ByteArray) (c:UInt8) (l1:By) (d a:Int) (hD:DecAt w b A 0 0 false false) (hs:s.data.toList=[45] ++ c::l1) (hsc:numScan (c::l1) 0 0 0=some (d,1,a)) (hd1:1≤d) (hd2:d≤60) (ha:a≤14) (hs2:s.size≤1000) :
  Calls Tryz.prog 149 #[.pointer (some ⟨b,0,none⟩),.string s] w fun e w'=>e=.returned (.bool true)∧DecN w' b (stF (c::l1) 0 0).1 (stF (c::l1) 0 0).2 true false∧w.grownBy w' (some b):=by
 generalize hR:stF (c::l1) 0 0=R
 have HR:=Lib.hid hR;clear hR
 obtain ⟨hc1,hc2⟩:=scan_dig hsc
 have Hsc:=Lib.hid hsc;clear hsc
 obtain ⟨c0,c1,c2,c3,cf⟩:=hD.cells
 have HD:=Lib.hid hD;clear hD
 obtain ⟨hlt,hcc,hd,hc0,_⟩:=at_byte (pre:=[]) (c:=45) (l:=c::l1) (by simpa using hs)
 simp only [List.length_nil] at hlt hcc hd
 have h1:¬s=ByteArray.empty:=by intro e;rw [e] at hlt;exact absurd hlt (by decide)
 have Hs:=Lib.hid hs;clear hs
 go_enter Tryz.func149,Tryz.ntmps149
 go_wp2_with fail
 have Hl0:=Lib.hid (show (c::l1).length=(c::l1).length from rfl)
 go_loopg [5,6,7] ((c::l1).length) (fun g t5 t6 t7 wr=>∃ (q l':By) (N:Nat) (dp d' p' a':Int) (sd sg:Bool),g=l'.length∧t5=.int .i64 (([45] ++ q:By).length:Nat)∧t6=.bool sd∧t7=.bool sg∧sd=(p' == 1)∧sg=decide (0 < d') ∧
  s.data.toList=([45] ++ q) ++ l'∧numScan l' d' p' a'=some (d,1,a)∧stF l' N dp=R∧(numD N:Nat)≤d'∧-d'≤dp∧dp≤d'∧0≤p'∧DecN wr b N dp true false∧w.grownBy wr (some b))
 case atStart=>exact ⟨[],c::l1,0,0,0,0,0,false,false,Hl0.out,rfl,rfl,rfl,by simp,by simp,by simpa using Hs.out,Hsc.out,HR.out,by rw [numD_zero];simp,by omega,by omega,by omega,DecN.zero (((HD.out.setNeg false).setTr false).setNeg true),(by repeat (first | with_reducible exact World.grownBy.refl w (some b) | with_reducible apply gr_alloc | with_reducible apply gr_drewN | with_reducible apply gr_drew | with_reducible apply gr_set | ((with_reducible refine gr_setM ?_ ?_ _ _);rotate_left;(first | omega | (simp;omega)))))⟩
 case round =>
  clear Hl0 c0 c1 c2 c3 cf
  obtain ⟨q,l',N,dp,d',p',a',sd,sg,hg,rfl,rfl,rfl,hsd,hsg,hsl,hsc',hst,hnd,hdp1,hdp2,hp0,hD,hG⟩:=hrel
  have hsm:=scan_mono _ _ _ _ _ _ _ hsc'
  obtain ⟨c0,c1,c2,c3,cf⟩:=hD.cells
  obtain ⟨pq,hpq⟩:∃ pq,pq=[45] ++ q:=⟨_,rfl⟩
  rw [←hpq] at hsl ⊢
  obtain ⟨nd,hndd⟩:∃ nd,nd=numD N:=⟨_,rfl⟩
  rw [←hndd] at c0 hnd
  have hndb:nd≤60:=by omega
  have hdpb1:-60≤dp:=by omega
  have hdpb2:dp≤60:=by omega
  have Hpq:=Lib.hid hpq;clear hpq
  have Hnd:=Lib.hid hndd;clear hndd
  have Hg:=Lib.hid hg;clear hg
  have Hst:=Lib.hid hst;clear hst
  have Hsc':=Lib.hid hsc';clear hsc'
  have HG:=Lib.hid hG;clear hG
  cases l' with
  | nil =>
   have hlt9:¬pq.length < s.size:=by have:=congrArg List.length hsl;simp at this;omega
   have hpqs:((pq.length:Int) != (s.size:Int))=false:=by have:=congrArg List.length hsl;simp at this ⊢;omega
   have hend:d'=d∧p'=1:=by have:=Hsc'.out;simp [numScan] at this;omega
   obtain rfl:sd=true:=by rw [hsd];simp;omega
   obtain rfl:sg=true:=by rw [hsg];simp;omega
   have Hsl:=Lib.hid hsl;clear hsl
   have HD2:=Lib.hid hD;clear hD
   clear hsd hsg hsm hend
   go_wp2_with fail
   go_ret
   have e:R=(N,dp):=by rw [←Hst.out];rfl
   rw [e]
   exact ⟨rfl,HD2.out,HG.out⟩
  | cons c3' l3 =>
   obtain ⟨hlt3,hc3,hd3,hr3,hr4⟩:=at_byte hsl
   have Hsl:=Lib.hid hsl;clear hsl
   have h95:((c3'.toNat:Int) == 95)=false:=by have:=scan_dig Hsc'.out;simp;omega
   rcases scan_cons Hsc'.out with ⟨hz1,hz2,hz3⟩ | ⟨hz1,hz3⟩
   ·have h46:((c3'.toNat:Int) == 46)=false:=by simp;omega
    have hm2:=scan_mono _ _ _ _ _ _ _ hz3
    have Hz3:=Lib.hid hz3;clear hz3
    have Hsd:=Lib.hid hsd;clear hsd
    clear hsg hsm
    have hdd:0≤d':=by omega
    have Hcn:=Lib.hid (show ¬c3'.toNat=46 by omega)
    have hNz:nd=0↔N=0:=by
     have:=Hnd.out
     constructor
     ·intro e;by_cases h0:N=0
      ·exact h0
      ·have:=numD_pos1 h0;omega
     ·intro e;rw [this,e,numD_zero]
    by_cases h48:c3'.toNat=48
    ·have hb48:((c3'.toNat:Int) == 48)=true:=by simp;omega
     have H48:=Lib.hid h48
     clear h48
     by_cases hn0:nd=0
     ·have hbn:((nd:Int) == 0)=true:=by simp;omega
      have HN0:=Lib.hid (hNz.1 hn0)
      have Hn0:=Lib.hid hn0
      clear hn0 hNz
      have HD2:=Lib.hid hD;clear hD
      go_wp2_with fail
      go_roundg l3.length
      case measure=>rw [Hg.out];simp
      case rel =>
       refine ⟨q ++ [c3'],l3,N,dp - 1,d' + 1,p',_,sd,true,rfl,by rw [←List.append_assoc,←Hpq.out];simp,rfl,rfl,Hsd.out,by simp;omega,by rw [←List.append_assoc,←Hpq.out,Hsl.out];simp,Hz3.out,?_,by rw [←Hnd.out];omega,by omega,by omega,hp0,HD2.out.setDp _,(by repeat (first | with_reducible exact HG.out | with_reducible apply gr_alloc | with_reducible apply gr_drewN | with_reducible apply gr_drew | with_reducible apply gr_set | ((with_reducible refine gr_setM ?_ ?_ _ _);rotate_left;(first | omega | (simp;omega)))))⟩
       rw [←Hst.out];simp only [stF];rw [if_neg Hcn.out,if_pos ⟨H48.out,HN0.out⟩]
     ·have hbn:((nd:Int) == 0)=false:=by simp;omega
      have HNz:=Lib.hid (show ¬(c3'.toNat=48∧N=0) from fun x=>hn0 (hNz.2 x.2))
      clear hn0 hNz
      obtain ⟨c9,hc9,cw⟩:∃ c9:UInt8,True∧wr.cell? ⟨b,nd,none⟩=some (.int .u8 (c9.toNat:Int)):=by
       obtain ⟨_,A9,hA9,_,_⟩:=hD
       obtain ⟨c9,_,cw⟩:=hA9.digE (i:=nd) (by omega)
       exact ⟨c9,trivial,cw⟩
      clear hc9
      have HD2:=Lib.hid hD;clear hD
      go_wp2_with fail
      (refine wp_region_quiet_tail 11 (by kernel_rfl) (by kernel_rfl) ?_;simp only [List.take_succ_cons,List.take_zero,List.drop_succ_cons,List.drop_zero];(repeat (go_big_quiet_step ((first|(go_at_call 42;with_reducible first|exact qaw _|exact qbw _)|(go_at_call 43;with_reducible first|exact qap _|exact qbp _)|(go_at_call 52;with_reducible first|exact qad _|exact qbd _)|(go_at_call 76;with_reducible first|exact qar _|exact qbr _)|(go_at_call 75;with_reducible first|exact qag _|exact qbg _)))));refine wpQuiet_nil ?_;intro _ hwt;obtain ⟨nt,hwt'⟩:=hwt;subst hwt';go_wp2_with fail)
      go_roundg l3.length
      case measure=>rw [Hg.out];simp
      case rel =>
       have h9:=(HD2.out.drewN nt).digit hz1 hz2 HNz.out (by rw [←Hnd.out];omega)
       rw [←Hnd.out] at h9
       have hdn:=numD_dig (N:=N) (d:=c3'.toNat - 48) (by omega) (fun x=>HNz.out ⟨by omega,x.2⟩)
       refine ⟨q ++ [c3'],l3,_,dp,d' + 1,p',_,sd,true,rfl,by rw [←List.append_assoc,←Hpq.out];simp,rfl,rfl,Hsd.out,by simp;omega,by rw [←List.append_assoc,←Hpq.out,Hsl.out];simp,Hz3.out,?_,by rw [hdn,←Hnd.out];omega,by omega,by omega,hp0,h9,(by repeat (first | with_reducible exact HG.out | with_reducible apply gr_alloc | with_reducible apply gr_drewN | with_reducible apply gr_drew | with_reducible apply gr_set | ((with_reducible refine gr_setM ?_ ?_ _ _);rotate_left;(first | omega | (simp;omega)))))⟩
       rw [←Hst.out];simp only [stF];rw [if_neg Hcn.out,if_neg HNz.out]
    ·have hb48:((c3'.toNat:Int) == 48)=false:=by simp;omega
     have HNz:=Lib.hid (show ¬(c3'.toNat=48∧N=0) from fun x=>h48 x.1)
     clear h48 hNz
     obtain ⟨c9,hc9,cw⟩:∃ c9:UInt8,True∧wr.cell? ⟨b,nd,none⟩=some (.int .u8 (c9.toNat:Int)):=by
      obtain ⟨_,A9,hA9,_,_⟩:=hD
      obtain ⟨c9,_,cw⟩:=hA9.digE (i:=nd) (by omega)
      exact ⟨c9,trivial,cw⟩
     clear hc9
     have HD2:=Lib.hid hD;clear hD
     go_wp2_with fail
     (refine wp_region_quiet_tail 11 (by kernel_rfl) (by kernel_rfl) ?_;simp only [List.take_succ_cons,List.take_zero,List.drop_succ_cons,List.drop_zero];(repeat (go_big_quiet_step ((first|(go_at_call 42;with_reducible first|exact qaw _|exact qbw _)|(go_at_call 43;with_reducible first|exact qap _|exact qbp _)|(go_at_call 52;with_reducible first|exact qad _|exact qbd _)|(go_at_call 76;with_reducible first|exact qar _|exact qbr _)|(go_at_call 75;with_reducible first|exact qag _|exact qbg _)))));refine wpQuiet_nil ?_;intro _ hwt;obtain ⟨nt,hwt'⟩:=hwt;subst hwt';go_wp2_with fail)
     go_roundg l3.length
     case measure=>rw [Hg.out];simp
     case rel =>
      have h9:=(HD2.out.drewN nt).digit hz1 hz2 HNz.out (by rw [←Hnd.out];omega)
      rw [←Hnd.out] at h9
      have hdn:=numD_dig (N:=N) (d:=c3'.toNat - 48) (by omega) (fun x=>HNz.out ⟨by omega,x.2⟩)
      refine ⟨q ++ [c3'],l3,_,dp,d' + 1,p',_,sd,true,rfl,by rw [←List.append_assoc,←Hpq.out];simp,rfl,rfl,Hsd.out,by simp;omega,by rw [←List.append_assoc,←Hpq.out,Hsl.out];simp,Hz3.out,?_,by rw [hdn,←Hnd.out];omega,by omega,by omega,hp0,h9,(by repeat (first | with_reducible exact HG.out | with_reducible apply gr_alloc | with_reducible apply gr_drewN | with_reducible apply gr_drew | with_reducible apply gr_set | ((with_reducible refine gr_setM ?_ ?_ _ _);rotate_left;(first | omega | (simp;omega)))))⟩
      rw [←Hst.out];simp only [stF];rw [if_neg Hcn.out,if_neg HNz.out]
   ·have h46:((c3'.toNat:Int) == 46)=true:=by simp;omega
    have hp1:=scan_mono _ _ _ _ _ _ _ hz3
    obtain rfl:sd=false:=by rw [hsd];simp;omega
    have Hz3:=Lib.hid hz3;clear hz3
    have Hsg:=Lib.hid hsg;clear hsg
    have HZ1:=Lib.hid hz1
    clear hsd hsm hz1
    have hp9:p'=0:=by omega
    have Hp9:=Lib.hid hp9
    clear hp1 hp9
    have HD2:=Lib.hid hD;clear hD
    go_wp2_with fail
    go_roundg l3.length
    case measure=>rw [Hg.out];simp
    case rel=>exact ⟨q ++ [c3'],l3,N,nd,d',p' + 1,a',true,sg,rfl,by rw [←List.append_assoc,←Hpq.out];simp,rfl,rfl,by rw [Hp9.out];rfl,Hsg.out,by rw [←List.append_assoc,←Hpq.out,Hsl.out];simp,Hz3.out,by rw [←Hst.out];simp only [stF];rw [if_pos HZ1.out,Hnd.out],by rw [←Hnd.out];omega,by omega,by omega,by omega,HD2.out.setDp _,(by repeat (first | with_reducible exact HG.out | with_reducible apply gr_alloc | with_reducible apply gr_drewN | with_reducible apply gr_drew | with_reducible apply gr_set | ((with_reducible refine gr_setM ?_ ?_ _ _);rotate_left;(first | omega | (simp;omega)))))⟩
end Go.Proofs.YtfkecmlmnhbmoaaGreatDoor
