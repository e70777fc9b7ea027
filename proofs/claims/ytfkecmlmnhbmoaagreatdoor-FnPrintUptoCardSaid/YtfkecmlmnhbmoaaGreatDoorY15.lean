/- The texts F13 F13a P8 P9 P10 P11 B2a B2d B2e B2g J0 of the workbench, laid together. -/
import Derived.Test.YtfkecmlmnhbmoaaGreatDoorProg
import Derived.WalkKit
import Derived.WalkLawsBesides
import Derived.WalkSpells
import Derived.BigQuiet
import Derived.BigRegion
import Derived.Deep.QuietTactic
import Derived.Deep.RegionHeld3
import Derived.Deep.LoopGhost
import Derived.StillTailTactics
import Derived.Lib.Hide
import Derived.Laws.EntriesVeiled
import Derived.Deep.Cut
import Derived.WalkMore
import Derived.IntWalk
import Derived.Test.YtfkecmlmnhbmoaaGreatDoorY9
import Derived.Test.YtfkecmlmnhbmoaaGreatDoorY10
import Derived.Test.YtfkecmlmnhbmoaaGreatDoorY13
import Derived.Test.YtfkecmlmnhbmoaaGreatDoorY14
set_option linter.unusedVariables false
set_option linter.unusedSimpArgs false
namespace Go.Proofs.YtfkecmlmnhbmoaaGreatDoor
open Go Go.RowKit
def rfRet (l:By) (n:Nat):Ending:=.returned (.tuple #[.int .u64 (rfF (numStrip l) 0 0 0 false).1,.int .i64 (if (rfF (numStrip l) 0 0 0 false).1=0 then 0 else (rfF (numStrip l) 0 0 0 false).2.2.1 - (min (rfF (numStrip l) 0 0 0 false).2.1 19:Nat)),
 .bool (headIs l (· == 45)),.bool (rfF (numStrip l) 0 0 0 false).2.2.2,.bool false,.int .i64 n,.bool true])
end Go.Proofs.YtfkecmlmnhbmoaaGreatDoor
namespace Go.Proofs.YtfkecmlmnhbmoaaGreatDoor
open Go Go.RowKit
set_option maxRecDepth 100000 in
set_option maxHeartbeats 40000000 in
theorem rf_nil (w : World) (s : ByteArray) (c : UInt8) (l1 : By) (d a : Int) (hs : s.data.toList = [] ++ c :: l1) (hst : numStrip ([] ++ c :: l1) = c :: l1) (hsc : numScan (c :: l1) 0 0 0 = some (d, 1, a)) (hd1 : 1 ≤ d) (hd2 : d ≤ 60) (ha : a ≤ 14) (hs2 : s.size ≤ 1000) :
  Calls Tryz.prog 143 #[.string s] w fun e w'=>e=rfRet ([] ++ c::l1) s.size∧w'=w:=by
 generalize hR:rfRet ([] ++ c::l1) s.size=R
 have HR:=Lib.hid hR;clear hR
 obtain ⟨hc1,hc2⟩:=scan_dig hsc
 have Hsc:=Lib.hid hsc;clear hsc
 have Hst:=Lib.hid hst;clear hst
 obtain ⟨hlt,hcc,hd,hc0,_⟩:=at_byte (pre:=[]) (by simpa using hs)
 simp only [List.length_nil] at hlt hcc hd
 have h1:¬s=ByteArray.empty:=by intro e;rw [e] at hlt;exact absurd hlt (by decide)
 have b1:((c.toNat:Int) == 43)=false:=by simp;omega
 have b2:((c.toNat:Int) == 45)=false:=by simp;omega
 have Hs:=Lib.hid hs;clear hs
 go_enter Tryz.func143,Tryz.ntmps143
 go_wp2_with fail
 go_step3
 go_upto_region 12 with (fail)
 go_cut [54] from 21 (fun t54 wr=>t54=.bool false∧w=wr)
 case first =>
  by_cases hl2:2 < s.size
  ·by_cases h48:c.toNat=48
   ·have hb:((c.toNat:Int) == 48)=true:=by simp;omega
    obtain ⟨c2,l2,rfl⟩:∃ c2 l2,l1=c2::l2:=by
     cases l1 with
     | nil=>have:=congrArg List.length Hs.out;simp at this;omega
     | cons c2 l2=>exact ⟨c2,l2,rfl⟩
    have hc22:46≤c2.toNat∧c2.toNat≤57:=by
     rcases scan_cons Hsc.out with ⟨_,_,h⟩ | ⟨_,h⟩<;>exact scan_dig h
    obtain ⟨hlt2,hcc2,_,_⟩:=at_byte1 (pre:=[]) (by simpa using Hs.out)
    simp only [List.length_nil,Nat.zero_add] at hlt2 hcc2
    have hlow:=(low_bits c2.toNat (by omega) (by omega)).1
    clear h48
    go_wp2_with fail
    refine (low_any _ _).mono ?_
    rintro e w1 ⟨rfl,hw⟩
    subst w1
    go_wp2_with fail
    go_meet
    case rel=>exact ⟨rfl,rfl⟩
   ·have hb:((c.toNat:Int) == 48)=false:=by simp;omega
    clear h48
    go_wp2_with fail
    go_meet
    case rel=>exact ⟨rfl,rfl⟩
  ·go_wp2_with fail
   go_meet
   case rel=>exact ⟨rfl,rfl⟩
 case rest =>
  obtain ⟨rfl,rfl⟩:=hcut
  go_wp2_with fail
  go_step3
  go_wp2_with fail
  have Hl0:=Lib.hid (show (c::l1).length=(c::l1).length from rfl)
  go_loopg [2,5,7,9,13,14,15,16,17] ((c::l1).length) (fun g t2 t5 t7 t9 t13 t14 t15 t16 t17 wr=>∃ (q l':By) (M nd mm:Nat) (dp d' p' a':Int) (tr sd sg:Bool),g=l'.length∧t2=.int .u64 M∧t5=.bool tr∧t7=.int .i64 (([] ++ q:By).length:Nat)∧t9=.bool false∧t13=.bool sd∧t14=.bool sg∧t15=.int .i64 nd∧t16=.int .i64 mm∧t17=.int .i64 dp∧mm=min nd 19∧sd=(p' == 1)∧sg=decide (0 < d') ∧
   s.data.toList=([] ++ q) ++ l'∧numScan l' d' p' a'=some (d,1,a)∧rfF l' M nd dp tr=rfF (c::l1) 0 0 0 false∧RfI M nd dp tr d' p' a'∧w=wr)
  case atStart=>exact ⟨[],c::l1,0,0,0,0,0,0,0,false,false,false,Hl0.out,rfl,rfl,rfl,rfl,rfl,rfl,rfl,rfl,rfl,by simp,by simp,by simp,by simpa using Hs.out,Hsc.out,rfl,RfI.start,rfl⟩
  case round =>
   clear Hl0
   obtain ⟨q,l',M,nd,mm,dp,d',p',a',tr,sd,sg,hg,rfl,rfl,rfl,rfl,rfl,rfl,rfl,rfl,rfl,hmm,hsd,hsg,hsl,hsc',hrf,hI,rfl⟩:=hrel
   have hsm:=scan_mono _ _ _ _ _ _ _ hsc'
   obtain ⟨pq,hpq⟩:∃ pq,pq=[] ++ q:=⟨_,rfl⟩
   rw [←hpq] at hsl ⊢
   have hndb:nd≤60:=by have:=hI.nd_d;omega
   have hdpb1:-60≤dp:=by have:=hI.lo;omega
   have hdpb2:dp≤14:=by have:=hI.hi;omega
   have hp0:=hI.p0
   have hmm9:mm≤19:=by omega
   have Hpq:=Lib.hid hpq;clear hpq
   have Hg:=Lib.hid hg;clear hg
   have Hrf:=Lib.hid hrf;clear hrf
   have HI:=Lib.hid hI;clear hI
   have Hsc':=Lib.hid hsc';clear hsc'
   have Hmm:=Lib.hid hmm;clear hmm
   cases l' with
   | nil =>
    have hlt9:¬pq.length < s.size:=by have:=congrArg List.length hsl;simp at this;omega
    have hpqs:(pq.length:Int)=(s.size:Int):=by have:=congrArg List.length hsl;simp at this;omega
    have hend:d'=d∧p'=1:=by have:=Hsc'.out;simp [numScan] at this;omega
    obtain rfl:sd=true:=by rw [hsd];simp;omega
    obtain rfl:sg=true:=by rw [hsg];simp;omega
    have Hsl:=Lib.hid hsl;clear hsl
    have Hpqs:=Lib.hid hpqs;clear hpqs
    clear hsd hsg hsm hend
    by_cases hM:M=0
    ·have hMb:((M:Int) != 0)=false:=by simp;omega
     have HM:=Lib.hid hM
     clear hM
     go_wp2_with fail
     rw [Exit.noGoto_ret]
     refine bodyPost_ret (v:=.tuple #[.int .u64 M,.int .i64 (0),.bool false,.bool tr,.bool false,.int .i64 pq.length,.bool true]) (by simp [results,Tryz.results143,go_sem]) rfl ⟨?_,rfl⟩
     rw [←HR.out]
     unfold rfRet
     rw [Hst.out,←Hrf.out]
     have hc45:((c.toNat:Int) == 45)=false:=by simp;omega
     simp [rfF,headIs,hc45,HM.out,Hmm.out,Hpqs.out]
    ·have hMb:((M:Int) != 0)=true:=by simp;omega
     have HM:=Lib.hid hM
     clear hM
     go_wp2_with fail
     rw [Exit.noGoto_ret]
     refine bodyPost_ret (v:=.tuple #[.int .u64 M,.int .i64 (dp - mm),.bool false,.bool tr,.bool false,.int .i64 pq.length,.bool true]) (by simp [results,Tryz.results143,go_sem]) rfl ⟨?_,rfl⟩
     rw [←HR.out]
     unfold rfRet
     rw [Hst.out,←Hrf.out]
     have hc45:((c.toNat:Int) == 45)=false:=by simp;omega
     simp [rfF,headIs,hc45,HM.out,Hmm.out,Hpqs.out]
   | cons c3 l3 =>
    obtain ⟨hlt3,hc3,hd3,hr3,hr4⟩:=at_byte hsl
    have Hsl:=Lib.hid hsl;clear hsl
    have h95:((c3.toNat:Int) == 95)=false:=by have:=scan_dig Hsc'.out;simp;omega
    rcases scan_cons Hsc'.out with ⟨hz1,hz2,hz3⟩ | ⟨hz1,hz3⟩
    ·have h46:((c3.toNat:Int) == 46)=false:=by rcases scan_cons Hsc'.out with h | h;simp;omega;simp;omega
     have hMd:mm < 19→M≤999999999999999999:=by
      intro h
      have h1:=HI.out.m
      have h2:=Hmm.out
      have h3:10 ^ min nd 19≤10 ^ 18:=pow10_le (by omega)
      have h4:(10:Nat) ^ 18=1000000000000000000:=by decide
      omega
     have hd8:=HI.out.nd_d
     have Hz3:=Lib.hid hz3;clear hz3
     have Hsd:=Lib.hid hsd;clear hsd
     clear hsg hsm
     have Hcn:=Lib.hid (show ¬c3.toNat=46 by omega)
     by_cases h48:c3.toNat=48
     ·have hb48:((c3.toNat:Int) == 48)=true:=by simp;omega
      have hb48n:((c3.toNat:Int) != 48)=false:=by simp;omega
      have H48:=Lib.hid h48
      clear h48
      by_cases hn0:nd=0
      ·have hbn:((nd:Int) == 0)=true:=by simp;omega
       have Hn0:=Lib.hid hn0
       clear hn0 hMd
       go_wp2_with fail
       go_roundg l3.length
       case measure=>rw [Hg.out];simp
       case rel =>
        refine ⟨q ++ [c3],l3,M,nd,mm,dp - 1,d' + 1,p',(if p' == 0 then a' + 1 else a'),tr,sd,true,rfl,by go_num,rfl,by rw [←List.append_assoc,←Hpq.out];simp,rfl,rfl,rfl,by go_num,by go_num,by go_num,?_,Hsd.out,by simp;omega,by rw [←List.append_assoc,←Hpq.out,Hsl.out];simp,Hz3.out,?_,?_,rfl⟩
        ·exact Hmm.out
        ·rw [←Hrf.out];simp only [rfF];rw [if_neg Hcn.out,if_pos ⟨H48.out,Hn0.out⟩]
        ·exact HI.out.zero Hn0.out
      ·have hbn:((nd:Int) == 0)=false:=by simp;omega
       have Hn0:=Lib.hid hn0
       clear hn0
       by_cases h19:mm < 19
       ·have hM18:=hMd h19
        have Hmn:=Lib.hid (show mm=nd∧nd < 19 by have:=Hmm.out;omega)
        clear hMd
        go_wp2_with fail
        go_roundg l3.length
        case measure=>rw [Hg.out];simp
        case rel =>
         refine ⟨q ++ [c3],l3,M * 10 + (c3.toNat - 48),nd + 1,mm + 1,dp,d' + 1,p',(if p' == 0 then a' + 1 else a'),tr,sd,true,rfl,by go_num,rfl,by rw [←List.append_assoc,←Hpq.out];simp,rfl,rfl,rfl,by go_num,by go_num,by go_num,?_,Hsd.out,by simp;omega,by rw [←List.append_assoc,←Hpq.out,Hsl.out];simp,Hz3.out,?_,?_,rfl⟩
         ·have:=Hmn.out;omega
         ·rw [←Hrf.out];simp only [rfF];rw [if_neg Hcn.out,if_neg (by first | exact fun x=>H48.out x.1 | exact fun x=>Hn0.out x.2),if_pos Hmn.out.2]
         ·exact HI.out.dig (by omega) (by first | exact fun x=>H48.out (by omega) | exact fun x=>Hn0.out x.2) Hmn.out.2
       ·have Hmn:=Lib.hid (show mm=19∧¬nd < 19 by have:=Hmm.out;omega)
        clear hMd
        go_wp2_with fail
        go_roundg l3.length
        case measure=>rw [Hg.out];simp
        case rel =>
         refine ⟨q ++ [c3],l3,M,nd + 1,mm,dp,d' + 1,p',(if p' == 0 then a' + 1 else a'),tr,sd,true,rfl,by go_num,rfl,by rw [←List.append_assoc,←Hpq.out];simp,rfl,rfl,rfl,by go_num,by go_num,by go_num,?_,Hsd.out,by simp;omega,by rw [←List.append_assoc,←Hpq.out,Hsl.out];simp,Hz3.out,?_,?_,rfl⟩
         ·have:=Hmn.out;omega
         ·rw [←Hrf.out];simp only [rfF];rw [if_neg Hcn.out,if_neg (by first | exact fun x=>H48.out x.1 | exact fun x=>Hn0.out x.2),if_neg Hmn.out.2,if_pos H48.out]
         ·exact HI.out.more Hmn.out.2
     ·have hb48:((c3.toNat:Int) == 48)=false:=by simp;omega
      have hb48n:((c3.toNat:Int) != 48)=true:=by simp;omega
      have H48:=Lib.hid h48
      clear h48
      by_cases h19:mm < 19
      ·have hM18:=hMd h19
       have Hmn:=Lib.hid (show mm=nd∧nd < 19 by have:=Hmm.out;omega)
       clear hMd
       go_wp2_with fail
       go_roundg l3.length
       case measure=>rw [Hg.out];simp
       case rel =>
        refine ⟨q ++ [c3],l3,M * 10 + (c3.toNat - 48),nd + 1,mm + 1,dp,d' + 1,p',(if p' == 0 then a' + 1 else a'),tr,sd,true,rfl,by go_num,rfl,by rw [←List.append_assoc,←Hpq.out];simp,rfl,rfl,rfl,by go_num,by go_num,by go_num,?_,Hsd.out,by simp;omega,by rw [←List.append_assoc,←Hpq.out,Hsl.out];simp,Hz3.out,?_,?_,rfl⟩
        ·have:=Hmn.out;omega
        ·rw [←Hrf.out];simp only [rfF];rw [if_neg Hcn.out,if_neg (by first | exact fun x=>H48.out x.1 | exact fun x=>Hn0.out x.2),if_pos Hmn.out.2]
        ·exact HI.out.dig (by omega) (by first | exact fun x=>H48.out (by omega) | exact fun x=>Hn0.out x.2) Hmn.out.2
      ·have Hmn:=Lib.hid (show mm=19∧¬nd < 19 by have:=Hmm.out;omega)
       clear hMd
       go_wp2_with fail
       go_roundg l3.length
       case measure=>rw [Hg.out];simp
       case rel =>
        refine ⟨q ++ [c3],l3,M,nd + 1,mm,dp,d' + 1,p',(if p' == 0 then a' + 1 else a'),true,sd,true,rfl,by go_num,rfl,by rw [←List.append_assoc,←Hpq.out];simp,rfl,rfl,rfl,by go_num,by go_num,by go_num,?_,Hsd.out,by simp;omega,by rw [←List.append_assoc,←Hpq.out,Hsl.out];simp,Hz3.out,?_,?_,rfl⟩
        ·have:=Hmn.out;omega
        ·rw [←Hrf.out];simp only [rfF];rw [if_neg Hcn.out,if_neg (by first | exact fun x=>H48.out x.1 | exact fun x=>Hn0.out x.2),if_neg Hmn.out.2,if_neg H48.out]
        ·exact HI.out.more Hmn.out.2
    ·have h46:((c3.toNat:Int) == 46)=true:=by simp;omega
     have hp1:=scan_mono _ _ _ _ _ _ _ hz3
     obtain rfl:sd=false:=by rw [hsd];simp;omega
     have Hz3:=Lib.hid hz3;clear hz3
     have Hsg:=Lib.hid hsg;clear hsg
     have HZ1:=Lib.hid hz1
     clear hsd hsm hz1
     have hp9:p'=0:=by omega
     have Hp9:=Lib.hid hp9
     clear hp1 hp9
     go_wp2_with fail
     go_roundg l3.length
     case measure=>rw [Hg.out];simp
     case rel=>exact ⟨q ++ [c3],l3,M,nd,mm,nd,d',p' + 1,a',tr,true,sg,rfl,rfl,rfl,by rw [←List.append_assoc,←Hpq.out];simp,rfl,rfl,rfl,rfl,rfl,rfl,Hmm.out,by rw [Hp9.out];rfl,Hsg.out,by rw [←List.append_assoc,←Hpq.out,Hsl.out];simp,Hz3.out,by rw [←Hrf.out];simp only [rfF];rw [if_pos HZ1.out],HI.out.point Hp9.out,rfl⟩
end Go.Proofs.YtfkecmlmnhbmoaaGreatDoor
namespace Go.Proofs.YtfkecmlmnhbmoaaGreatDoor
end Go.Proofs.YtfkecmlmnhbmoaaGreatDoor
namespace Go.Proofs.YtfkecmlmnhbmoaaGreatDoor
inductive PO where
 | null | bool (b:Bool) | int (n:Int) | real (x:Nat) | lit (s:By) | hexl (s:By) | name (s:By) | ref (n g:Int) | arr (kids:List PO) | dict (keys:List By) (kids:List PO)
def litT (s:By):By:=match litF (40::(s ++ [41])) 0 [] with
 | some (t,_)=>t
 | none=>[]
def hexT (s:By):By:=(hexF (s ++ [62]) false 0 [] false).2.1
mutual
def valP:PO→PV
 | .null=>.null
 | .bool b=>.bool (if b then 1 else 0)
 | .int n=>.int n
 | .real x=>.real x
 | .lit s=>.str (litT s)
 | .hexl s=>.str (hexT s)
 | .name s=>.name s
 | .ref n g=>.ref n g
 | .arr kids=>.arr (valPs kids)
 | .dict keys kids=>.dict keys (valPs kids)
def valPs:List PO→List PV
 | []=>[]
 | p::ps=>valP p::valPs ps
end
theorem valPs_map:∀ l,valPs l=l.map valP:=by
 intro l
 induction l with
 | nil=>rfl
 | cons p l ih=>simp [valPs,ih]
def leBy:By→By→Bool:=fun x y=>decide (x≤y)
def PV.isNull:PV→Bool
 | .null=>true
 | _=>false
def nnz (l:List PV):Nat:=(l.filter fun x=>!x.isNull).length
def SameN (eqv:Nat→Nat→Prop):Nat→PV→PV→Prop
 | 0,_,_=>False
 | n + 1,.arr ks,.arr ls=>ks.length=ls.length∧∀ (i:Nat) a b,ks[i]?=some a→ls[i]?=some b→SameN eqv n a b
 | n + 1,.dict k1 v1,.dict k2 v2=>k1.length=v1.length∧k2.length=v2.length∧nnz v1=nnz v2∧∀ (i:Nat) k a,k1[i]?=some k→v1[i]?=some a→a.isNull=false→∃ (j:Nat) (b:PV),k2[j]?=some k∧(∀ j':Nat,j' < j→k2[j']?≠some k)∧v2[j]?=some b∧b.isNull=false∧SameN eqv n a b
 | _ + 1,.real x,.real y=>eqv x y
 | _ + 1,.null,.null=>True
 | _ + 1,.bool a,.bool b=>a=b
 | _ + 1,.int a,.int b=>a=b
 | _ + 1,.str a,.str b=>a=b
 | _ + 1,.name a,.name b=>a=b
 | _ + 1,.ref a c,.ref b d=>a=b∧c=d
 | _ + 1,_,_=>False
theorem nodup_first {α:Type} [DecidableEq α] {l:List α} (h:l.Nodup) {j:Nat} {k:α} (hj:l[j]?=some k):∀ j',j' < j→l[j']?≠some k:=by
 intro j' hlt e
 have h1:=(List.getElem?_eq_some_iff.1 hj)
 have h2:=(List.getElem?_eq_some_iff.1 e)
 have:=(List.getElem_inj (i:=j') (j:=j) (h₀:=h2.1) (h₁:=h1.1) h).1 (h2.2.trans h1.2.symm)
 omega
end Go.Proofs.YtfkecmlmnhbmoaaGreatDoor
namespace Go.Proofs.YtfkecmlmnhbmoaaGreatDoor
end Go.Proofs.YtfkecmlmnhbmoaaGreatDoor
namespace Go.Proofs.YtfkecmlmnhbmoaaGreatDoor
theorem numScan_chars:∀ (l:By) (d p a:Int) (r:Int × Int × Int),numScan l d p a=some r→∀ c∈l,isDig (c.toNat:Int)=true∨(c.toNat:Int)=46:=by
 intro l
 induction l with
 | nil=>intro d p a r _ c hc;simp at hc
 | cons e l ih =>
  intro d p a r h c hc
  simp only [numScan] at h
  split at h
  ·rename_i hd
   rcases List.mem_cons.1 hc with rfl | hc
   ·exact .inl hd
   ·exact ih _ _ _ _ h c hc
  ·split at h
   ·rename_i hp
    rcases List.mem_cons.1 hc with rfl | hc
    ·exact .inr (by simpa using hp)
    ·exact ih _ _ _ _ h c hc
   ·simp at h
theorem atoi_strip (c:UInt8) (l:By):numStrip (c::l)=(if c.toNat=43∨c.toNat=45 then l else c::l):=by
 simp only [numStrip]
 by_cases h:c.toNat=43∨c.toNat=45
 ·rw [if_pos h,if_pos]
  simp only [beq_iff_eq];omega
 ·rw [if_neg h,if_neg]
  simp only [beq_iff_eq];omega
theorem numScan_digs:∀ (l:By) (d a:Int),(∀ c∈l,isDig (c.toNat:Int)=true)→numScan l d 0 a=some (d + l.length,0,a + l.length):=by
 intro l
 induction l with
 | nil=>intro d a _;simp [numScan]
 | cons c l ih =>
  intro d a h
  simp only [numScan,h c (by simp),if_true,beq_self_eq_true]
  rw [ih _ _ (fun e he=>h e (by simp [he]))]
  simp;omega
end Go.Proofs.YtfkecmlmnhbmoaaGreatDoor
namespace Go.Proofs.YtfkecmlmnhbmoaaGreatDoor
open Go Go.RowKit
set_option maxRecDepth 100000 in
set_option maxHeartbeats 40000000 in
theorem ref_a (pf:By→Nat) (W0 w:World) (hI:Init W0) (hpf:PFC pf W0) (hE:Env W0 w) (b:Nat) (s:ByteArray) (p l:By) (deep:Int) (odd ends:Bool) (hR:RdAt w b s p l 0 deep odd ends) (hs:s.size≤140737488351240)
  (hW0:W0.heap.size≤b) (n:Int) (text:ByteArray) (tl:By) (htl:text.data.toList=tl) (hnum:numF pf tl=(2,n,0,0))
  {la:By} {oa:Bool} {gk gn st:Int} {gx:Nat} (hP1:passM false l odd=(la,oa)) (hN:numF pf (wordT la)=(gk,gn,gx,st)) (hst:(st == 1)=true) :
  Calls Tryz.prog 64 #[.pointer (some ⟨b,0,none⟩),numV 2 n 0,.string text] w fun e w'=>RefPost w w' b s deep ends e (refF pf n tl l odd):=by
 have HR:=Lib.hid hR
 have hbB:=hR.lt
 obtain ⟨c0,c1,c2,c3,c4,c5,cf⟩:=hR.cells
 have HI:=Lib.hid hI;clear hI
 have Hpf:=Lib.hid hpf;clear hpf
 have HE:=Lib.hid hE;clear hE
 have Htl:=Lib.hid htl;clear htl
 have Hnum:=Lib.hid hnum;clear hnum
 clear hR
 unfold numV
 go_enter Tryz.func64,Tryz.ntmps64
 go_wp2_with fail
 have hal:=alloc3 w (NB n) (.cells #[.int .i64 0,.int .i64 0,.int .i64 0,.float .f64 0,.string ⟨#[]⟩,.slice none 0 0,.slice none 0 0] 30 (0,0)) (.cells #[.string s,.int .i64 p.length,.int .i64 0,.int .i64 deep,.bool odd,.bool ends] 57 (0,0))
 refine (pass_any _ (w.heap.size + 1 + 1) s p l 0 deep odd ends (by exact ⟨HR.out.1,hal.2.2.1⟩) (by omega)).mono ?_
 rintro e w1 ⟨rfl,⟨p1,hA1⟩,hg1⟩
 have hI0:RefI w _ b s p l deep odd ends n p l odd:=⟨hal.2.2.2.2.but _,HR.out.grown hal.2.2.2.2 (by simp),⟨HR.out.1,hal.2.2.1⟩,hal.1,hal.2.1,hbB⟩
 have HJ:=Lib.hid (hI0.call hg1 hA1)
 clear hI0 hg1 hA1 hal c0 c1 c2 c3 c4 c5 cf
 rw [hP1] at HJ
 go_wp2_with fail
 refine (word_any _ (w.heap.size + 1 + 1) s p1 la 0 deep oa ends (by exact HJ.out.hA) (by omega)).mono ?_
 rintro e w2 ⟨rfl,hA2,hg2⟩
 have HJ2:=Lib.hid (HJ.out.call hg2 hA2)
 clear hg2 hA2 HJ
 have hsz2:(wordT la).length≤140737488351240:=by
  have:=HJ2.out.hA.size
  simp at this;omega
 generalize hsec:(⟨(wordT la).toArray⟩:ByteArray)=sec
 have hsz3:sec.size≤140737488351240:=by rw [←hsec];show (List.toArray (wordT la)).size≤140737488351240;simpa using hsz2
 have hsl:sec.data.toList=wordT la:=by rw [←hsec]
 have Hsec:=Lib.hid hsec;clear hsec
 have Hsl:=Lib.hid hsl;clear hsl
 go_wp2_with fail
 refine (number_any pf W0 _ HI.out Hpf.out (by exact HE.out.grown HJ2.out.hG (fun k hk=>by injection hk with hk;omega)) sec (wordT la) Hsl.out hsz3).mono ?_
 rintro e w3 ⟨rfl,hg3⟩
 have HJ3:=Lib.hid (HJ2.out.call0 hg3)
 clear hg3 HJ2
 rw [hN]
 have HP1:=Lib.hid hP1;clear hP1
 have HN:=Lib.hid hN;clear hN
 unfold numRet numV
 obtain ⟨c0,c1,c2,c3,c4,c5,cf⟩:=HJ3.out.hR.cells
 obtain ⟨a0,a1,a2,a3,a4,a5,af⟩:=HJ3.out.hA.cells
 obtain ⟨v0,v1,v2,v3,v4,v5,v6,vf⟩:=cells7 HJ3.out.hV
 obtain ⟨z0,z1,z2,z3,z4,z5,z6,zf⟩:=zb_cells HJ3.out.hZ
 have hb3:w.heap.size + 1 + 1 < w3.heap.size:=HJ3.out.hA.lt
 have hb4:b < w3.heap.size:=by omega
 have hb5:w.heap.size < w3.heap.size:=by omega
 have hb6:w.heap.size + 1 < w3.heap.size:=by omega
 have hres:refF pf n tl l odd=some (.int n,l,odd || wordO la oa):=by
  simp only [refF,HP1.out,HN.out,hst,if_true]
 have hn1:¬w.heap.size + 1=b:=by omega
 cases odd
 all_goals
  simp only [Bool.false_or,Bool.true_or] at hres
  go_wp2_with fail
  have Hres:=Lib.hid hres;clear hres
  have HG:=Lib.hid HJ3.out.hG
  refine bodyPost_ret (v:=valOf (.int n) nilS nilS) (by simp [results,Tryz.results64,go_sem,valOf,nilS,pvKind,pvInt,pvGen,pvReal,pvText,z0,z1,z2,z3,z4,z5,z6,hb3,hb4,hb5,hb6,hn1]) rfl ?_
  rw [Hres.out]
  refine ⟨rfl,⟨p,(by repeat (first | with_reducible exact HJ3.out.hR | with_reducible apply RdAt.alloc | with_reducible apply RdAt.set4 | ((with_reducible refine RdAt.setO ?_ ?_ _ _);rotate_left;(first | omega | (simp;omega)))))⟩,(by repeat (first | with_reducible exact HJ3.out.hG | with_reducible apply gr_alloc | with_reducible apply gr_drewN | with_reducible apply gr_drew | with_reducible apply gr_set | ((with_reducible refine gr_setM ?_ ?_ _ _);rotate_left;(first | omega | (simp;omega)))))⟩
end Go.Proofs.YtfkecmlmnhbmoaaGreatDoor
namespace Go.Proofs.YtfkecmlmnhbmoaaGreatDoor
open Go Go.RowKit
set_option maxRecDepth 100000 in
set_option maxHeartbeats 40000000 in
theorem ref_d (pf:By→Nat) (W0 w:World) (hI:Init W0) (hpf:PFC pf W0) (hE:Env W0 w) (b:Nat) (s:ByteArray) (p l:By) (deep:Int) (odd ends:Bool) (hR:RdAt w b s p l 0 deep odd ends) (hs:s.size≤140737488351240)
  (hW0:W0.heap.size≤b) (n:Int) (text:ByteArray) (tl:By) (htl:text.data.toList=tl) (hnum:numF pf tl=(2,n,0,0))
  {la:By} {oa:Bool} {gk gn st:Int} {gx:Nat} (hP1:passM false l odd=(la,oa)) (hN:numF pf (wordT la)=(gk,gn,gx,st))
  {lc:By} {oc:Bool} (hP5:passM false (wordR la) (wordO la oa)=(lc,oc)) {c:UInt8} {W:By} (hW:wordT lc=c::W) {O:Bool} (hO:wordO lc oc=O) (hst:(st == 1)=false) (hw:¬c::W=[82]) (h82:((c.toNat:Int) == 82)=false) :
  Calls Tryz.prog 64 #[.pointer (some ⟨b,0,none⟩),numV 2 n 0,.string text] w fun e w'=>RefPost w w' b s deep ends e (refF pf n tl l odd):=by
 have HR:=Lib.hid hR
 have hbB:=hR.lt
 obtain ⟨c0,c1,c2,c3,c4,c5,cf⟩:=hR.cells
 have HI:=Lib.hid hI;clear hI
 have Hpf:=Lib.hid hpf;clear hpf
 have HE:=Lib.hid hE;clear hE
 have Htl:=Lib.hid htl;clear htl
 have Hnum:=Lib.hid hnum;clear hnum
 clear hR
 unfold numV
 go_enter Tryz.func64,Tryz.ntmps64
 go_wp2_with fail
 have hal:=alloc3 w (NB n) (.cells #[.int .i64 0,.int .i64 0,.int .i64 0,.float .f64 0,.string ⟨#[]⟩,.slice none 0 0,.slice none 0 0] 30 (0,0)) (.cells #[.string s,.int .i64 p.length,.int .i64 0,.int .i64 deep,.bool odd,.bool ends] 57 (0,0))
 refine (pass_any _ (w.heap.size + 1 + 1) s p l 0 deep odd ends (by exact ⟨HR.out.1,hal.2.2.1⟩) (by omega)).mono ?_
 rintro e w1 ⟨rfl,⟨p1,hA1⟩,hg1⟩
 have hI0:RefI w _ b s p l deep odd ends n p l odd:=⟨hal.2.2.2.2.but _,HR.out.grown hal.2.2.2.2 (by simp),⟨HR.out.1,hal.2.2.1⟩,hal.1,hal.2.1,hbB⟩
 have HJ:=Lib.hid (hI0.call hg1 hA1)
 clear hI0 hg1 hA1 hal c0 c1 c2 c3 c4 c5 cf
 rw [hP1] at HJ
 go_wp2_with fail
 refine (word_any _ (w.heap.size + 1 + 1) s p1 la 0 deep oa ends (by exact HJ.out.hA) (by omega)).mono ?_
 rintro e w2 ⟨rfl,hA2,hg2⟩
 have HJ2:=Lib.hid (HJ.out.call hg2 hA2)
 clear hg2 hA2 HJ
 have hsz2:(wordT la).length≤140737488351240:=by
  have:=HJ2.out.hA.size
  simp at this;omega
 generalize hsec:(⟨(wordT la).toArray⟩:ByteArray)=sec
 have hsz3:sec.size≤140737488351240:=by rw [←hsec];show (List.toArray (wordT la)).size≤140737488351240;simpa using hsz2
 have hsl:sec.data.toList=wordT la:=by rw [←hsec]
 have Hsec:=Lib.hid hsec;clear hsec
 have Hsl:=Lib.hid hsl;clear hsl
 go_wp2_with fail
 refine (number_any pf W0 _ HI.out Hpf.out (by exact HE.out.grown HJ2.out.hG (fun k hk=>by injection hk with hk;omega)) sec (wordT la) Hsl.out hsz3).mono ?_
 rintro e w3 ⟨rfl,hg3⟩
 have HJ3:=Lib.hid (HJ2.out.call0 hg3)
 clear hg3 HJ2
 rw [hN]
 have HP1:=Lib.hid hP1;clear hP1
 have HN:=Lib.hid hN;clear hN
 unfold numRet numV
 have hc9:w.heap.size + 1 + 1 < w3.heap.size:=HJ3.out.hA.lt
 have HJ4:=Lib.hid (HJ3.out.call0 (gr_alloc (World.grownBy.refl w3 none) (NG gk gn gx)))
 have HN4:=Lib.hid (heap_alloc_new w3 (NG gk gn gx))
 clear HJ3
 go_wp2_with fail
 refine (pass_any _ (w.heap.size + 1 + 1) s _ _ 0 deep _ ends (by exact HJ4.out.hA) (by omega)).mono ?_
 rintro e w5 ⟨rfl,⟨p5,hA5⟩,hg5⟩
 have HJ5:=Lib.hid (HJ4.out.call hg5 hA5)
 have HN5:=Lib.hid (keep hg5 HN4.out (by simp;omega))
 clear HJ4 HN4 hA5 hg5
 rw [hP5] at HJ5
 go_wp2_with fail
 refine (word_any _ (w.heap.size + 1 + 1) s p5 lc 0 deep oc ends (by exact HJ5.out.hA) (by omega)).mono ?_
 rintro e w6 ⟨rfl,hA6,hg6⟩
 have HJ6:=Lib.hid (HJ5.out.call hg6 hA6)
 have HN6:=Lib.hid (keep hg6 HN5.out (by simp;omega))
 clear HJ5 HN5 hA6 hg6
 have HP5:=Lib.hid hP5;clear hP5
 obtain ⟨c0,c1,c2,c3,c4,c5,cf⟩:=HJ6.out.hR.cells
 obtain ⟨a0,a1,a2,a3,a4,a5,af⟩:=HJ6.out.hA.cells
 obtain ⟨v0,v1,v2,v3,v4,v5,v6,vf⟩:=cells7 HJ6.out.hV
 obtain ⟨z0,z1,z2,z3,z4,z5,z6,zf⟩:=zb_cells HJ6.out.hZ
 obtain ⟨n0,n1,n2,n3,n4,n5,n6,nf⟩:=cells7 HN6.out
 have hb3:w.heap.size + 1 + 1 < w6.heap.size:=HJ6.out.hA.lt
 have hb4:b < w6.heap.size:=by omega
 have hb5:w.heap.size < w6.heap.size:=by omega
 have hb6:w.heap.size + 1 < w6.heap.size:=by omega
 have hn1:¬w.heap.size + 1=b:=by omega
 rw [hO] at a4 HJ6
 generalize hwd:(⟨(wordT lc).toArray⟩:ByteArray)=wd
 have hwl:wd.data.toList=wordT lc:=by rw [←hwd]
 have Hwd:=Lib.hid hwd;clear hwd
 have Hwl:=Lib.hid hwl;clear hwl
 rw [hW] at Hwl
 have HW:=Lib.hid hW;clear hW
 have HO:=Lib.hid hO;clear hO
 obtain ⟨hlt0,hc0,hd0,hr0,hr1⟩:=at_byte (pre:=[]) (by simpa using Hwl.out)
 simp only [List.length_nil] at hlt0 hc0 hd0
 have hwe:¬wd.toList=[]:=by rw [ByteArray.toList_eq,Hwl.out];simp
 have hie:wd.toList.isEmpty=false:=by rw [ByteArray.toList_eq,Hwl.out];rfl
 have hw1:¬wd.toList=[82]:=by rw [ByteArray.toList_eq,Hwl.out];exact hw
 have hres:=ref_1 (n:=n) (tl:=tl) HP1.out HN.out hst HP5.out HW.out HO.out (.inl hw)
 have Hw:=Lib.hid hw;clear hw
 cases odd<;>cases O
 all_goals
  simp only [Bool.false_or,Bool.true_or,Bool.or_false,Bool.or_true,Bool.or_self,headIs,h82] at hres
  go_wp2_with fail
  have Hres:=Lib.hid hres;clear hres
  refine bodyPost_ret (v:=valOf (.int n) nilS nilS) (by simp [results,Tryz.results64,go_sem,valOf,nilS,pvKind,pvInt,pvGen,pvReal,pvText,z0,z1,z2,z3,z4,z5,z6,hb3,hb4,hb5,hb6,hn1]) rfl ?_
  rw [Hres.out]
  refine ⟨rfl,⟨p,(by repeat (first | with_reducible exact HJ6.out.hR | with_reducible apply RdAt.alloc | with_reducible apply RdAt.set4 | ((with_reducible refine RdAt.setO ?_ ?_ _ _);rotate_left;(first | omega | (simp;omega)))))⟩,(by repeat (first | with_reducible exact HJ6.out.hG | with_reducible apply gr_alloc | with_reducible apply gr_drewN | with_reducible apply gr_drew | with_reducible apply gr_set | ((with_reducible refine gr_setM ?_ ?_ _ _);rotate_left;(first | omega | (simp;omega)))))⟩
end Go.Proofs.YtfkecmlmnhbmoaaGreatDoor
namespace Go.Proofs.YtfkecmlmnhbmoaaGreatDoor
open Go Go.RowKit
set_option maxRecDepth 100000 in
set_option maxHeartbeats 40000000 in
theorem ref_e (pf:By→Nat) (W0 w:World) (hI:Init W0) (hpf:PFC pf W0) (hE:Env W0 w) (b:Nat) (s:ByteArray) (p l:By) (deep:Int) (odd ends:Bool) (hR:RdAt w b s p l 0 deep odd ends) (hs:s.size≤140737488351240)
  (hW0:W0.heap.size≤b) (n:Int) (text:ByteArray) (tl:By) (htl:text.data.toList=tl) (hnum:numF pf tl=(2,n,0,0))
  {la:By} {oa:Bool} {gk gn st:Int} {gx:Nat} (hP1:passM false l odd=(la,oa)) (hN:numF pf (wordT la)=(gk,gn,gx,st))
  {lc:By} {oc:Bool} (hP5:passM false (wordR la) (wordO la oa)=(lc,oc)) {c:UInt8} {W:By} (hW:wordT lc=c::W) {O:Bool} (hO:wordO lc oc=O) (hst:(st == 1)=false) (hw:c::W=[82]) (hs0:(st != 0)=true) :
  Calls Tryz.prog 64 #[.pointer (some ⟨b,0,none⟩),numV 2 n 0,.string text] w fun e w'=>RefPost w w' b s deep ends e (refF pf n tl l odd):=by
 have HR:=Lib.hid hR
 have hbB:=hR.lt
 obtain ⟨c0,c1,c2,c3,c4,c5,cf⟩:=hR.cells
 have HI:=Lib.hid hI;clear hI
 have Hpf:=Lib.hid hpf;clear hpf
 have HE:=Lib.hid hE;clear hE
 have Htl:=Lib.hid htl;clear htl
 have Hnum:=Lib.hid hnum;clear hnum
 clear hR
 unfold numV
 go_enter Tryz.func64,Tryz.ntmps64
 go_wp2_with fail
 have hal:=alloc3 w (NB n) (.cells #[.int .i64 0,.int .i64 0,.int .i64 0,.float .f64 0,.string ⟨#[]⟩,.slice none 0 0,.slice none 0 0] 30 (0,0)) (.cells #[.string s,.int .i64 p.length,.int .i64 0,.int .i64 deep,.bool odd,.bool ends] 57 (0,0))
 refine (pass_any _ (w.heap.size + 1 + 1) s p l 0 deep odd ends (by exact ⟨HR.out.1,hal.2.2.1⟩) (by omega)).mono ?_
 rintro e w1 ⟨rfl,⟨p1,hA1⟩,hg1⟩
 have hI0:RefI w _ b s p l deep odd ends n p l odd:=⟨hal.2.2.2.2.but _,HR.out.grown hal.2.2.2.2 (by simp),⟨HR.out.1,hal.2.2.1⟩,hal.1,hal.2.1,hbB⟩
 have HJ:=Lib.hid (hI0.call hg1 hA1)
 clear hI0 hg1 hA1 hal c0 c1 c2 c3 c4 c5 cf
 rw [hP1] at HJ
 go_wp2_with fail
 refine (word_any _ (w.heap.size + 1 + 1) s p1 la 0 deep oa ends (by exact HJ.out.hA) (by omega)).mono ?_
 rintro e w2 ⟨rfl,hA2,hg2⟩
 have HJ2:=Lib.hid (HJ.out.call hg2 hA2)
 clear hg2 hA2 HJ
 have hsz2:(wordT la).length≤140737488351240:=by
  have:=HJ2.out.hA.size
  simp at this;omega
 generalize hsec:(⟨(wordT la).toArray⟩:ByteArray)=sec
 have hsz3:sec.size≤140737488351240:=by rw [←hsec];show (List.toArray (wordT la)).size≤140737488351240;simpa using hsz2
 have hsl:sec.data.toList=wordT la:=by rw [←hsec]
 have Hsec:=Lib.hid hsec;clear hsec
 have Hsl:=Lib.hid hsl;clear hsl
 go_wp2_with fail
 refine (number_any pf W0 _ HI.out Hpf.out (by exact HE.out.grown HJ2.out.hG (fun k hk=>by injection hk with hk;omega)) sec (wordT la) Hsl.out hsz3).mono ?_
 rintro e w3 ⟨rfl,hg3⟩
 have HJ3:=Lib.hid (HJ2.out.call0 hg3)
 clear hg3 HJ2
 rw [hN]
 have HP1:=Lib.hid hP1;clear hP1
 have HN:=Lib.hid hN;clear hN
 unfold numRet numV
 have hc9:w.heap.size + 1 + 1 < w3.heap.size:=HJ3.out.hA.lt
 have HJ4:=Lib.hid (HJ3.out.call0 (gr_alloc (World.grownBy.refl w3 none) (NG gk gn gx)))
 have HN4:=Lib.hid (heap_alloc_new w3 (NG gk gn gx))
 clear HJ3
 go_wp2_with fail
 refine (pass_any _ (w.heap.size + 1 + 1) s _ _ 0 deep _ ends (by exact HJ4.out.hA) (by omega)).mono ?_
 rintro e w5 ⟨rfl,⟨p5,hA5⟩,hg5⟩
 have HJ5:=Lib.hid (HJ4.out.call hg5 hA5)
 have HN5:=Lib.hid (keep hg5 HN4.out (by simp;omega))
 clear HJ4 HN4 hA5 hg5
 rw [hP5] at HJ5
 go_wp2_with fail
 refine (word_any _ (w.heap.size + 1 + 1) s p5 lc 0 deep oc ends (by exact HJ5.out.hA) (by omega)).mono ?_
 rintro e w6 ⟨rfl,hA6,hg6⟩
 have HJ6:=Lib.hid (HJ5.out.call hg6 hA6)
 have HN6:=Lib.hid (keep hg6 HN5.out (by simp;omega))
 clear HJ5 HN5 hA6 hg6
 have HP5:=Lib.hid hP5;clear hP5
 obtain ⟨c0,c1,c2,c3,c4,c5,cf⟩:=HJ6.out.hR.cells
 obtain ⟨a0,a1,a2,a3,a4,a5,af⟩:=HJ6.out.hA.cells
 obtain ⟨v0,v1,v2,v3,v4,v5,v6,vf⟩:=cells7 HJ6.out.hV
 obtain ⟨z0,z1,z2,z3,z4,z5,z6,zf⟩:=zb_cells HJ6.out.hZ
 obtain ⟨n0,n1,n2,n3,n4,n5,n6,nf⟩:=cells7 HN6.out
 have hb3:w.heap.size + 1 + 1 < w6.heap.size:=HJ6.out.hA.lt
 have hb4:b < w6.heap.size:=by omega
 have hb5:w.heap.size < w6.heap.size:=by omega
 have hb6:w.heap.size + 1 < w6.heap.size:=by omega
 have hn1:¬w.heap.size + 1=b:=by omega
 rw [hO] at a4 HJ6
 generalize hwd:(⟨(wordT lc).toArray⟩:ByteArray)=wd
 have hwl:wd.data.toList=wordT lc:=by rw [←hwd]
 have Hwd:=Lib.hid hwd;clear hwd
 have Hwl:=Lib.hid hwl;clear hwl
 rw [hW] at Hwl
 have HW:=Lib.hid hW;clear hW
 have HO:=Lib.hid hO;clear hO
 obtain ⟨hlt0,hc0,hd0,hr0,hr1⟩:=at_byte (pre:=[]) (by simpa using Hwl.out)
 simp only [List.length_nil] at hlt0 hc0 hd0
 have hwe:¬wd.toList=[]:=by rw [ByteArray.toList_eq,Hwl.out];simp
 have hie:wd.toList.isEmpty=false:=by rw [ByteArray.toList_eq,Hwl.out];rfl
 have hw1:wd.toList=[82]:=by rw [ByteArray.toList_eq,Hwl.out,hw]
 have h82:((c.toNat:Int) == 82)=true:=by injection hw with e1 e2;rw [e1];rfl
 have Hw:=Lib.hid hw;clear hw
 have hres:=ref_1 (n:=n) (tl:=tl) HP1.out HN.out hst HP5.out HW.out HO.out (.inr (.inl (by simpa using hs0)))
 cases odd<;>cases O
 all_goals
  simp only [Bool.false_or,Bool.true_or,Bool.or_false,Bool.or_true,Bool.or_self,headIs,h82] at hres
  go_wp2_with fail
  have Hres:=Lib.hid hres;clear hres
  refine bodyPost_ret (v:=valOf (.int n) nilS nilS) (by simp [results,Tryz.results64,go_sem,valOf,nilS,pvKind,pvInt,pvGen,pvReal,pvText,z0,z1,z2,z3,z4,z5,z6,hb3,hb4,hb5,hb6,hn1]) rfl ?_
  rw [Hres.out]
  refine ⟨rfl,⟨p,(by repeat (first | with_reducible exact HJ6.out.hR | with_reducible apply RdAt.alloc | with_reducible apply RdAt.set4 | ((with_reducible refine RdAt.setO ?_ ?_ _ _);rotate_left;(first | omega | (simp;omega)))))⟩,(by repeat (first | with_reducible exact HJ6.out.hG | with_reducible apply gr_alloc | with_reducible apply gr_drewN | with_reducible apply gr_drew | with_reducible apply gr_set | ((with_reducible refine gr_setM ?_ ?_ _ _);rotate_left;(first | omega | (simp;omega)))))⟩
set_option maxRecDepth 100000 in
set_option maxHeartbeats 40000000 in
theorem ref_f (pf:By→Nat) (W0 w:World) (hI:Init W0) (hpf:PFC pf W0) (hE:Env W0 w) (b:Nat) (s:ByteArray) (p l:By) (deep:Int) (odd ends:Bool) (hR:RdAt w b s p l 0 deep odd ends) (hs:s.size≤140737488351240)
  (hW0:W0.heap.size≤b) (n:Int) (text:ByteArray) (tl:By) (htl:text.data.toList=tl) (hnum:numF pf tl=(2,n,0,0))
  {la:By} {oa:Bool} {gk gn:Int} {gx:Nat} (hP1:passM false l odd=(la,oa)) (hN:numF pf (wordT la)=(gk,gn,gx,0))
  {lc:By} {oc:Bool} (hP5:passM false (wordR la) (wordO la oa)=(lc,oc)) {c:UInt8} {W:By} (hW:wordT lc=c::W) {O:Bool} (hO:wordO lc oc=O) (hw:c::W=[82]) (hk0:(gk != 2)=true) :
  Calls Tryz.prog 64 #[.pointer (some ⟨b,0,none⟩),numV 2 n 0,.string text] w fun e w'=>RefPost w w' b s deep ends e (refF pf n tl l odd):=by
 have hst:((0:Int) == 1)=false:=rfl
 have HR:=Lib.hid hR
 have hbB:=hR.lt
 obtain ⟨c0,c1,c2,c3,c4,c5,cf⟩:=hR.cells
 have HI:=Lib.hid hI;clear hI
 have Hpf:=Lib.hid hpf;clear hpf
 have HE:=Lib.hid hE;clear hE
 have Htl:=Lib.hid htl;clear htl
 have Hnum:=Lib.hid hnum;clear hnum
 clear hR
 unfold numV
 go_enter Tryz.func64,Tryz.ntmps64
 go_wp2_with fail
 have hal:=alloc3 w (NB n) (.cells #[.int .i64 0,.int .i64 0,.int .i64 0,.float .f64 0,.string ⟨#[]⟩,.slice none 0 0,.slice none 0 0] 30 (0,0)) (.cells #[.string s,.int .i64 p.length,.int .i64 0,.int .i64 deep,.bool odd,.bool ends] 57 (0,0))
 refine (pass_any _ (w.heap.size + 1 + 1) s p l 0 deep odd ends (by exact ⟨HR.out.1,hal.2.2.1⟩) (by omega)).mono ?_
 rintro e w1 ⟨rfl,⟨p1,hA1⟩,hg1⟩
 have hI0:RefI w _ b s p l deep odd ends n p l odd:=⟨hal.2.2.2.2.but _,HR.out.grown hal.2.2.2.2 (by simp),⟨HR.out.1,hal.2.2.1⟩,hal.1,hal.2.1,hbB⟩
 have HJ:=Lib.hid (hI0.call hg1 hA1)
 clear hI0 hg1 hA1 hal c0 c1 c2 c3 c4 c5 cf
 rw [hP1] at HJ
 go_wp2_with fail
 refine (word_any _ (w.heap.size + 1 + 1) s p1 la 0 deep oa ends (by exact HJ.out.hA) (by omega)).mono ?_
 rintro e w2 ⟨rfl,hA2,hg2⟩
 have HJ2:=Lib.hid (HJ.out.call hg2 hA2)
 clear hg2 hA2 HJ
 have hsz2:(wordT la).length≤140737488351240:=by
  have:=HJ2.out.hA.size
  simp at this;omega
 generalize hsec:(⟨(wordT la).toArray⟩:ByteArray)=sec
 have hsz3:sec.size≤140737488351240:=by rw [←hsec];show (List.toArray (wordT la)).size≤140737488351240;simpa using hsz2
 have hsl:sec.data.toList=wordT la:=by rw [←hsec]
 have Hsec:=Lib.hid hsec;clear hsec
 have Hsl:=Lib.hid hsl;clear hsl
 go_wp2_with fail
 refine (number_any pf W0 _ HI.out Hpf.out (by exact HE.out.grown HJ2.out.hG (fun k hk=>by injection hk with hk;omega)) sec (wordT la) Hsl.out hsz3).mono ?_
 rintro e w3 ⟨rfl,hg3⟩
 have HJ3:=Lib.hid (HJ2.out.call0 hg3)
 clear hg3 HJ2
 rw [hN]
 have HP1:=Lib.hid hP1;clear hP1
 have HN:=Lib.hid hN;clear hN
 unfold numRet numV
 have hc9:w.heap.size + 1 + 1 < w3.heap.size:=HJ3.out.hA.lt
 have HJ4:=Lib.hid (HJ3.out.call0 (gr_alloc (World.grownBy.refl w3 none) (NG gk gn gx)))
 have HN4:=Lib.hid (heap_alloc_new w3 (NG gk gn gx))
 clear HJ3
 go_wp2_with fail
 refine (pass_any _ (w.heap.size + 1 + 1) s _ _ 0 deep _ ends (by exact HJ4.out.hA) (by omega)).mono ?_
 rintro e w5 ⟨rfl,⟨p5,hA5⟩,hg5⟩
 have HJ5:=Lib.hid (HJ4.out.call hg5 hA5)
 have HN5:=Lib.hid (keep hg5 HN4.out (by simp;omega))
 clear HJ4 HN4 hA5 hg5
 rw [hP5] at HJ5
 go_wp2_with fail
 refine (word_any _ (w.heap.size + 1 + 1) s p5 lc 0 deep oc ends (by exact HJ5.out.hA) (by omega)).mono ?_
 rintro e w6 ⟨rfl,hA6,hg6⟩
 have HJ6:=Lib.hid (HJ5.out.call hg6 hA6)
 have HN6:=Lib.hid (keep hg6 HN5.out (by simp;omega))
 clear HJ5 HN5 hA6 hg6
 have HP5:=Lib.hid hP5;clear hP5
 obtain ⟨c0,c1,c2,c3,c4,c5,cf⟩:=HJ6.out.hR.cells
 obtain ⟨a0,a1,a2,a3,a4,a5,af⟩:=HJ6.out.hA.cells
 obtain ⟨v0,v1,v2,v3,v4,v5,v6,vf⟩:=cells7 HJ6.out.hV
 obtain ⟨z0,z1,z2,z3,z4,z5,z6,zf⟩:=zb_cells HJ6.out.hZ
 obtain ⟨n0,n1,n2,n3,n4,n5,n6,nf⟩:=cells7 HN6.out
 have hb3:w.heap.size + 1 + 1 < w6.heap.size:=HJ6.out.hA.lt
 have hb4:b < w6.heap.size:=by omega
 have hb5:w.heap.size < w6.heap.size:=by omega
 have hb6:w.heap.size + 1 < w6.heap.size:=by omega
 have hn1:¬w.heap.size + 1=b:=by omega
 rw [hO] at a4 HJ6
 generalize hwd:(⟨(wordT lc).toArray⟩:ByteArray)=wd
 have hwl:wd.data.toList=wordT lc:=by rw [←hwd]
 have Hwd:=Lib.hid hwd;clear hwd
 have Hwl:=Lib.hid hwl;clear hwl
 rw [hW] at Hwl
 have HW:=Lib.hid hW;clear hW
 have HO:=Lib.hid hO;clear hO
 obtain ⟨hlt0,hc0,hd0,hr0,hr1⟩:=at_byte (pre:=[]) (by simpa using Hwl.out)
 simp only [List.length_nil] at hlt0 hc0 hd0
 have hwe:¬wd.toList=[]:=by rw [ByteArray.toList_eq,Hwl.out];simp
 have hie:wd.toList.isEmpty=false:=by rw [ByteArray.toList_eq,Hwl.out];rfl
 have hw1:wd.toList=[82]:=by rw [ByteArray.toList_eq,Hwl.out,hw]
 have h82:((c.toNat:Int) == 82)=true:=by injection hw with e1 e2;rw [e1];rfl
 have Hw:=Lib.hid hw;clear hw
 have hres:=ref_1 (n:=n) (tl:=tl) HP1.out HN.out hst HP5.out HW.out HO.out (.inr (.inr (.inl (by simpa using hk0))))
 cases odd<;>cases O
 all_goals
  simp only [Bool.false_or,Bool.true_or,Bool.or_false,Bool.or_true,Bool.or_self,headIs,h82] at hres
  go_wp2_with fail
  have Hres:=Lib.hid hres;clear hres
  refine bodyPost_ret (v:=valOf (.int n) nilS nilS) (by simp [results,Tryz.results64,go_sem,valOf,nilS,pvKind,pvInt,pvGen,pvReal,pvText,z0,z1,z2,z3,z4,z5,z6,hb3,hb4,hb5,hb6,hn1]) rfl ?_
  rw [Hres.out]
  refine ⟨rfl,⟨p,(by repeat (first | with_reducible exact HJ6.out.hR | with_reducible apply RdAt.alloc | with_reducible apply RdAt.set4 | ((with_reducible refine RdAt.setO ?_ ?_ _ _);rotate_left;(first | omega | (simp;omega)))))⟩,(by repeat (first | with_reducible exact HJ6.out.hG | with_reducible apply gr_alloc | with_reducible apply gr_drewN | with_reducible apply gr_drew | with_reducible apply gr_set | ((with_reducible refine gr_setM ?_ ?_ _ _);rotate_left;(first | omega | (simp;omega)))))⟩
end Go.Proofs.YtfkecmlmnhbmoaaGreatDoor
namespace Go.Proofs.YtfkecmlmnhbmoaaGreatDoor
open Go Go.RowKit
set_option maxRecDepth 100000 in
set_option maxHeartbeats 40000000 in
theorem ref_g (pf:By→Nat) (W0 w:World) (hI:Init W0) (hpf:PFC pf W0) (hE:Env W0 w) (b:Nat) (s:ByteArray) (p l:By) (deep:Int) (odd ends:Bool) (hR:RdAt w b s p l 0 deep odd ends) (hs:s.size≤140737488351240)
  (hW0:W0.heap.size≤b) (n:Int) (text:ByteArray) (tl:By) (htl:text.data.toList=tl) (hnum:numF pf tl=(2,n,0,0))
  {la:By} {oa:Bool} {gn:Int} {gx:Nat} (hP1:passM false l odd=(la,oa)) (hN:numF pf (wordT la)=(2,gn,gx,0))
  {lc:By} {oc:Bool} (hP5:passM false (wordR la) (wordO la oa)=(lc,oc)) {c:UInt8} {W:By} (hW:wordT lc=c::W) {O:Bool} (hO:wordO lc oc=O) (hw:c::W=[82]) (hdg':headIs (wordT la) isDig=false) :
  Calls Tryz.prog 64 #[.pointer (some ⟨b,0,none⟩),numV 2 n 0,.string text] w fun e w'=>RefPost w w' b s deep ends e (refF pf n tl l odd):=by
 have hst:((0:Int) == 1)=false:=rfl
 have HR:=Lib.hid hR
 have hbB:=hR.lt
 obtain ⟨c0,c1,c2,c3,c4,c5,cf⟩:=hR.cells
 have HI:=Lib.hid hI;clear hI
 have Hpf:=Lib.hid hpf;clear hpf
 have HE:=Lib.hid hE;clear hE
 have Htl:=Lib.hid htl;clear htl
 have Hnum:=Lib.hid hnum;clear hnum
 clear hR
 unfold numV
 go_enter Tryz.func64,Tryz.ntmps64
 go_wp2_with fail
 have hal:=alloc3 w (NB n) (.cells #[.int .i64 0,.int .i64 0,.int .i64 0,.float .f64 0,.string ⟨#[]⟩,.slice none 0 0,.slice none 0 0] 30 (0,0)) (.cells #[.string s,.int .i64 p.length,.int .i64 0,.int .i64 deep,.bool odd,.bool ends] 57 (0,0))
 refine (pass_any _ (w.heap.size + 1 + 1) s p l 0 deep odd ends (by exact ⟨HR.out.1,hal.2.2.1⟩) (by omega)).mono ?_
 rintro e w1 ⟨rfl,⟨p1,hA1⟩,hg1⟩
 have hI0:RefI w _ b s p l deep odd ends n p l odd:=⟨hal.2.2.2.2.but _,HR.out.grown hal.2.2.2.2 (by simp),⟨HR.out.1,hal.2.2.1⟩,hal.1,hal.2.1,hbB⟩
 have HJ:=Lib.hid (hI0.call hg1 hA1)
 clear hI0 hg1 hA1 hal c0 c1 c2 c3 c4 c5 cf
 rw [hP1] at HJ
 go_wp2_with fail
 refine (word_any _ (w.heap.size + 1 + 1) s p1 la 0 deep oa ends (by exact HJ.out.hA) (by omega)).mono ?_
 rintro e w2 ⟨rfl,hA2,hg2⟩
 have HJ2:=Lib.hid (HJ.out.call hg2 hA2)
 clear hg2 hA2 HJ
 have hsz2:(wordT la).length≤140737488351240:=by
  have:=HJ2.out.hA.size
  simp at this;omega
 generalize hsec:(⟨(wordT la).toArray⟩:ByteArray)=sec
 have hsz3:sec.size≤140737488351240:=by rw [←hsec];show (List.toArray (wordT la)).size≤140737488351240;simpa using hsz2
 have hsl:sec.data.toList=wordT la:=by rw [←hsec]
 have Hsec:=Lib.hid hsec;clear hsec
 have Hsl:=Lib.hid hsl;clear hsl
 go_wp2_with fail
 refine (number_any pf W0 _ HI.out Hpf.out (by exact HE.out.grown HJ2.out.hG (fun k hk=>by injection hk with hk;omega)) sec (wordT la) Hsl.out hsz3).mono ?_
 rintro e w3 ⟨rfl,hg3⟩
 have HJ3:=Lib.hid (HJ2.out.call0 hg3)
 clear hg3 HJ2
 rw [hN]
 have HP1:=Lib.hid hP1;clear hP1
 have HN:=Lib.hid hN;clear hN
 unfold numRet numV
 have hc9:w.heap.size + 1 + 1 < w3.heap.size:=HJ3.out.hA.lt
 have HJ4:=Lib.hid (HJ3.out.call0 (gr_alloc (World.grownBy.refl w3 none) (NG 2 gn gx)))
 have HN4:=Lib.hid (heap_alloc_new w3 (NG 2 gn gx))
 clear HJ3
 go_wp2_with fail
 refine (pass_any _ (w.heap.size + 1 + 1) s _ _ 0 deep _ ends (by exact HJ4.out.hA) (by omega)).mono ?_
 rintro e w5 ⟨rfl,⟨p5,hA5⟩,hg5⟩
 have HJ5:=Lib.hid (HJ4.out.call hg5 hA5)
 have HN5:=Lib.hid (keep hg5 HN4.out (by simp;omega))
 clear HJ4 HN4 hA5 hg5
 rw [hP5] at HJ5
 go_wp2_with fail
 refine (word_any _ (w.heap.size + 1 + 1) s p5 lc 0 deep oc ends (by exact HJ5.out.hA) (by omega)).mono ?_
 rintro e w6 ⟨rfl,hA6,hg6⟩
 have HJ6:=Lib.hid (HJ5.out.call hg6 hA6)
 have HN6:=Lib.hid (keep hg6 HN5.out (by simp;omega))
 clear HJ5 HN5 hA6 hg6
 have HP5:=Lib.hid hP5;clear hP5
 obtain ⟨c0,c1,c2,c3,c4,c5,cf⟩:=HJ6.out.hR.cells
 obtain ⟨a0,a1,a2,a3,a4,a5,af⟩:=HJ6.out.hA.cells
 obtain ⟨v0,v1,v2,v3,v4,v5,v6,vf⟩:=cells7 HJ6.out.hV
 obtain ⟨z0,z1,z2,z3,z4,z5,z6,zf⟩:=zb_cells HJ6.out.hZ
 obtain ⟨n0,n1,n2,n3,n4,n5,n6,nf⟩:=cells7 HN6.out
 have hb3:w.heap.size + 1 + 1 < w6.heap.size:=HJ6.out.hA.lt
 have hb4:b < w6.heap.size:=by omega
 have hb5:w.heap.size < w6.heap.size:=by omega
 have hb6:w.heap.size + 1 < w6.heap.size:=by omega
 have hn1:¬w.heap.size + 1=b:=by omega
 rw [hO] at a4 HJ6
 generalize hwd:(⟨(wordT lc).toArray⟩:ByteArray)=wd
 have hwl:wd.data.toList=wordT lc:=by rw [←hwd]
 have Hwd:=Lib.hid hwd;clear hwd
 have Hwl:=Lib.hid hwl;clear hwl
 rw [hW] at Hwl
 have HW:=Lib.hid hW;clear hW
 have HO:=Lib.hid hO;clear hO
 obtain ⟨hlt0,hc0,hd0,hr0,hr1⟩:=at_byte (pre:=[]) (by simpa using Hwl.out)
 simp only [List.length_nil] at hlt0 hc0 hd0
 have hwe:¬wd.toList=[]:=by rw [ByteArray.toList_eq,Hwl.out];simp
 have hie:wd.toList.isEmpty=false:=by rw [ByteArray.toList_eq,Hwl.out];rfl
 have hw1:wd.toList=[82]:=by rw [ByteArray.toList_eq,Hwl.out,hw]
 have h82:((c.toNat:Int) == 82)=true:=by injection hw with e1 e2;rw [e1];rfl
 have Hw:=Lib.hid hw;clear hw
 have hne:wordT la≠[]:=by intro e;have:=HN.out;rw [e] at this;simp [numF,numStrip,numScan] at this
 have hne2:tl≠[]:=by intro e;have:=Hnum.out;rw [e] at this;simp [numF,numStrip,numScan] at this
 obtain ⟨d,S,hS⟩:=List.exists_cons_of_ne_nil hne
 obtain ⟨t0,T,hT⟩:=List.exists_cons_of_ne_nil hne2
 have hs2:sec.data.toList=d::S:=Hsl.out.trans hS
 have ht2:text.data.toList=t0::T:=Htl.out.trans hT
 obtain ⟨hlts,hcs,hds,hrs0,hrs1⟩:=at_byte (pre:=[]) (by simpa using hs2)
 obtain ⟨hltt,hct,hdt,hrt0,hrt1⟩:=at_byte (pre:=[]) (by simpa using ht2)
 simp only [List.length_nil] at hlts hcs hds hltt hct hdt
 clear hs2 ht2 hne hne2
 have hdg:isDig (d.toNat:Int)=false:=by rw [hS] at hdg';exact hdg'
 have hres:=ref_1 (n:=n) (tl:=tl) HP1.out HN.out hst HP5.out HW.out HO.out (.inr (.inr (.inr (.inl hdg'))))
 have HS:=Lib.hid hS;clear hS
 have HT:=Lib.hid hT;clear hT
 have Hdg:=Lib.hid hdg';clear hdg'
 cases odd<;>cases O
 all_goals
  simp only [Bool.false_or,Bool.true_or,Bool.or_false,Bool.or_true,Bool.or_self,headIs,h82] at hres
  go_wp2_with (go_at_call 75;refine (digit_eq hdg _).mono ?_;rintro e w' ⟨rfl,rfl⟩)
  have Hres:=Lib.hid hres;clear hres
  refine bodyPost_ret (v:=valOf (.int n) nilS nilS) (by simp [results,Tryz.results64,go_sem,valOf,nilS,pvKind,pvInt,pvGen,pvReal,pvText,z0,z1,z2,z3,z4,z5,z6,hb3,hb4,hb5,hb6,hn1]) rfl ?_
  rw [Hres.out]
  refine ⟨rfl,⟨p,(by repeat (first | with_reducible exact HJ6.out.hR | with_reducible apply RdAt.alloc | with_reducible apply RdAt.set4 | ((with_reducible refine RdAt.setO ?_ ?_ _ _);rotate_left;(first | omega | (simp;omega)))))⟩,(by repeat (first | with_reducible exact HJ6.out.hG | with_reducible apply gr_alloc | with_reducible apply gr_drewN | with_reducible apply gr_drew | with_reducible apply gr_set | ((with_reducible refine gr_setM ?_ ?_ _ _);rotate_left;(first | omega | (simp;omega)))))⟩
set_option maxRecDepth 100000 in
set_option maxHeartbeats 40000000 in
theorem ref_h (pf:By→Nat) (W0 w:World) (hI:Init W0) (hpf:PFC pf W0) (hE:Env W0 w) (b:Nat) (s:ByteArray) (p l:By) (deep:Int) (odd ends:Bool) (hR:RdAt w b s p l 0 deep odd ends) (hs:s.size≤140737488351240)
  (hW0:W0.heap.size≤b) (n:Int) (text:ByteArray) (tl:By) (htl:text.data.toList=tl) (hnum:numF pf tl=(2,n,0,0))
  {la:By} {oa:Bool} {gn:Int} {gx:Nat} (hP1:passM false l odd=(la,oa)) (hN:numF pf (wordT la)=(2,gn,gx,0))
  {lc:By} {oc:Bool} (hP5:passM false (wordR la) (wordO la oa)=(lc,oc)) {c:UInt8} {W:By} (hW:wordT lc=c::W) {O:Bool} (hO:wordO lc oc=O) (hw:c::W=[82]) (hdg':headIs (wordT la) isDig=true) (hdt':headIs tl isDig=false) :
  Calls Tryz.prog 64 #[.pointer (some ⟨b,0,none⟩),numV 2 n 0,.string text] w fun e w'=>RefPost w w' b s deep ends e (refF pf n tl l odd):=by
 have hst:((0:Int) == 1)=false:=rfl
 have HR:=Lib.hid hR
 have hbB:=hR.lt
 obtain ⟨c0,c1,c2,c3,c4,c5,cf⟩:=hR.cells
 have HI:=Lib.hid hI;clear hI
 have Hpf:=Lib.hid hpf;clear hpf
 have HE:=Lib.hid hE;clear hE
 have Htl:=Lib.hid htl;clear htl
 have Hnum:=Lib.hid hnum;clear hnum
 clear hR
 unfold numV
 go_enter Tryz.func64,Tryz.ntmps64
 go_wp2_with fail
 have hal:=alloc3 w (NB n) (.cells #[.int .i64 0,.int .i64 0,.int .i64 0,.float .f64 0,.string ⟨#[]⟩,.slice none 0 0,.slice none 0 0] 30 (0,0)) (.cells #[.string s,.int .i64 p.length,.int .i64 0,.int .i64 deep,.bool odd,.bool ends] 57 (0,0))
 refine (pass_any _ (w.heap.size + 1 + 1) s p l 0 deep odd ends (by exact ⟨HR.out.1,hal.2.2.1⟩) (by omega)).mono ?_
 rintro e w1 ⟨rfl,⟨p1,hA1⟩,hg1⟩
 have hI0:RefI w _ b s p l deep odd ends n p l odd:=⟨hal.2.2.2.2.but _,HR.out.grown hal.2.2.2.2 (by simp),⟨HR.out.1,hal.2.2.1⟩,hal.1,hal.2.1,hbB⟩
 have HJ:=Lib.hid (hI0.call hg1 hA1)
 clear hI0 hg1 hA1 hal c0 c1 c2 c3 c4 c5 cf
 rw [hP1] at HJ
 go_wp2_with fail
 refine (word_any _ (w.heap.size + 1 + 1) s p1 la 0 deep oa ends (by exact HJ.out.hA) (by omega)).mono ?_
 rintro e w2 ⟨rfl,hA2,hg2⟩
 have HJ2:=Lib.hid (HJ.out.call hg2 hA2)
 clear hg2 hA2 HJ
 have hsz2:(wordT la).length≤140737488351240:=by
  have:=HJ2.out.hA.size
  simp at this;omega
 generalize hsec:(⟨(wordT la).toArray⟩:ByteArray)=sec
 have hsz3:sec.size≤140737488351240:=by rw [←hsec];show (List.toArray (wordT la)).size≤140737488351240;simpa using hsz2
 have hsl:sec.data.toList=wordT la:=by rw [←hsec]
 have Hsec:=Lib.hid hsec;clear hsec
 have Hsl:=Lib.hid hsl;clear hsl
 go_wp2_with fail
 refine (number_any pf W0 _ HI.out Hpf.out (by exact HE.out.grown HJ2.out.hG (fun k hk=>by injection hk with hk;omega)) sec (wordT la) Hsl.out hsz3).mono ?_
 rintro e w3 ⟨rfl,hg3⟩
 have HJ3:=Lib.hid (HJ2.out.call0 hg3)
 clear hg3 HJ2
 rw [hN]
 have HP1:=Lib.hid hP1;clear hP1
 have HN:=Lib.hid hN;clear hN
 unfold numRet numV
 have hc9:w.heap.size + 1 + 1 < w3.heap.size:=HJ3.out.hA.lt
 have HJ4:=Lib.hid (HJ3.out.call0 (gr_alloc (World.grownBy.refl w3 none) (NG 2 gn gx)))
 have HN4:=Lib.hid (heap_alloc_new w3 (NG 2 gn gx))
 clear HJ3
 go_wp2_with fail
 refine (pass_any _ (w.heap.size + 1 + 1) s _ _ 0 deep _ ends (by exact HJ4.out.hA) (by omega)).mono ?_
 rintro e w5 ⟨rfl,⟨p5,hA5⟩,hg5⟩
 have HJ5:=Lib.hid (HJ4.out.call hg5 hA5)
 have HN5:=Lib.hid (keep hg5 HN4.out (by simp;omega))
 clear HJ4 HN4 hA5 hg5
 rw [hP5] at HJ5
 go_wp2_with fail
 refine (word_any _ (w.heap.size + 1 + 1) s p5 lc 0 deep oc ends (by exact HJ5.out.hA) (by omega)).mono ?_
 rintro e w6 ⟨rfl,hA6,hg6⟩
 have HJ6:=Lib.hid (HJ5.out.call hg6 hA6)
 have HN6:=Lib.hid (keep hg6 HN5.out (by simp;omega))
 clear HJ5 HN5 hA6 hg6
 have HP5:=Lib.hid hP5;clear hP5
 obtain ⟨c0,c1,c2,c3,c4,c5,cf⟩:=HJ6.out.hR.cells
 obtain ⟨a0,a1,a2,a3,a4,a5,af⟩:=HJ6.out.hA.cells
 obtain ⟨v0,v1,v2,v3,v4,v5,v6,vf⟩:=cells7 HJ6.out.hV
 obtain ⟨z0,z1,z2,z3,z4,z5,z6,zf⟩:=zb_cells HJ6.out.hZ
 obtain ⟨n0,n1,n2,n3,n4,n5,n6,nf⟩:=cells7 HN6.out
 have hb3:w.heap.size + 1 + 1 < w6.heap.size:=HJ6.out.hA.lt
 have hb4:b < w6.heap.size:=by omega
 have hb5:w.heap.size < w6.heap.size:=by omega
 have hb6:w.heap.size + 1 < w6.heap.size:=by omega
 have hn1:¬w.heap.size + 1=b:=by omega
 rw [hO] at a4 HJ6
 generalize hwd:(⟨(wordT lc).toArray⟩:ByteArray)=wd
 have hwl:wd.data.toList=wordT lc:=by rw [←hwd]
 have Hwd:=Lib.hid hwd;clear hwd
 have Hwl:=Lib.hid hwl;clear hwl
 rw [hW] at Hwl
 have HW:=Lib.hid hW;clear hW
 have HO:=Lib.hid hO;clear hO
 obtain ⟨hlt0,hc0,hd0,hr0,hr1⟩:=at_byte (pre:=[]) (by simpa using Hwl.out)
 simp only [List.length_nil] at hlt0 hc0 hd0
 have hwe:¬wd.toList=[]:=by rw [ByteArray.toList_eq,Hwl.out];simp
 have hie:wd.toList.isEmpty=false:=by rw [ByteArray.toList_eq,Hwl.out];rfl
 have hw1:wd.toList=[82]:=by rw [ByteArray.toList_eq,Hwl.out,hw]
 have h82:((c.toNat:Int) == 82)=true:=by injection hw with e1 e2;rw [e1];rfl
 have Hw:=Lib.hid hw;clear hw
 have hne:wordT la≠[]:=by intro e;have:=HN.out;rw [e] at this;simp [numF,numStrip,numScan] at this
 have hne2:tl≠[]:=by intro e;have:=Hnum.out;rw [e] at this;simp [numF,numStrip,numScan] at this
 obtain ⟨d,S,hS⟩:=List.exists_cons_of_ne_nil hne
 obtain ⟨t0,T,hT⟩:=List.exists_cons_of_ne_nil hne2
 have hs2:sec.data.toList=d::S:=Hsl.out.trans hS
 have ht2:text.data.toList=t0::T:=Htl.out.trans hT
 obtain ⟨hlts,hcs,hds,hrs0,hrs1⟩:=at_byte (pre:=[]) (by simpa using hs2)
 obtain ⟨hltt,hct,hdt,hrt0,hrt1⟩:=at_byte (pre:=[]) (by simpa using ht2)
 simp only [List.length_nil] at hlts hcs hds hltt hct hdt
 clear hs2 ht2 hne hne2
 have hdg:isDig (d.toNat:Int)=true:=by rw [hS] at hdg';exact hdg'
 have hdt2:isDig (t0.toNat:Int)=false:=by rw [hT] at hdt';exact hdt'
 have hres:=ref_1 (n:=n) (tl:=tl) HP1.out HN.out hst HP5.out HW.out HO.out (.inr (.inr (.inr (.inr hdt'))))
 have HS:=Lib.hid hS;clear hS
 have HT:=Lib.hid hT;clear hT
 have Hdg:=Lib.hid hdg';clear hdg'
 have Hdt:=Lib.hid hdt';clear hdt'
 cases odd<;>cases O
 all_goals
  simp only [Bool.false_or,Bool.true_or,Bool.or_false,Bool.or_true,Bool.or_self,headIs,h82] at hres
  go_wp2_with (go_at_call 75;first | (refine (digit_eq hdg _).mono ?_;rintro e w' ⟨rfl,rfl⟩) | (refine (digit_eq hdt2 _).mono ?_;rintro e w' ⟨rfl,rfl⟩))
  have Hres:=Lib.hid hres;clear hres
  refine bodyPost_ret (v:=valOf (.int n) nilS nilS) (by simp [results,Tryz.results64,go_sem,valOf,nilS,pvKind,pvInt,pvGen,pvReal,pvText,z0,z1,z2,z3,z4,z5,z6,hb3,hb4,hb5,hb6,hn1]) rfl ?_
  rw [Hres.out]
  refine ⟨rfl,⟨p,(by repeat (first | with_reducible exact HJ6.out.hR | with_reducible apply RdAt.alloc | with_reducible apply RdAt.set4 | ((with_reducible refine RdAt.setO ?_ ?_ _ _);rotate_left;(first | omega | (simp;omega)))))⟩,(by repeat (first | with_reducible exact HJ6.out.hG | with_reducible apply gr_alloc | with_reducible apply gr_drewN | with_reducible apply gr_drew | with_reducible apply gr_set | ((with_reducible refine gr_setM ?_ ?_ _ _);rotate_left;(first | omega | (simp;omega)))))⟩
end Go.Proofs.YtfkecmlmnhbmoaaGreatDoor
namespace Go.Proofs.YtfkecmlmnhbmoaaGreatDoor
open Go Go.RowKit
def ipT (L:By) (dp:Int):By:=if 0 < dp then L.take dp.toNat ++ List.replicate (dp.toNat - L.length) 48 else [48]
def lzT (dp:Int):Nat:=min 12 (-dp).toNat
def mdT (L:By) (dp:Int):Nat:=min (12 - lzT dp) (L.length - (dp + lzT dp).toNat)
def frT (L:By) (dp:Int):By:=List.replicate (lzT dp) 48 ++ ((L.drop (dp + lzT dp).toNat).take (mdT L dp) ++ List.replicate (12 - lzT dp - mdT L dp) 48)
def ftxt (neg:Bool) (L:By) (dp:Int):By:=(if neg then [45] else []) ++ (ipT L dp ++ 46::frT L dp)
theorem isDs_tk {L:By} (h:isDs L) (n:Nat):isDs (L.take n):=fun c hc=>h c (List.mem_of_mem_take hc)
theorem isDs_dr {L:By} (h:isDs L) (n:Nat):isDs (L.drop n):=fun c hc=>h c (List.mem_of_mem_drop hc)
theorem isDs_ap {a b:By} (ha:isDs a) (hb:isDs b):isDs (a ++ b):=fun c hc=>by
 rcases List.mem_append.1 hc with h | h
 ·exact ha c h
 ·exact hb c h
theorem isDs_rp (n:Nat):isDs (List.replicate n 48):=fun c hc=>by
 obtain ⟨_,rfl⟩:=List.mem_replicate.1 hc;decide
theorem ipT_ds {L:By} (h:isDs L) (dp:Int):isDs (ipT L dp):=by
 unfold ipT
 split
 ·exact isDs_ap (isDs_tk h _) (isDs_rp _)
 ·intro c hc;simp at hc;subst hc;decide
theorem frT_ds {L:By} (h:isDs L) (dp:Int):isDs (frT L dp):=isDs_ap (isDs_rp _) (isDs_ap (isDs_tk (isDs_dr h _) _) (isDs_rp _))
theorem ipT_len {L:By} {dp:Int} (h:dp≤14):1≤(ipT L dp).length∧(ipT L dp).length≤14:=by
 unfold ipT
 split
 ·rw [List.length_append,List.length_take,List.length_replicate];omega
 ·simp
theorem frT_len (L:By) (dp:Int):(frT L dp).length=12:=by
 unfold frT
 rw [List.length_append,List.length_append,List.length_take,List.length_drop,List.length_replicate,List.length_replicate]
 unfold mdT lzT
 omega
theorem scan_ds:∀ (l:By),isDs l→∀ (r:By) (d p a:Int),numScan (l ++ r) d p a=numScan r (d + l.length) p (if p == 0 then a + l.length else a):=by
 intro l
 induction l with
 | nil=>intro _ r d p a;simp
 | cons c l ih =>
  intro h r d p a
  have hc:=h c (by simp)
  have hd:isDig (c.toNat:Int)=true:=by simp [isDig];omega
  rw [List.cons_append]
  simp only [numScan,hd,if_true]
  rw [ih (fun e he=>h e (by simp [he]))]
  have e1:d + 1 + (l.length:Int)=d + ((c::l).length:Nat):=by simp;omega
  rw [e1]
  congr 1
  by_cases hp:(p == 0)=true
  ·rw [if_pos hp,if_pos hp,if_pos hp];simp;omega
  ·rw [if_neg hp,if_neg hp,if_neg hp]
theorem scan_txt {i f:By} (hi:isDs i) (hf:isDs f):numScan (i ++ 46::f) 0 0 0=some (((i.length + f.length:Nat):Int),1,(i.length:Int)):=by
 rw [scan_ds i hi]
 simp only [beq_self_eq_true,if_true]
 have e:numScan (46::f) (0 + (i.length:Int)) 0 (0 + (i.length:Int))=numScan (f ++ []) (0 + (i.length:Int)) 1 (0 + (i.length:Int)):=by
  rw [List.append_nil]
  have h1:isDig ((46:UInt8).toNat:Int)=false:=by decide
  simp only [numScan,h1]
  rfl
 rw [e,scan_ds f hf]
 have h2:((1:Int) == 0)=false:=by decide
 simp only [numScan,h2]
 simp
theorem ftxt_ok {L:By} (h:isDs L) {dp:Int} (hdp:dp≤14) (neg:Bool):numOk (ftxt neg L dp):=by
 have hi:=ipT_ds h dp
 have hf:=frT_ds h dp
 have l1:=ipT_len (L:=L) hdp
 have l2:=frT_len L dp
 have hst:numStrip (ftxt neg L dp)=ipT L dp ++ 46::frT L dp:=by
  unfold ftxt
  cases neg
  ·simp only [Bool.false_eq_true,if_false,List.nil_append]
   generalize ipT L dp=i at *
   cases i with
   | nil=>simp at l1
   | cons c i =>
    have:=hi c (by simp)
    rw [List.cons_append,atoi_strip,if_neg (by omega)]
  ·simp only [if_true,List.cons_append,List.nil_append]
   rw [atoi_strip,if_pos (by decide)]
 exact ⟨_,_,by rw [hst];exact scan_txt hi hf,by omega,by omega,by omega⟩
end Go.Proofs.YtfkecmlmnhbmoaaGreatDoor
