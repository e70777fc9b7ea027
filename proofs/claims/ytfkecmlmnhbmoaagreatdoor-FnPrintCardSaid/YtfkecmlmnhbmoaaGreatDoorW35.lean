/- Parts J4. -/
import Derived.Deep.CutRange
import Derived.Test.YtfkecmlmnhbmoaaGreatDoorW25
set_option linter.unusedVariables false
set_option linter.unusedSimpArgs false
set_option maxRecDepth 100000
set_option maxHeartbeats 40000000
namespace Go.Proofs.YtfkecmlmnhbmoaaGreatDoor
open Go Go.RowKit
theorem fmt_any (w:World)(B:Nat)(v0:Value)(neg:Bool)(L:By)(dp:Int)(sb sn sc:Nat)(hl:L.length≤sn)(hsn:sn≤sc)(hsc:sc≤800)(hsb:sb<w.heap.size)(hne:v0.ownBlock≠some sb)
  (hcells:∀(i:Nat) c,L[i]?=some c→w.cell? ⟨sb,i,none⟩=some (.int .u8 (c.toNat:Int)))(hown:OwnB B w v0 [])(hB:B≤w.heap.size)(hd1:-3000≤dp)(hd2:dp≤14)(sh:Bool) :
  Calls Tryz.prog 115 #[v0,.bool neg,.slice (some ⟨sb,0,none⟩) sn sc,.int .i64 dp,.int .i64 (L.length:Nat),.int .i64 12,.int .u8 102,.bool sh] w fun e w'=>∃v',e=.returned v'∧DstAt w w' v0 v' B (ftxt neg L dp):=by
 obtain⟨N,hN⟩:∃N,N=L.length:=⟨_,rfl⟩;rw[←hN]at hl⊢;obtain⟨z1,hz1⟩:∃z,z=lzT dp:=⟨_,rfl⟩;obtain⟨offn,hoffn⟩:∃z,z=(dp+(z1:Int)).toNat:=⟨_,rfl⟩;obtain⟨md,hmd⟩:∃z,z=min (12-z1) (N-offn):=⟨_,rfl⟩;obtain⟨tz,htz⟩:∃z,z=12-z1-md:=⟨_,rfl⟩;have hz:z1=min 12 (-dp).toNat:=hz1;obtain⟨off,hoff⟩:∃z:Int,dp+(z1:Int)=z:=⟨_,rfl⟩;have hz12:z1≤12:=by omega
 have hmd12:z1+md+tz=12:=by omega
 have Hoff:=xhd (show ∀j,j<md→off+(j:Int)=((offn+j:Nat):Int)∧offn+j<N from fun j hj=>by omega)
 have Hfin:=xhd (show ftxt neg L dp=((if neg then [45] else [])++ipT L dp)++46::(List.replicate z1 48++((L.drop offn).take md++List.replicate tz 48)) from by
  unfold ftxt frT mdT
  rw[←hz1,←hN,←hoffn,←hmd,←htz,List.append_assoc])
 obtain⟨HN,Hcells⟩:=xh2 hN hcells;have Hsb:=xhd (And.intro hsb hne);have HD:=xhd (DstAt.start hown hB);have Hip:=xhd (show ipT L dp=if 0<dp then L.take dp.toNat++List.replicate (dp.toNat-N) 48 else [48] by rw[hN];rfl);have offlo:-3000≤off:=by omega
 have offhi:off≤14:=by omega
 have hN8:N≤800:=by omega
 have HZ:=xhd (And.intro hz (And.intro hoffn (And.intro hmd htz)));clear hcells hN hsb hne hown hB hz1 hz hoffn hmd htz
 by_cases hdp:0<dp
 ·obtain⟨m, hm⟩ : ∃ m, m = min N dp.toNat := ⟨_, rfl⟩
  obtain⟨zz,hzz⟩:∃z:Nat,z=dp.toNat-N:=⟨_,rfl⟩;have g2:dp-(m:Int)=(zz:Int):=by omega
  have hms:m≤sn:=by omega
  have hm14:m+zz≤14:=by omega
  have hmN:m≤N:=by omega
  have Hip2:=xhd (show ipT L dp=L.take m++List.replicate zz 48 by
   rw[Hip.out,if_pos hdp,hzz];congr 1
   by_cases hc:N≤dp.toNat
   ·rw[List.take_of_length_le (by rw[←HN.out];exact hc),List.take_of_length_le (by rw[←HN.out];omega)]
   ·rw[show m=dp.toNat by omega])
  have HM:=xhd hm;clear hm hzz
  cases neg
  ·replace Hfin := xhd (show _ = (([] : By) ++ ipT L dp) ++ 46 :: (List.replicate z1 48 ++ ((L.drop offn).take md ++ List.replicate tz 48)) from Hfin.out)
   have HLn:=xhd (show ([]:By).length≤20 by simp);go_enter Tryz.func115,Tryz.ntmps115
   go_upto_region 56 with (fail)
   go_cut [23] from 184 to 186 (fun t23 wr=>t23=.int .i64 (m:Nat)∧w=wr)
   case first =>
    go_wp2_with fail
    all_goals
     go_meet
     case rel=>exact⟨congrArg (Value.int .i64) (by have:=HM.out;omega),rfl⟩
   obtain⟨rfl,rfl⟩:=hcut;go_wp2_with fail
   go_loopg [0,191] m (fun g t0 t191 wr=>∃i v l,t191=.int .i64 (i:Nat)∧t0=v∧i≤m∧g=m-i∧l=([]:By)++L.take i∧l.length≤20∧DstAt w wr v0 v B l)
   case atStart=>exact⟨0,_,_,rfl,rfl,Nat.zero_le _,rfl,rfl,by simp,HD.out⟩
   case round =>
    clear HD HLn;obtain⟨i,v,l,rfl,rfl,hi,hg,hl,hln,hD⟩:=hrel;obtain⟨Hg,Hl,HLn,HD⟩:=xh4 hg hl hln hD;clear hg hl hln hD
    by_cases him:i<m
    ·have hnm:(i:Int)<m:=by omega
     obtain⟨c,hc⟩:∃c,L[i]?=some c:=⟨_,List.getElem?_eq_getElem (by rw[←HN.out];omega)⟩;have hcc:=(HD.out.cell Hsb.out.1 Hsb.out.2).trans (Hcells.out _ _ hc);have Hc:=xhd hc;clear hc;go_wp2_with ((at_builtin;(refine wpList_pushD rfl (.tmp 195) (.tmp 197) rfl B _ l c _ rfl (OwnB.alloc HD.out.own _) _ rfl (by rw[World.cell?_alloc_at _ _ _ _ (by simp)];rfl) rfl (by have:=HLn.out;omega) (by have:=HD.out.base;have:=HD.out.gr.size;simp;omega) ?_));intro v1 w1 hown1 hgr1 hat1;have HD1:=xhd (HD.out.push hown1 hgr1 hat1);clear hown1 hgr1 hat1)
     go_wp2_with fail
     go_roundg (m-(i+1))
     case measure=>rw[Hg.out];omega
     case rel =>
      refine⟨i+1,_,_,by simp,rfl,by omega,rfl,?_,?_,HD1.out⟩
      ·rw[Hl.out,List.take_add_one,Hc.out];simp
      ·rw[Hl.out];simp;omega
    ·obtain rfl:i=m:=by omega
     have hnm:¬(i:Int)<i:=by omega
     go_wp2_with fail
     go_loopg [0,203] zz (fun g t0 t203 wr=>∃k v l,t203=.int .i64 (k:Nat)∧t0=v∧k≤zz∧g=zz-k∧l=([]:By)++(L.take i++List.replicate k 48)∧l.length≤20∧DstAt w wr v0 v B l)
     case atStart=>exact⟨0,_,_,rfl,rfl,Nat.zero_le _,rfl,by rw[Hl.out];simp,HLn.out,HD.out⟩
     case round =>
      clear HD HLn Hl Hg;obtain⟨k,v,l,rfl,rfl,hk,hg,hl,hln,hD⟩:=hrel;obtain⟨Hg,Hl,HLn,HD⟩:=xh4 hg hl hln hD;clear hg hl hln hD
      by_cases hkt:k<zz
      ·have hnm3:(k:Int)<zz:=by omega
       go_wp2_with ((at_builtin;(refine wpList_pushD rfl (.tmp 205) (.tmp 206) rfl B _ l 48 _ rfl (OwnB.alloc HD.out.own _) _ rfl (by rw[World.cell?_alloc_at _ _ _ _ (by simp)];rfl) rfl (by have:=HLn.out;omega) (by have:=HD.out.base;have:=HD.out.gr.size;simp;omega) ?_));intro v1 w1 hown1 hgr1 hat1;have HD1:=xhd (HD.out.push hown1 hgr1 hat1);clear hown1 hgr1 hat1)
       go_wp2_with fail
       go_roundg (zz-(k+1))
       case measure=>rw[Hg.out];omega
       case rel=>exact⟨k+1,_,_,by simp,rfl,by omega,rfl,by rw[Hl.out,List.replicate_succ'];simp,by rw[Hl.out];simp;omega,HD1.out⟩
      ·obtain rfl:k=zz:=by omega
       have hnm3:¬(k:Int)<k:=by omega
       replace Hfin:=xhd (Hfin.out.trans (by rw[Hip2.out,←Hl.out]));have HPl:=xhd HLn.out;obtain⟨P,hP⟩:∃P,P=l:=⟨_,rfl⟩;rw[←hP]at Hfin HPl HLn HD;clear hP Hl Hg
       go_upto_region 69 with ((at_builtin;(refine wpList_pushD rfl (.tmp 214) (.tmp 215) rfl B _ P 46 _ rfl (OwnB.alloc HD.out.own _) _ rfl (by rw[World.cell?_alloc_at _ _ _ _ (by simp)];rfl) rfl (by have:=HLn.out;omega) (by have:=HD.out.base;have:=HD.out.gr.size;simp;omega) ?_));intro v1 w1 hown1 hgr1 hat1;have HD1:=xhd (HD.out.push hown1 hgr1 hat1);clear hown1 hgr1 hat1)
       clear HD
       go_cut [26] from 217 to 221 (fun tt wr=>tt=.int .i64 (z1:Nat)∧w1=wr)
       case first =>
        go_wp2_with fail
        all_goals
         go_meet
         case rel =>
          obtain⟨q1,q2,q3,q4⟩:=HZ.out;exact⟨congrArg (Value.int .i64) (by omega),rfl⟩
       obtain⟨rfl,rfl⟩:=hcut
       go_upto_region 71 with (fail)
       go_cut [28] from 225 to 232 (fun tt wr=>tt=.int .i64 (md:Nat)∧w1=wr)
       case first =>
        go_wp2_with fail
        all_goals
         go_meet
         case rel =>
          obtain⟨q1,q2,q3,q4⟩:=HZ.out;exact⟨congrArg (Value.int .i64) (by omega),rfl⟩
       obtain⟨rfl,rfl⟩:=hcut
       go_upto_region 72 with (fail)
       go_cut [29] from 233 to 238 (fun tt wr=>tt=.int .i64 (tz:Nat)∧w1=wr)
       case first =>
        go_wp2_with fail
        all_goals
         go_meet
         case rel =>
          obtain⟨q1,q2,q3,q4⟩:=HZ.out;exact⟨congrArg (Value.int .i64) (by omega),rfl⟩
       obtain⟨rfl,rfl⟩:=hcut;go_wp2_with fail
       go_loopg [0,240] z1 (fun g t0 t240 wr=>∃i v l,t240=.int .i64 (i:Nat)∧t0=v∧i≤z1∧g=z1-i∧l=P++46::List.replicate i 48∧l.length≤100∧DstAt w wr v0 v B l)
       case atStart=>exact⟨0,_,_,rfl,rfl,Nat.zero_le _,rfl,rfl,by have:=HPl.out;simp;omega,HD1.out⟩
       case round =>
        clear HD1;obtain⟨i,v,l,rfl,rfl,hi,hg,hl,hln,hD⟩:=hrel;obtain⟨Hg,Hl,HLn,HD⟩:=xh4 hg hl hln hD;clear hg hl hln hD
        by_cases hiz:i<z1
        ·have hnm:(i:Int)<z1:=by omega
         go_wp2_with ((at_builtin;(refine wpList_pushD rfl (.tmp 242) (.tmp 243) rfl B _ l 48 _ rfl (OwnB.alloc HD.out.own _) _ rfl (by rw[World.cell?_alloc_at _ _ _ _ (by simp)];rfl) rfl (by have:=HLn.out;omega) (by have:=HD.out.base;have:=HD.out.gr.size;simp;omega) ?_));intro v1 w1 hown1 hgr1 hat1;have HD1:=xhd (HD.out.push hown1 hgr1 hat1);clear hown1 hgr1 hat1)
         go_wp2_with fail
         go_roundg (z1-(i+1))
         case measure=>rw[Hg.out];omega
         case rel=>exact⟨i+1,_,_,by simp,rfl,by omega,rfl,by rw[Hl.out,List.replicate_succ'];simp,by have:=HPl.out;have:=hz12;rw[Hl.out];simp;omega,HD1.out⟩
        ·obtain rfl:i=z1:=by omega
         have hnm:¬(i:Int)<i:=by omega
         go_wp2_with fail
         go_loopg [0,247] md (fun g t0 t247 wr=>∃j v l,t247=.int .i64 (j:Nat)∧t0=v∧j≤md∧g=md-j∧l=P++46::(List.replicate i 48++(L.drop offn).take j)∧l.length≤100∧DstAt w wr v0 v B l)
         case atStart=>exact⟨0,_,_,rfl,rfl,Nat.zero_le _,rfl,by rw[Hl.out];simp,HLn.out,HD.out⟩
         case round =>
          clear HD HLn Hl Hg;obtain⟨j,v,l,rfl,rfl,hj,hg,hl,hln,hD⟩:=hrel;obtain⟨Hg,Hl,HLn,HD⟩:=xh4 hg hl hln hD;clear hg hl hln hD
          by_cases hjm:j<md
          ·have hnm2:(j:Int)<md:=by omega
           obtain⟨hoj,hoN⟩:=Hoff.out j hjm;obtain⟨c,hc⟩:∃c,L[offn+j]?=some c:=⟨_,List.getElem?_eq_getElem (by rw[←HN.out];exact hoN)⟩;have hcc:=(HD.out.cell Hsb.out.1 Hsb.out.2).trans (Hcells.out _ _ hc);have hjs:offn+j<sn:=by omega
           have Hc:=xhd hc;clear hc;go_wp2_with ((at_builtin;(refine wpList_pushD rfl (.tmp 250) (.tmp 257) rfl B _ l c _ rfl (OwnB.alloc HD.out.own _) _ rfl (by rw[World.cell?_alloc_at _ _ _ _ (by simp)];rfl) rfl (by have:=HLn.out;omega) (by have:=HD.out.base;have:=HD.out.gr.size;simp;omega) ?_));intro v1 w1 hown1 hgr1 hat1;have HD1:=xhd (HD.out.push hown1 hgr1 hat1);clear hown1 hgr1 hat1)
           go_wp2_with fail
           go_roundg (md-(j+1))
           case measure=>rw[Hg.out];omega
           case rel =>
            refine⟨j+1,_,_,by simp,rfl,by omega,rfl,?_,?_,HD1.out⟩
            ·rw[Hl.out,List.take_add_one,List.getElem?_drop,Hc.out];simp
            ·have:=HPl.out;have:=hmd12;rw[Hl.out];simp;omega
          ·obtain rfl:j=md:=by omega
           have hnm2:¬(j:Int)<j:=by omega
           go_wp2_with fail
           go_loopg [0,261] tz (fun g t0 t261 wr=>∃k v l,t261=.int .i64 (k:Nat)∧t0=v∧k≤tz∧g=tz-k∧l=P++46::(List.replicate i 48++((L.drop offn).take j++List.replicate k 48))∧l.length≤100∧DstAt w wr v0 v B l)
           case atStart=>exact⟨0,_,_,rfl,rfl,Nat.zero_le _,rfl,by rw[Hl.out];simp,HLn.out,HD.out⟩
           case round =>
            clear HD HLn Hl Hg;obtain⟨k,v,l,rfl,rfl,hk,hg,hl,hln,hD⟩:=hrel;obtain⟨Hg,Hl,HLn,HD⟩:=xh4 hg hl hln hD;clear hg hl hln hD
            by_cases hkt:k<tz
            ·have hnm3:(k:Int)<tz:=by omega
             go_wp2_with ((at_builtin;(refine wpList_pushD rfl (.tmp 263) (.tmp 264) rfl B _ l 48 _ rfl (OwnB.alloc HD.out.own _) _ rfl (by rw[World.cell?_alloc_at _ _ _ _ (by simp)];rfl) rfl (by have:=HLn.out;omega) (by have:=HD.out.base;have:=HD.out.gr.size;simp;omega) ?_));intro v1 w1 hown1 hgr1 hat1;have HD1:=xhd (HD.out.push hown1 hgr1 hat1);clear hown1 hgr1 hat1)
             go_wp2_with fail
             go_roundg (tz-(k+1))
             case measure=>rw[Hg.out];omega
             case rel=>exact⟨k+1,_,_,by simp,rfl,by omega,rfl,by rw[Hl.out,List.replicate_succ'];simp,by have:=HPl.out;have:=hmd12;rw[Hl.out];simp;omega,HD1.out⟩
            ·obtain rfl:k=tz:=by omega
             have hnm3:¬(k:Int)<k:=by omega
             go_wp2_with fail
             go_ret;refine⟨_,rfl,?_⟩;rw[Hfin.out,←Hl.out];exact HD.out
  ·replace Hfin := xhd (show _ = (([45] : By) ++ ipT L dp) ++ 46 :: (List.replicate z1 48 ++ ((L.drop offn).take md ++ List.replicate tz 48)) from Hfin.out)
   have HLn:=xhd (show ([]:By).length≤20 by simp);go_enter Tryz.func115,Tryz.ntmps115
   go_upto_region 55 with ((at_builtin;(refine wpList_pushD rfl (.tmp 179) (.tmp 180) rfl B _ ([]:By) 45 _ rfl (OwnB.alloc HD.out.own _) _ rfl (by rw[World.cell?_alloc_at _ _ _ _ (by simp)];rfl) rfl (by have:=HLn.out;omega) (by have:=HD.out.base;have:=HD.out.gr.size;simp;omega) ?_));intro v1 w1 hown1 hgr1 hat1;have HD1:=xhd (HD.out.push hown1 hgr1 hat1);clear hown1 hgr1 hat1)
   replace HD:=xhd (show DstAt w w1 v0 v1 B [45] from HD1.out);clear HD1
   go_upto_region 56 with (fail)
   go_cut [23] from 184 to 186 (fun t23 wr=>t23=.int .i64 (m:Nat)∧w1=wr)
   case first =>
    go_wp2_with fail
    all_goals
     go_meet
     case rel=>exact⟨congrArg (Value.int .i64) (by have:=HM.out;omega),rfl⟩
   obtain⟨rfl,rfl⟩:=hcut;go_wp2_with fail
   go_loopg [0,191] m (fun g t0 t191 wr=>∃i v l,t191=.int .i64 (i:Nat)∧t0=v∧i≤m∧g=m-i∧l=([45]:By)++L.take i∧l.length≤20∧DstAt w wr v0 v B l)
   case atStart=>exact⟨0,_,_,rfl,rfl,Nat.zero_le _,rfl,rfl,by simp,HD.out⟩
   case round =>
    clear HD HLn;obtain⟨i,v,l,rfl,rfl,hi,hg,hl,hln,hD⟩:=hrel;obtain⟨Hg,Hl,HLn,HD⟩:=xh4 hg hl hln hD;clear hg hl hln hD
    by_cases him:i<m
    ·have hnm:(i:Int)<m:=by omega
     obtain⟨c,hc⟩:∃c,L[i]?=some c:=⟨_,List.getElem?_eq_getElem (by rw[←HN.out];omega)⟩;have hcc:=(HD.out.cell Hsb.out.1 Hsb.out.2).trans (Hcells.out _ _ hc);have Hc:=xhd hc;clear hc;go_wp2_with ((at_builtin;(refine wpList_pushD rfl (.tmp 195) (.tmp 197) rfl B _ l c _ rfl (OwnB.alloc HD.out.own _) _ rfl (by rw[World.cell?_alloc_at _ _ _ _ (by simp)];rfl) rfl (by have:=HLn.out;omega) (by have:=HD.out.base;have:=HD.out.gr.size;simp;omega) ?_));intro v1 w1 hown1 hgr1 hat1;have HD1:=xhd (HD.out.push hown1 hgr1 hat1);clear hown1 hgr1 hat1)
     go_wp2_with fail
     go_roundg (m-(i+1))
     case measure=>rw[Hg.out];omega
     case rel =>
      refine⟨i+1,_,_,by simp,rfl,by omega,rfl,?_,?_,HD1.out⟩
      ·rw[Hl.out,List.take_add_one,Hc.out];simp
      ·rw[Hl.out];simp;omega
    ·obtain rfl:i=m:=by omega
     have hnm:¬(i:Int)<i:=by omega
     go_wp2_with fail
     go_loopg [0,203] zz (fun g t0 t203 wr=>∃k v l,t203=.int .i64 (k:Nat)∧t0=v∧k≤zz∧g=zz-k∧l=([45]:By)++(L.take i++List.replicate k 48)∧l.length≤20∧DstAt w wr v0 v B l)
     case atStart=>exact⟨0,_,_,rfl,rfl,Nat.zero_le _,rfl,by rw[Hl.out];simp,HLn.out,HD.out⟩
     case round =>
      clear HD HLn Hl Hg;obtain⟨k,v,l,rfl,rfl,hk,hg,hl,hln,hD⟩:=hrel;obtain⟨Hg,Hl,HLn,HD⟩:=xh4 hg hl hln hD;clear hg hl hln hD
      by_cases hkt:k<zz
      ·have hnm3:(k:Int)<zz:=by omega
       go_wp2_with ((at_builtin;(refine wpList_pushD rfl (.tmp 205) (.tmp 206) rfl B _ l 48 _ rfl (OwnB.alloc HD.out.own _) _ rfl (by rw[World.cell?_alloc_at _ _ _ _ (by simp)];rfl) rfl (by have:=HLn.out;omega) (by have:=HD.out.base;have:=HD.out.gr.size;simp;omega) ?_));intro v1 w1 hown1 hgr1 hat1;have HD1:=xhd (HD.out.push hown1 hgr1 hat1);clear hown1 hgr1 hat1)
       go_wp2_with fail
       go_roundg (zz-(k+1))
       case measure=>rw[Hg.out];omega
       case rel=>exact⟨k+1,_,_,by simp,rfl,by omega,rfl,by rw[Hl.out,List.replicate_succ'];simp,by rw[Hl.out];simp;omega,HD1.out⟩
      ·obtain rfl:k=zz:=by omega
       have hnm3:¬(k:Int)<k:=by omega
       replace Hfin:=xhd (Hfin.out.trans (by rw[Hip2.out,←Hl.out]));have HPl:=xhd HLn.out;obtain⟨P,hP⟩:∃P,P=l:=⟨_,rfl⟩;rw[←hP]at Hfin HPl HLn HD;clear hP Hl Hg
       go_upto_region 69 with ((at_builtin;(refine wpList_pushD rfl (.tmp 214) (.tmp 215) rfl B _ P 46 _ rfl (OwnB.alloc HD.out.own _) _ rfl (by rw[World.cell?_alloc_at _ _ _ _ (by simp)];rfl) rfl (by have:=HLn.out;omega) (by have:=HD.out.base;have:=HD.out.gr.size;simp;omega) ?_));intro v1 w1 hown1 hgr1 hat1;have HD1:=xhd (HD.out.push hown1 hgr1 hat1);clear hown1 hgr1 hat1)
       clear HD
       go_cut [26] from 217 to 221 (fun tt wr=>tt=.int .i64 (z1:Nat)∧w1=wr)
       case first =>
        go_wp2_with fail
        all_goals
         go_meet
         case rel =>
          obtain⟨q1,q2,q3,q4⟩:=HZ.out;exact⟨congrArg (Value.int .i64) (by omega),rfl⟩
       obtain⟨rfl,rfl⟩:=hcut
       go_upto_region 71 with (fail)
       go_cut [28] from 225 to 232 (fun tt wr=>tt=.int .i64 (md:Nat)∧w1=wr)
       case first =>
        go_wp2_with fail
        all_goals
         go_meet
         case rel =>
          obtain⟨q1,q2,q3,q4⟩:=HZ.out;exact⟨congrArg (Value.int .i64) (by omega),rfl⟩
       obtain⟨rfl,rfl⟩:=hcut
       go_upto_region 72 with (fail)
       go_cut [29] from 233 to 238 (fun tt wr=>tt=.int .i64 (tz:Nat)∧w1=wr)
       case first =>
        go_wp2_with fail
        all_goals
         go_meet
         case rel =>
          obtain⟨q1,q2,q3,q4⟩:=HZ.out;exact⟨congrArg (Value.int .i64) (by omega),rfl⟩
       obtain⟨rfl,rfl⟩:=hcut;go_wp2_with fail
       go_loopg [0,240] z1 (fun g t0 t240 wr=>∃i v l,t240=.int .i64 (i:Nat)∧t0=v∧i≤z1∧g=z1-i∧l=P++46::List.replicate i 48∧l.length≤100∧DstAt w wr v0 v B l)
       case atStart=>exact⟨0,_,_,rfl,rfl,Nat.zero_le _,rfl,rfl,by have:=HPl.out;simp;omega,HD1.out⟩
       case round =>
        clear HD1;obtain⟨i,v,l,rfl,rfl,hi,hg,hl,hln,hD⟩:=hrel;obtain⟨Hg,Hl,HLn,HD⟩:=xh4 hg hl hln hD;clear hg hl hln hD
        by_cases hiz:i<z1
        ·have hnm:(i:Int)<z1:=by omega
         go_wp2_with ((at_builtin;(refine wpList_pushD rfl (.tmp 242) (.tmp 243) rfl B _ l 48 _ rfl (OwnB.alloc HD.out.own _) _ rfl (by rw[World.cell?_alloc_at _ _ _ _ (by simp)];rfl) rfl (by have:=HLn.out;omega) (by have:=HD.out.base;have:=HD.out.gr.size;simp;omega) ?_));intro v1 w1 hown1 hgr1 hat1;have HD1:=xhd (HD.out.push hown1 hgr1 hat1);clear hown1 hgr1 hat1)
         go_wp2_with fail
         go_roundg (z1-(i+1))
         case measure=>rw[Hg.out];omega
         case rel=>exact⟨i+1,_,_,by simp,rfl,by omega,rfl,by rw[Hl.out,List.replicate_succ'];simp,by have:=HPl.out;have:=hz12;rw[Hl.out];simp;omega,HD1.out⟩
        ·obtain rfl:i=z1:=by omega
         have hnm:¬(i:Int)<i:=by omega
         go_wp2_with fail
         go_loopg [0,247] md (fun g t0 t247 wr=>∃j v l,t247=.int .i64 (j:Nat)∧t0=v∧j≤md∧g=md-j∧l=P++46::(List.replicate i 48++(L.drop offn).take j)∧l.length≤100∧DstAt w wr v0 v B l)
         case atStart=>exact⟨0,_,_,rfl,rfl,Nat.zero_le _,rfl,by rw[Hl.out];simp,HLn.out,HD.out⟩
         case round =>
          clear HD HLn Hl Hg;obtain⟨j,v,l,rfl,rfl,hj,hg,hl,hln,hD⟩:=hrel;obtain⟨Hg,Hl,HLn,HD⟩:=xh4 hg hl hln hD;clear hg hl hln hD
          by_cases hjm:j<md
          ·have hnm2:(j:Int)<md:=by omega
           obtain⟨hoj,hoN⟩:=Hoff.out j hjm;obtain⟨c,hc⟩:∃c,L[offn+j]?=some c:=⟨_,List.getElem?_eq_getElem (by rw[←HN.out];exact hoN)⟩;have hcc:=(HD.out.cell Hsb.out.1 Hsb.out.2).trans (Hcells.out _ _ hc);have hjs:offn+j<sn:=by omega
           have Hc:=xhd hc;clear hc;go_wp2_with ((at_builtin;(refine wpList_pushD rfl (.tmp 250) (.tmp 257) rfl B _ l c _ rfl (OwnB.alloc HD.out.own _) _ rfl (by rw[World.cell?_alloc_at _ _ _ _ (by simp)];rfl) rfl (by have:=HLn.out;omega) (by have:=HD.out.base;have:=HD.out.gr.size;simp;omega) ?_));intro v1 w1 hown1 hgr1 hat1;have HD1:=xhd (HD.out.push hown1 hgr1 hat1);clear hown1 hgr1 hat1)
           go_wp2_with fail
           go_roundg (md-(j+1))
           case measure=>rw[Hg.out];omega
           case rel =>
            refine⟨j+1,_,_,by simp,rfl,by omega,rfl,?_,?_,HD1.out⟩
            ·rw[Hl.out,List.take_add_one,List.getElem?_drop,Hc.out];simp
            ·have:=HPl.out;have:=hmd12;rw[Hl.out];simp;omega
          ·obtain rfl:j=md:=by omega
           have hnm2:¬(j:Int)<j:=by omega
           go_wp2_with fail
           go_loopg [0,261] tz (fun g t0 t261 wr=>∃k v l,t261=.int .i64 (k:Nat)∧t0=v∧k≤tz∧g=tz-k∧l=P++46::(List.replicate i 48++((L.drop offn).take j++List.replicate k 48))∧l.length≤100∧DstAt w wr v0 v B l)
           case atStart=>exact⟨0,_,_,rfl,rfl,Nat.zero_le _,rfl,by rw[Hl.out];simp,HLn.out,HD.out⟩
           case round =>
            clear HD HLn Hl Hg;obtain⟨k,v,l,rfl,rfl,hk,hg,hl,hln,hD⟩:=hrel;obtain⟨Hg,Hl,HLn,HD⟩:=xh4 hg hl hln hD;clear hg hl hln hD
            by_cases hkt:k<tz
            ·have hnm3:(k:Int)<tz:=by omega
             go_wp2_with ((at_builtin;(refine wpList_pushD rfl (.tmp 263) (.tmp 264) rfl B _ l 48 _ rfl (OwnB.alloc HD.out.own _) _ rfl (by rw[World.cell?_alloc_at _ _ _ _ (by simp)];rfl) rfl (by have:=HLn.out;omega) (by have:=HD.out.base;have:=HD.out.gr.size;simp;omega) ?_));intro v1 w1 hown1 hgr1 hat1;have HD1:=xhd (HD.out.push hown1 hgr1 hat1);clear hown1 hgr1 hat1)
             go_wp2_with fail
             go_roundg (tz-(k+1))
             case measure=>rw[Hg.out];omega
             case rel=>exact⟨k+1,_,_,by simp,rfl,by omega,rfl,by rw[Hl.out,List.replicate_succ'];simp,by have:=HPl.out;have:=hmd12;rw[Hl.out];simp;omega,HD1.out⟩
            ·obtain rfl:k=tz:=by omega
             have hnm3:¬(k:Int)<k:=by omega
             go_wp2_with fail
             go_ret;refine⟨_,rfl,?_⟩;rw[Hfin.out,←Hl.out];exact HD.out
 ·replace Hip := xhd (show ipT L dp = [48] by rw[Hip.out, if_neg hdp])
  cases neg
  ·replace Hfin:=xhd (show _=([48]:By)++46::(List.replicate z1 48++((L.drop offn).take md++List.replicate tz 48)) from Hfin.out.trans (by rw[Hip.out];rfl))
   have HLn:=xhd (show ([]:By).length≤20 by simp);have HPl:=xhd (show ([48]:By).length≤20 by simp);go_enter Tryz.func115,Tryz.ntmps115
   go_upto_region 67 with ((at_builtin;(refine wpList_pushD rfl (.tmp 209) (.tmp 210) rfl B _ ([]:By) 48 _ rfl (OwnB.alloc HD.out.own _) _ rfl (by rw[World.cell?_alloc_at _ _ _ _ (by simp)];rfl) rfl (by have:=HLn.out;omega) (by have:=HD.out.base;have:=HD.out.gr.size;simp;omega) ?_));intro v1 w1 hown1 hgr1 hat1;have HD1:=xhd (HD.out.push hown1 hgr1 hat1);clear hown1 hgr1 hat1)
   replace HD:=xhd (show DstAt w w1 v0 v1 B [48] from HD1.out);clear HD1;replace HLn:=HPl;obtain⟨P,hP⟩:∃P:By,P=[48]:=⟨_,rfl⟩;rw[←hP]at Hfin HPl HLn HD;clear hP
   go_upto_region 69 with ((at_builtin;(refine wpList_pushD rfl (.tmp 214) (.tmp 215) rfl B _ P 46 _ rfl (OwnB.alloc HD.out.own _) _ rfl (by rw[World.cell?_alloc_at _ _ _ _ (by simp)];rfl) rfl (by have:=HLn.out;omega) (by have:=HD.out.base;have:=HD.out.gr.size;simp;omega) ?_));intro v1 w1 hown1 hgr1 hat1;have HD1:=xhd (HD.out.push hown1 hgr1 hat1);clear hown1 hgr1 hat1)
   clear HD
   go_cut [26] from 217 to 221 (fun tt wr=>tt=.int .i64 (z1:Nat)∧w1=wr)
   case first =>
    go_wp2_with fail
    all_goals
     go_meet
     case rel =>
      obtain⟨q1,q2,q3,q4⟩:=HZ.out;exact⟨congrArg (Value.int .i64) (by omega),rfl⟩
   obtain⟨rfl,rfl⟩:=hcut
   go_upto_region 71 with (fail)
   go_cut [28] from 225 to 232 (fun tt wr=>tt=.int .i64 (md:Nat)∧w1=wr)
   case first =>
    go_wp2_with fail
    all_goals
     go_meet
     case rel =>
      obtain⟨q1,q2,q3,q4⟩:=HZ.out;exact⟨congrArg (Value.int .i64) (by omega),rfl⟩
   obtain⟨rfl,rfl⟩:=hcut
   go_upto_region 72 with (fail)
   go_cut [29] from 233 to 238 (fun tt wr=>tt=.int .i64 (tz:Nat)∧w1=wr)
   case first =>
    go_wp2_with fail
    all_goals
     go_meet
     case rel =>
      obtain⟨q1,q2,q3,q4⟩:=HZ.out;exact⟨congrArg (Value.int .i64) (by omega),rfl⟩
   obtain⟨rfl,rfl⟩:=hcut;go_wp2_with fail
   go_loopg [0,240] z1 (fun g t0 t240 wr=>∃i v l,t240=.int .i64 (i:Nat)∧t0=v∧i≤z1∧g=z1-i∧l=P++46::List.replicate i 48∧l.length≤100∧DstAt w wr v0 v B l)
   case atStart=>exact⟨0,_,_,rfl,rfl,Nat.zero_le _,rfl,rfl,by have:=HPl.out;simp;omega,HD1.out⟩
   case round =>
    clear HD1;obtain⟨i,v,l,rfl,rfl,hi,hg,hl,hln,hD⟩:=hrel;obtain⟨Hg,Hl,HLn,HD⟩:=xh4 hg hl hln hD;clear hg hl hln hD
    by_cases hiz:i<z1
    ·have hnm:(i:Int)<z1:=by omega
     go_wp2_with ((at_builtin;(refine wpList_pushD rfl (.tmp 242) (.tmp 243) rfl B _ l 48 _ rfl (OwnB.alloc HD.out.own _) _ rfl (by rw[World.cell?_alloc_at _ _ _ _ (by simp)];rfl) rfl (by have:=HLn.out;omega) (by have:=HD.out.base;have:=HD.out.gr.size;simp;omega) ?_));intro v1 w1 hown1 hgr1 hat1;have HD1:=xhd (HD.out.push hown1 hgr1 hat1);clear hown1 hgr1 hat1)
     go_wp2_with fail
     go_roundg (z1-(i+1))
     case measure=>rw[Hg.out];omega
     case rel=>exact⟨i+1,_,_,by simp,rfl,by omega,rfl,by rw[Hl.out,List.replicate_succ'];simp,by have:=HPl.out;have:=hz12;rw[Hl.out];simp;omega,HD1.out⟩
    ·obtain rfl:i=z1:=by omega
     have hnm:¬(i:Int)<i:=by omega
     go_wp2_with fail
     go_loopg [0,247] md (fun g t0 t247 wr=>∃j v l,t247=.int .i64 (j:Nat)∧t0=v∧j≤md∧g=md-j∧l=P++46::(List.replicate i 48++(L.drop offn).take j)∧l.length≤100∧DstAt w wr v0 v B l)
     case atStart=>exact⟨0,_,_,rfl,rfl,Nat.zero_le _,rfl,by rw[Hl.out];simp,HLn.out,HD.out⟩
     case round =>
      clear HD HLn Hl Hg;obtain⟨j,v,l,rfl,rfl,hj,hg,hl,hln,hD⟩:=hrel;obtain⟨Hg,Hl,HLn,HD⟩:=xh4 hg hl hln hD;clear hg hl hln hD
      by_cases hjm:j<md
      ·have hnm2:(j:Int)<md:=by omega
       obtain⟨hoj,hoN⟩:=Hoff.out j hjm;obtain⟨c,hc⟩:∃c,L[offn+j]?=some c:=⟨_,List.getElem?_eq_getElem (by rw[←HN.out];exact hoN)⟩;have hcc:=(HD.out.cell Hsb.out.1 Hsb.out.2).trans (Hcells.out _ _ hc);have hjs:offn+j<sn:=by omega
       have Hc:=xhd hc;clear hc;go_wp2_with ((at_builtin;(refine wpList_pushD rfl (.tmp 250) (.tmp 257) rfl B _ l c _ rfl (OwnB.alloc HD.out.own _) _ rfl (by rw[World.cell?_alloc_at _ _ _ _ (by simp)];rfl) rfl (by have:=HLn.out;omega) (by have:=HD.out.base;have:=HD.out.gr.size;simp;omega) ?_));intro v1 w1 hown1 hgr1 hat1;have HD1:=xhd (HD.out.push hown1 hgr1 hat1);clear hown1 hgr1 hat1)
       go_wp2_with fail
       go_roundg (md-(j+1))
       case measure=>rw[Hg.out];omega
       case rel =>
        refine⟨j+1,_,_,by simp,rfl,by omega,rfl,?_,?_,HD1.out⟩
        ·rw[Hl.out,List.take_add_one,List.getElem?_drop,Hc.out];simp
        ·have:=HPl.out;have:=hmd12;rw[Hl.out];simp;omega
      ·obtain rfl:j=md:=by omega
       have hnm2:¬(j:Int)<j:=by omega
       go_wp2_with fail
       go_loopg [0,261] tz (fun g t0 t261 wr=>∃k v l,t261=.int .i64 (k:Nat)∧t0=v∧k≤tz∧g=tz-k∧l=P++46::(List.replicate i 48++((L.drop offn).take j++List.replicate k 48))∧l.length≤100∧DstAt w wr v0 v B l)
       case atStart=>exact⟨0,_,_,rfl,rfl,Nat.zero_le _,rfl,by rw[Hl.out];simp,HLn.out,HD.out⟩
       case round =>
        clear HD HLn Hl Hg;obtain⟨k,v,l,rfl,rfl,hk,hg,hl,hln,hD⟩:=hrel;obtain⟨Hg,Hl,HLn,HD⟩:=xh4 hg hl hln hD;clear hg hl hln hD
        by_cases hkt:k<tz
        ·have hnm3:(k:Int)<tz:=by omega
         go_wp2_with ((at_builtin;(refine wpList_pushD rfl (.tmp 263) (.tmp 264) rfl B _ l 48 _ rfl (OwnB.alloc HD.out.own _) _ rfl (by rw[World.cell?_alloc_at _ _ _ _ (by simp)];rfl) rfl (by have:=HLn.out;omega) (by have:=HD.out.base;have:=HD.out.gr.size;simp;omega) ?_));intro v1 w1 hown1 hgr1 hat1;have HD1:=xhd (HD.out.push hown1 hgr1 hat1);clear hown1 hgr1 hat1)
         go_wp2_with fail
         go_roundg (tz-(k+1))
         case measure=>rw[Hg.out];omega
         case rel=>exact⟨k+1,_,_,by simp,rfl,by omega,rfl,by rw[Hl.out,List.replicate_succ'];simp,by have:=HPl.out;have:=hmd12;rw[Hl.out];simp;omega,HD1.out⟩
        ·obtain rfl:k=tz:=by omega
         have hnm3:¬(k:Int)<k:=by omega
         go_wp2_with fail
         go_ret;refine⟨_,rfl,?_⟩;rw[Hfin.out,←Hl.out];exact HD.out
  ·replace Hfin:=xhd (show _=([45,48]:By)++46::(List.replicate z1 48++((L.drop offn).take md++List.replicate tz 48)) from Hfin.out.trans (by rw[Hip.out];rfl))
   have HLn:=xhd (show ([]:By).length≤20 by simp);have HPl:=xhd (show ([45,48]:By).length≤20 by simp);go_enter Tryz.func115,Tryz.ntmps115
   go_upto_region 55 with ((at_builtin;(refine wpList_pushD rfl (.tmp 179) (.tmp 180) rfl B _ ([]:By) 45 _ rfl (OwnB.alloc HD.out.own _) _ rfl (by rw[World.cell?_alloc_at _ _ _ _ (by simp)];rfl) rfl (by have:=HLn.out;omega) (by have:=HD.out.base;have:=HD.out.gr.size;simp;omega) ?_));intro v1 w1 hown1 hgr1 hat1;have HD1:=xhd (HD.out.push hown1 hgr1 hat1);clear hown1 hgr1 hat1)
   replace HD:=xhd (show DstAt w w1 v0 v1 B [45] from HD1.out);clear HD1;replace HLn:=xhd (show ([45]:By).length≤20 by simp)
   go_upto_region 67 with ((at_builtin;(refine wpList_pushD rfl (.tmp 209) (.tmp 210) rfl B _ ([45]:By) 48 _ rfl (OwnB.alloc HD.out.own _) _ rfl (by rw[World.cell?_alloc_at _ _ _ _ (by simp)];rfl) rfl (by have:=HLn.out;omega) (by have:=HD.out.base;have:=HD.out.gr.size;simp;omega) ?_));intro v1 w1 hown1 hgr1 hat1;have HD1:=xhd (HD.out.push hown1 hgr1 hat1);clear hown1 hgr1 hat1)
   replace HD:=xhd (show DstAt w _ v0 _ B [45,48] from HD1.out);clear HD1;replace HLn:=HPl;obtain⟨P,hP⟩:∃P:By,P=[45,48]:=⟨_,rfl⟩;rw[←hP]at Hfin HPl HLn HD;clear hP
   go_upto_region 69 with ((at_builtin;(refine wpList_pushD rfl (.tmp 214) (.tmp 215) rfl B _ P 46 _ rfl (OwnB.alloc HD.out.own _) _ rfl (by rw[World.cell?_alloc_at _ _ _ _ (by simp)];rfl) rfl (by have:=HLn.out;omega) (by have:=HD.out.base;have:=HD.out.gr.size;simp;omega) ?_));intro v1 w1 hown1 hgr1 hat1;have HD1:=xhd (HD.out.push hown1 hgr1 hat1);clear hown1 hgr1 hat1)
   clear HD
   go_cut [26] from 217 to 221 (fun tt wr=>tt=.int .i64 (z1:Nat)∧w1=wr)
   case first =>
    go_wp2_with fail
    all_goals
     go_meet
     case rel =>
      obtain⟨q1,q2,q3,q4⟩:=HZ.out;exact⟨congrArg (Value.int .i64) (by omega),rfl⟩
   obtain⟨rfl,rfl⟩:=hcut
   go_upto_region 71 with (fail)
   go_cut [28] from 225 to 232 (fun tt wr=>tt=.int .i64 (md:Nat)∧w1=wr)
   case first =>
    go_wp2_with fail
    all_goals
     go_meet
     case rel =>
      obtain⟨q1,q2,q3,q4⟩:=HZ.out;exact⟨congrArg (Value.int .i64) (by omega),rfl⟩
   obtain⟨rfl,rfl⟩:=hcut
   go_upto_region 72 with (fail)
   go_cut [29] from 233 to 238 (fun tt wr=>tt=.int .i64 (tz:Nat)∧w1=wr)
   case first =>
    go_wp2_with fail
    all_goals
     go_meet
     case rel =>
      obtain⟨q1,q2,q3,q4⟩:=HZ.out;exact⟨congrArg (Value.int .i64) (by omega),rfl⟩
   obtain⟨rfl,rfl⟩:=hcut;go_wp2_with fail
   go_loopg [0,240] z1 (fun g t0 t240 wr=>∃i v l,t240=.int .i64 (i:Nat)∧t0=v∧i≤z1∧g=z1-i∧l=P++46::List.replicate i 48∧l.length≤100∧DstAt w wr v0 v B l)
   case atStart=>exact⟨0,_,_,rfl,rfl,Nat.zero_le _,rfl,rfl,by have:=HPl.out;simp;omega,HD1.out⟩
   case round =>
    clear HD1;obtain⟨i,v,l,rfl,rfl,hi,hg,hl,hln,hD⟩:=hrel;obtain⟨Hg,Hl,HLn,HD⟩:=xh4 hg hl hln hD;clear hg hl hln hD
    by_cases hiz:i<z1
    ·have hnm:(i:Int)<z1:=by omega
     go_wp2_with ((at_builtin;(refine wpList_pushD rfl (.tmp 242) (.tmp 243) rfl B _ l 48 _ rfl (OwnB.alloc HD.out.own _) _ rfl (by rw[World.cell?_alloc_at _ _ _ _ (by simp)];rfl) rfl (by have:=HLn.out;omega) (by have:=HD.out.base;have:=HD.out.gr.size;simp;omega) ?_));intro v1 w1 hown1 hgr1 hat1;have HD1:=xhd (HD.out.push hown1 hgr1 hat1);clear hown1 hgr1 hat1)
     go_wp2_with fail
     go_roundg (z1-(i+1))
     case measure=>rw[Hg.out];omega
     case rel=>exact⟨i+1,_,_,by simp,rfl,by omega,rfl,by rw[Hl.out,List.replicate_succ'];simp,by have:=HPl.out;have:=hz12;rw[Hl.out];simp;omega,HD1.out⟩
    ·obtain rfl:i=z1:=by omega
     have hnm:¬(i:Int)<i:=by omega
     go_wp2_with fail
     go_loopg [0,247] md (fun g t0 t247 wr=>∃j v l,t247=.int .i64 (j:Nat)∧t0=v∧j≤md∧g=md-j∧l=P++46::(List.replicate i 48++(L.drop offn).take j)∧l.length≤100∧DstAt w wr v0 v B l)
     case atStart=>exact⟨0,_,_,rfl,rfl,Nat.zero_le _,rfl,by rw[Hl.out];simp,HLn.out,HD.out⟩
     case round =>
      clear HD HLn Hl Hg;obtain⟨j,v,l,rfl,rfl,hj,hg,hl,hln,hD⟩:=hrel;obtain⟨Hg,Hl,HLn,HD⟩:=xh4 hg hl hln hD;clear hg hl hln hD
      by_cases hjm:j<md
      ·have hnm2:(j:Int)<md:=by omega
       obtain⟨hoj,hoN⟩:=Hoff.out j hjm;obtain⟨c,hc⟩:∃c,L[offn+j]?=some c:=⟨_,List.getElem?_eq_getElem (by rw[←HN.out];exact hoN)⟩;have hcc:=(HD.out.cell Hsb.out.1 Hsb.out.2).trans (Hcells.out _ _ hc);have hjs:offn+j<sn:=by omega
       have Hc:=xhd hc;clear hc;go_wp2_with ((at_builtin;(refine wpList_pushD rfl (.tmp 250) (.tmp 257) rfl B _ l c _ rfl (OwnB.alloc HD.out.own _) _ rfl (by rw[World.cell?_alloc_at _ _ _ _ (by simp)];rfl) rfl (by have:=HLn.out;omega) (by have:=HD.out.base;have:=HD.out.gr.size;simp;omega) ?_));intro v1 w1 hown1 hgr1 hat1;have HD1:=xhd (HD.out.push hown1 hgr1 hat1);clear hown1 hgr1 hat1)
       go_wp2_with fail
       go_roundg (md-(j+1))
       case measure=>rw[Hg.out];omega
       case rel =>
        refine⟨j+1,_,_,by simp,rfl,by omega,rfl,?_,?_,HD1.out⟩
        ·rw[Hl.out,List.take_add_one,List.getElem?_drop,Hc.out];simp
        ·have:=HPl.out;have:=hmd12;rw[Hl.out];simp;omega
      ·obtain rfl:j=md:=by omega
       have hnm2:¬(j:Int)<j:=by omega
       go_wp2_with fail
       go_loopg [0,261] tz (fun g t0 t261 wr=>∃k v l,t261=.int .i64 (k:Nat)∧t0=v∧k≤tz∧g=tz-k∧l=P++46::(List.replicate i 48++((L.drop offn).take j++List.replicate k 48))∧l.length≤100∧DstAt w wr v0 v B l)
       case atStart=>exact⟨0,_,_,rfl,rfl,Nat.zero_le _,rfl,by rw[Hl.out];simp,HLn.out,HD.out⟩
       case round =>
        clear HD HLn Hl Hg;obtain⟨k,v,l,rfl,rfl,hk,hg,hl,hln,hD⟩:=hrel;obtain⟨Hg,Hl,HLn,HD⟩:=xh4 hg hl hln hD;clear hg hl hln hD
        by_cases hkt:k<tz
        ·have hnm3:(k:Int)<tz:=by omega
         go_wp2_with ((at_builtin;(refine wpList_pushD rfl (.tmp 263) (.tmp 264) rfl B _ l 48 _ rfl (OwnB.alloc HD.out.own _) _ rfl (by rw[World.cell?_alloc_at _ _ _ _ (by simp)];rfl) rfl (by have:=HLn.out;omega) (by have:=HD.out.base;have:=HD.out.gr.size;simp;omega) ?_));intro v1 w1 hown1 hgr1 hat1;have HD1:=xhd (HD.out.push hown1 hgr1 hat1);clear hown1 hgr1 hat1)
         go_wp2_with fail
         go_roundg (tz-(k+1))
         case measure=>rw[Hg.out];omega
         case rel=>exact⟨k+1,_,_,by simp,rfl,by omega,rfl,by rw[Hl.out,List.replicate_succ'];simp,by have:=HPl.out;have:=hmd12;rw[Hl.out];simp;omega,HD1.out⟩
        ·obtain rfl:k=tz:=by omega
         have hnm3:¬(k:Int)<k:=by omega
         go_wp2_with fail
         go_ret;refine⟨_,rfl,?_⟩;rw[Hfin.out,←Hl.out];exact HD.out
end Go.Proofs.YtfkecmlmnhbmoaaGreatDoor
