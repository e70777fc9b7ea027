/- Parts L2. -/
import Derived.Test.YtfkecmlmnhbmoaaGreatDoorW39
set_option linter.unusedVariables false
set_option linter.unusedSimpArgs false
set_option maxRecDepth 100000
set_option maxHeartbeats 40000000
namespace Go.Proofs.YtfkecmlmnhbmoaaGreatDoor
open Go Go.RowKit Go.Maps
def eqvF (x y:Nat):Prop:=FloatKind.f64.format.order x y=some Ordering.eq
theorem ord00s:FloatKind.f64.format.order 0 0=some Ordering.eq:=by decide
def SameC (n:Nat):Prop:=∀(a b:PV) (S:Nat→Prop) (w:World) (ka va kb vb:Value),SameN eqvF n a b→IsV S w a ka va→IsV S w b kb vb→(∀k,S k→k<w.heap.size)→Calls Tryz.prog 11 #[valOf a ka va,valOf b kb vb] w fun e w'=>e=.returned (.bool true)∧w.grownBy w' none
theorem same_flat (k i g:Int)(r1 r2:Nat)(z:ByteArray)(ko vo ko' vo':Option Addr)(kc vc kc' vc':Nat)(hk:(k==7)=false)(hr:FloatKind.f64.format.order r1 r2=some Ordering.eq)(w:World) :
  Calls Tryz.prog 11 #[.agg #[.int .i64 k,.int .i64 i,.int .i64 g,.float .f64 r1,.string z,.slice ko 0 kc,.slice vo 0 vc],.agg #[.int .i64 k,.int .i64 i,.int .i64 g,.float .f64 r2,.string z,.slice ko' 0 kc',.slice vo' 0 vc']] w fun e w'=>e=.returned (.bool true)∧w.grownBy w' none:=by
 have hkk:(k != k)=false:=by simp
 have hii:(i != i)=false:=by simp
 have hgg:(g != g)=false:=by simp
 obtain⟨q0,q1⟩:=alloc2 w w.heap.size rfl (.cells #[.int .i64 (k),.int .i64 (i),.int .i64 (g),.float .f64 (r1),.string z,.slice ko 0 kc,.slice vo 0 vc] 30) (.cells #[.int .i64 (k),.int .i64 (i),.int .i64 (g),.float .f64 (r2),.string z,.slice ko' 0 kc',.slice vo' 0 vc'] 30);have hGW:w.grownBy ((w.alloc (.cells #[.int .i64 (k),.int .i64 (i),.int .i64 (g),.float .f64 (r1),.string z,.slice ko 0 kc,.slice vo 0 vc] 30)).alloc (.cells #[.int .i64 (k),.int .i64 (i),.int .i64 (g),.float .f64 (r2),.string z,.slice ko' 0 kc',.slice vo' 0 vc'] 30)) none:=gr_alloc (gr_alloc (xgr w none) _) _;obtain⟨W,hW⟩:∃W,W=((w.alloc (.cells #[.int .i64 (k),.int .i64 (i),.int .i64 (g),.float .f64 (r1),.string z,.slice ko 0 kc,.slice vo 0 vc] 30)).alloc (.cells #[.int .i64 (k),.int .i64 (i),.int .i64 (g),.float .f64 (r2),.string z,.slice ko' 0 kc',.slice vo' 0 vc'] 30)):=⟨_,rfl⟩;rw[←hW]at q0 q1 hGW;obtain⟨x0,x1,x2,x3,x4,x5,x6,xf⟩:=cells7 q0;obtain⟨y0,y1,y2,y3,y4,y5,y6,yf⟩:=cells7 q1;have HG:=xhd hGW;clear q0 q1 hGW;go_enter Tryz.func11,Tryz.ntmps11;go_wp2_with fail
 rw[←hW];clear hW;go_wp2_with fail
 go_loopg [95] 1 (fun g t95 wr=>t95=.int .i64 0∧wr=W)
 case atStart=>exact⟨rfl,rfl⟩
 case round =>
  obtain⟨rfl,rfl⟩:=hrel;go_wp2_with fail
  go_ret;exact⟨rfl,HG.out⟩
theorem same_arr (n:Nat)(ih:SameC n)(xs ys:List PV)(S:Nat→Prop)(w:World)(ka va kb vb:Value)(hs:SameN eqvF (n+1) (.arr xs) (.arr ys))(hA:IsV S w (.arr xs) ka va)(hB:IsV S w (.arr ys) kb vb)(hS:∀k,S k→k<w.heap.size) :
  Calls Tryz.prog 11 #[valOf (.arr xs) ka va,valOf (.arr ys) kb vb] w fun e w'=>e=.returned (.bool true)∧w.grownBy w' none:=by
 simp only[SameN]at hs;obtain⟨hlen,hall⟩:=hs;obtain⟨ako,akc,avo,avc,rfl,rfl,-,hma,-,hav⟩:=hA.view;obtain⟨bko,bkc,bvo,bvc,rfl,rfl,-,hmb,-,hbv⟩:=hB.view;simp only[keysV,kidsV,List.length_nil]at *;unfold valOf pvKind pvInt pvGen pvReal pvText;obtain⟨N,hN⟩:∃N,N=xs.length:=⟨_,rfl⟩;rw[←hlen]at hbv hmb⊢;rw[←hN]at hav hbv hma hmb⊢;have hM:N≤9223372036854775807:=by unfold maxLen at hma;omega
 have ord:=ord00s;generalize (⟨([]:By).toArray⟩:ByteArray)=z;obtain⟨Hav,Hbv,HN,Hlen,Hall,HS,Hih⟩:=xh7 hav hbv hN hlen hall hS ih;clear hav hbv hN hlen hall hS hma hmb hA hB ih;obtain⟨q0,q1⟩:=alloc2 w w.heap.size rfl (.cells #[.int .i64 (6),.int .i64 (0),.int .i64 (0),.float .f64 (0),.string z,.slice ako 0 akc,.slice avo N avc] 30) (.cells #[.int .i64 (6),.int .i64 (0),.int .i64 (0),.float .f64 (0),.string z,.slice bko 0 bkc,.slice bvo N bvc] 30);have hGW:w.grownBy ((w.alloc (.cells #[.int .i64 (6),.int .i64 (0),.int .i64 (0),.float .f64 (0),.string z,.slice ako 0 akc,.slice avo N avc] 30)).alloc (.cells #[.int .i64 (6),.int .i64 (0),.int .i64 (0),.float .f64 (0),.string z,.slice bko 0 bkc,.slice bvo N bvc] 30)) none:=gr_alloc (gr_alloc (xgr w none) _) _;obtain⟨W,hW⟩:∃W,W=((w.alloc (.cells #[.int .i64 (6),.int .i64 (0),.int .i64 (0),.float .f64 (0),.string z,.slice ako 0 akc,.slice avo N avc] 30)).alloc (.cells #[.int .i64 (6),.int .i64 (0),.int .i64 (0),.float .f64 (0),.string z,.slice bko 0 bkc,.slice bvo N bvc] 30)):=⟨_,rfl⟩;rw[←hW]at q0 q1 hGW;obtain⟨HG,HQ0,HQ1⟩:=xh3 hGW q0 q1;obtain⟨x0,x1,x2,x3,x4,x5,x6,xf⟩:=cells7 q0;obtain⟨y0,y1,y2,y3,y4,y5,y6,yf⟩:=cells7 q1;clear q0 q1 hGW;go_enter Tryz.func11,Tryz.ntmps11;go_wp2_with fail
 rw[←hW];clear hW;go_wp2_with fail
 clear x0 x1 x2 x3 x4 x5 x6 xf y0 y1 y2 y3 y4 y5 y6 yf
 go_loopg [95] N (fun g t95 wr=>∃j,t95=.int .i64 (j:Nat)∧g=N-j∧j≤N∧W.grownBy wr none)
 case atStart=>exact⟨0,rfl,rfl,Nat.zero_le _,xgr _ _⟩
 case round =>
  obtain⟨j,rfl,hg,hj,hgw⟩:=hrel;have q0:=(hgw.block _ (xgl HQ0.out) (by simp)).trans HQ0.out;have q1:=(hgw.block _ (xgl HQ1.out) (by simp)).trans HQ1.out;obtain⟨x0,x1,x2,x3,x4,x5,x6,xf⟩:=cells7 q0;obtain⟨y0,y1,y2,y3,y4,y5,y6,yf⟩:=cells7 q1;obtain⟨Hgw,Hg⟩:=xh2 hgw hg;clear hgw hg q0 q1
  by_cases hjN:j<N
  ·rcases Hav.out with h0|⟨b0,i0,rfl,hSb,hcells⟩
   ·omega
   rcases Hbv.out with h0|⟨b1,i1,rfl,hSb1,hcells1⟩
   ·omega
   obtain⟨p,hp⟩:∃p,xs[j]?=some p:=⟨_,List.getElem?_eq_getElem (by rw[←HN.out];exact hjN)⟩;obtain⟨p',hp'⟩:∃p,ys[j]?=some p:=⟨_,List.getElem?_eq_getElem (by rw[←Hlen.out,←HN.out];exact hjN)⟩;obtain⟨ksi,vsi,hIi,hci⟩:=hcells j p hp;obtain⟨ksj,vsj,hIj,hcj⟩:=hcells1 j p' hp';obtain⟨⟨kso,ksn,ksc,rfl⟩,⟨vso,vsn,vsc,rfl⟩⟩:=hIi.slices;obtain⟨⟨lso,lsn,lsc,rfl⟩,⟨uso,usn,usc,rfl⟩⟩:=hIj.slices;have hgwr:=HG.out.trans Hgw.out;have hblk:=hgwr.block b0 (HS.out b0 hSb) (by simp);have hblk1:=hgwr.block b1 (HS.out b1 hSb1) (by simp);have hcce:∀m u,(c7 p _ _)[m]?=some u→World.cell? wr ⟨b0,i0+j*7+m,none⟩=some u:=fun m u hm=>(World.cell?_of_block hblk).trans (hci m u hm);have e0:World.cell? wr ⟨b0,i0+j*7,none⟩=_:=hcce 0 _ rfl;have e1:=hcce 1 _ rfl;have e2:=hcce 2 _ rfl;have e3:=hcce 3 _ rfl;have e4:=hcce 4 _ rfl;have e5:=hcce 5 _ rfl;have e6:=hcce 6 _ rfl;clear hcce;have hccf:∀m u,(c7 p' _ _)[m]?=some u→World.cell? wr ⟨b1,i1+j*7+m,none⟩=some u:=fun m u hm=>(World.cell?_of_block hblk1).trans (hcj m u hm);have f0:World.cell? wr ⟨b1,i1+j*7,none⟩=_:=hccf 0 _ rfl;have f1:=hccf 1 _ rfl;have f2:=hccf 2 _ rfl;have f3:=hccf 3 _ rfl;have f4:=hccf 4 _ rfl;have f5:=hccf 5 _ rfl;have f6:=hccf 6 _ rfl;clear hccf;have hcall:=fun (w2:World) (hg2:wr.grownBy w2 none)=>Hih.out p p' S w2 _ _ _ _ (Hall.out j p p' hp hp') (IsV.keep (S':=S) (fun k hk=>⟨hk,(hgwr.trans hg2).block k (HS.out k hk) (by simp)⟩) _ _ _ hIi) (IsV.keep (S':=S) (fun k hk=>⟨hk,(hgwr.trans hg2).block k (HS.out k hk) (by simp)⟩) _ _ _ hIj) (fun k hk=>Nat.lt_of_lt_of_le (HS.out k hk) (hgwr.trans hg2).size)
   have Hcall:=xhd hcall;have hnm:(j:Int)<N:=by omega
   have hwi:IntKind.i64.wrap ((j:Int)+1)=(j:Int)+1:=IntWalk.i64_in _ (by omega);unfold valOf at Hcall;generalize pvKind p=p1 at *;generalize pvInt p=p2 at *;generalize pvGen p=p3 at *;generalize pvReal p=p4 at *;generalize (⟨(pvText p).toArray⟩:ByteArray)=p5 at *;generalize pvKind p'=d1 at *;generalize pvInt p'=d2 at *;generalize pvGen p'=d3 at *;generalize pvReal p'=d4 at *;generalize (⟨(pvText p').toArray⟩:ByteArray)=d5 at *;clear hcall hIi hci hIj hcj hcells hcells1 hp hp' hblk hblk1 hgwr;go_wp2_with fail
   go_region_law
    (first
     | (go_simp;go_at_call 11;refine(Hcall.out _ (by first|exact gr_drew (xgr _ _)|exact xgr _ _)).mono ?_;rintro e w2⟨rfl,hg2⟩;have Hg2:=xhd hg2;clear hg2))
   all_goals
    go_wp2_with fail
    go_roundg (N-(j+1))
    case measure=>rw[Hg.out];omega
    case rel=>exact⟨j+1,by simp,rfl,by omega,Hgw.out.trans ((gr_drew (xgr _ _)).trans Hg2.out)⟩
  ·obtain rfl:j=N:=by omega
   go_wp2_with fail
   go_ret;exact⟨rfl,HG.out.trans Hgw.out⟩
theorem same_dict (n:Nat)(ih:SameC n)(k1 k2:List By)(v1 v2:List PV)(S:Nat→Prop)(w:World)(ka va kb vb:Value)(hs:SameN eqvF (n+1) (.dict k1 v1) (.dict k2 v2))(hA:IsV S w (.dict k1 v1) ka va)(hB:IsV S w (.dict k2 v2) kb vb)(hS:∀k,S k→k<w.heap.size) :
  Calls Tryz.prog 11 #[valOf (.dict k1 v1) ka va,valOf (.dict k2 v2) kb vb] w fun e w'=>e=.returned (.bool true)∧w.grownBy w' none:=by
 simp only[SameN]at hs;obtain⟨hl1,hl2,hnz,hall⟩:=hs;have hea:=fun (w2:World) (hg2:w.grownBy w2 none)=>entries_any (.dict k1 v1) S w2 ka va (IsV.keep (S':=S) (fun k hk=>⟨hk,hg2.block k (hS k hk) (by simp)⟩) _ _ _ hA) (fun k hk=>Nat.lt_of_lt_of_le (hS k hk) hg2.size);have heb:=fun (w2:World) (hg2:w.grownBy w2 none)=>entries_any (.dict k2 v2) S w2 kb vb (IsV.keep (S':=S) (fun k hk=>⟨hk,hg2.block k (hS k hk) (by simp)⟩) _ _ _ hB) (fun k hk=>Nat.lt_of_lt_of_le (hS k hk) hg2.size);have hen:=fun (w2:World) (hg2:w.grownBy w2 none) (key:By) (j:Nat) (p:PV) hj hf hp=>entry_any (.dict k2 v2) S w2 kb vb key (IsV.keep (S':=S) (fun k hk=>⟨hk,hg2.block k (hS k hk) (by simp)⟩) _ _ _ hB) (fun k hk=>Nat.lt_of_lt_of_le (hS k hk) hg2.size) j p hj hf hp;obtain⟨ako,akc,avo,avc,rfl,rfl,-,hma,hak,hav⟩:=hA.view;obtain⟨bko,bkc,bvo,bvc,rfl,rfl,-,hmb,-,-⟩:=hB.view;simp only[keysV,kidsV]at *;unfold valOf pvKind pvInt pvGen pvReal pvText at *;rw[←hnz]at heb;obtain⟨N,hN⟩:∃N,N=v1.length:=⟨_,rfl⟩;obtain⟨M,hM⟩:∃M,M=v2.length:=⟨_,rfl⟩;obtain⟨c,hc⟩:∃c,c=nnz v1:=⟨_,rfl⟩;rw[hl1,←hN]at hea hak⊢;rw[hl2,←hM]at heb hen⊢;rw[←hc]at hea heb;rw[←hN]at hav hma;have hMx:N≤9223372036854775807:=by unfold maxLen at hma;omega
 have hcc9:((c:Int) != (c:Int))=false:=by simp
 have ord:=ord00s;generalize (⟨([]:By).toArray⟩:ByteArray)=z at *;obtain⟨Hea,Heb,Hen,Hak,Hav,HN,Hl1,Hall⟩:=xh8 hea heb hen hak hav hN hl1 hall;obtain⟨HS,Hih⟩:=xh2 hS ih;clear hea heb hen hak hav hN hl1 hl2 hnz hM hc hall hS hma hmb hA hB ih;obtain⟨q0,q1⟩:=alloc2 w w.heap.size rfl (.cells #[.int .i64 7,.int .i64 0,.int .i64 0,.float .f64 0,.string z,.slice ako N akc,.slice avo N avc] 30) (.cells #[.int .i64 7,.int .i64 0,.int .i64 0,.float .f64 0,.string z,.slice bko M bkc,.slice bvo M bvc] 30);have hGW:w.grownBy ((w.alloc (.cells #[.int .i64 7,.int .i64 0,.int .i64 0,.float .f64 0,.string z,.slice ako N akc,.slice avo N avc] 30)).alloc (.cells #[.int .i64 7,.int .i64 0,.int .i64 0,.float .f64 0,.string z,.slice bko M bkc,.slice bvo M bvc] 30)) none:=gr_alloc (gr_alloc (xgr w none) _) _;obtain⟨W,hW⟩:∃W,W=((w.alloc (.cells #[.int .i64 7,.int .i64 0,.int .i64 0,.float .f64 0,.string z,.slice ako N akc,.slice avo N avc] 30)).alloc (.cells #[.int .i64 7,.int .i64 0,.int .i64 0,.float .f64 0,.string z,.slice bko M bkc,.slice bvo M bvc] 30)):=⟨_,rfl⟩;rw[←hW]at q0 q1 hGW;obtain⟨HG,HQ0,HQ1⟩:=xh3 hGW q0 q1;obtain⟨x0,x1,x2,x3,x4,x5,x6,xf⟩:=cells7 q0;obtain⟨y0,y1,y2,y3,y4,y5,y6,yf⟩:=cells7 q1;clear q0 q1 hGW;go_enter Tryz.func11,Tryz.ntmps11
 go_upto_region 4 with (fail)
 rw[←hW];clear hW
 go_cut [50] from 46 (fun t50 wx=>t50=.bool false∧W.grownBy wx none)
 case first =>
  have hgW:W.grownBy W none:=xgr _ _
  go_region_law
   (first
    | (go_simp;go_at_call 26;(with_reducible first|refine(Hea.out _ (by first|exact HG.out.trans (gr_drew hgW)|exact HG.out.trans hgW)).mono ?_|refine(Heb.out _ (by first|exact HG.out.trans (gr_drew hgW)|exact HG.out.trans hgW)).mono ?_);rintro e w2⟨rfl,hg2⟩;replace hgW:W.grownBy w2 none:=(by first|exact(gr_drew hgW).trans hg2|exact hgW.trans hg2);have q0:=(hgW.block _ (xgl HQ0.out) (by simp)).trans HQ0.out;have q1:=(hgW.block _ (xgl HQ1.out) (by simp)).trans HQ1.out;obtain⟨x0,x1,x2,x3,x4,x5,x6,xf⟩:=cells7 q0;obtain⟨y0,y1,y2,y3,y4,y5,y6,yf⟩:=cells7 q1;clear q0 q1 hg2))
  all_goals
   go_wp2_with fail
   go_meet
   case rel=>exact⟨rfl,hgW⟩
 case rest =>
  obtain⟨rfl,hgW⟩:=hcut;have HgW:=xhd hgW;have hq0:=(hgW.block _ (xgl HQ0.out) (by simp)).trans HQ0.out;have hq1:=(hgW.block _ (xgl HQ1.out) (by simp)).trans HQ1.out;clear hgW x0 x1 x2 x3 x4 x5 x6 xf y0 y1 y2 y3 y4 y5 y6 yf;obtain⟨x0,x1,x2,x3,x4,x5,x6,xf⟩:=cells7 hq0;obtain⟨y0,y1,y2,y3,y4,y5,y6,yf⟩:=cells7 hq1;clear hq0 hq1;go_wp2_with fail
  clear x0 x1 x2 x3 x4 x5 x6 xf y0 y1 y2 y3 y4 y5 y6 yf
  go_loopg [54] N (fun g t54 wr=>∃j,t54=.int .i64 (j:Nat)∧g=N-j∧j≤N∧W.grownBy wr none)
  case atStart=>exact⟨0,rfl,rfl,Nat.zero_le _,HgW.out⟩
  case round =>
   clear HgW;obtain⟨j,rfl,hg,hj,hgw⟩:=hrel;have q0:=(hgw.block _ (xgl HQ0.out) (by simp)).trans HQ0.out;have q1:=(hgw.block _ (xgl HQ1.out) (by simp)).trans HQ1.out;have Hq0:=xhd q0;obtain⟨x0,x1,x2,x3,x4,x5,x6,xf⟩:=cells7 q0;obtain⟨y0,y1,y2,y3,y4,y5,y6,yf⟩:=cells7 q1;obtain⟨Hgw,Hg⟩:=xh2 hgw hg;clear hgw hg q0 q1
   by_cases hjN:j<N
   ·rcases Hav.out with h0|⟨b0,i0,rfl,hSb,hcells⟩
    ·omega
    rcases Hak.out with h0|⟨bk,ik,rfl,hSk,hkc⟩
    ·omega
    obtain⟨p,hp⟩:∃p,v1[j]?=some p:=⟨_,List.getElem?_eq_getElem (by rw[←HN.out];exact hjN)⟩;obtain⟨q,hq⟩:∃q,k1[j]?=some q:=⟨_,List.getElem?_eq_getElem (by rw[Hl1.out,←HN.out];exact hjN)⟩;obtain⟨ksi,vsi,hIi,hci⟩:=hcells j p hp;obtain⟨⟨kso,ksn,ksc,rfl⟩,⟨vso,vsn,vsc,rfl⟩⟩:=hIi.slices;have hgwr:=HG.out.trans Hgw.out;have hblk:=hgwr.block b0 (HS.out b0 hSb) (by simp);have hblk1:=hgwr.block bk (HS.out bk hSk) (by simp);have d0:wr.cell? ⟨bk,ik+j,none⟩=some (.string ⟨q.toArray⟩):=(World.cell?_of_block hblk1).trans (hkc j _ (by simp[kvals,hq]));have hkn:=kind_null p;have hnm:(j:Int)<N:=by omega
    have hwi:IntKind.i64.wrap ((j:Int)+1)=(j:Int)+1:=IntWalk.i64_in _ (by omega)
    cases hnl:p.isNull
    ·obtain⟨j2,p',hj2,hf2,hp2,hn2,hs2⟩:=Hall.out j q p hq hp hnl
     have hcallE:=Hen.out wr hgwr q j2 p' hj2 hf2 hp2;rw[hnl]at hkn;have hk0:(pvKind p==0)=false:=by simpa using hkn
     have Hcc:=xhd (show ∀m u,(c7 p (.slice kso ksn ksc) (.slice vso vsn vsc))[m]?=some u→wr.cell? ⟨b0,i0+j*7+m,none⟩=some u from fun m u hm=>(World.cell?_of_block hblk).trans (hci m u hm));have e0:wr.cell? ⟨b0,i0+j*7,none⟩=_:=Hcc.out 0 _ rfl;have hlt0:b0<wr.heap.size:=Nat.lt_of_lt_of_le (HS.out b0 hSb) hgwr.size;have HIi:=xhd (IsV.keep (S':=S) (w':=wr) (fun k hk=>⟨hk,hgwr.block k (HS.out k hk) (by simp)⟩) _ _ _ hIi);have HSr:=xhd (show ∀k,S k→k<wr.heap.size from fun k hk=>Nat.lt_of_lt_of_le (HS.out k hk) hgwr.size);obtain⟨Hs2,Hn2,HcE,Hlt⟩:=xh4 hs2 hn2 hcallE hlt0;clear hcallE hIi hci hcells hp hq hkc hblk hblk1 hgwr hs2 hn2 hj2 hf2 hp2 hnl hkn hlt0 hSb hSk;have He0:=xhd e0;go_wp2_with fail
     refine HcE.out.mono ?_;rintro e w2⟨lks,lvs,rfl,hI2,hg2⟩;obtain⟨⟨lso,lsn,lsc,rfl⟩,⟨uso,usn,usc,rfl⟩⟩:=hI2.slices;rw[Hn2.out];unfold valOf;obtain⟨HI2,Hg2⟩:=xh2 hI2 hg2;clear hI2 hg2 x0 x1 x2 x3 x4 x5 x6 xf y0 y1 y2 y3 y4 y5 y6 yf e0 d0 hk0;go_wp2_with fail
     obtain⟨W3,hW3⟩:∃W3,W3=w2.alloc (.cells #[.int .i64 (pvKind p'),.int .i64 (pvInt p'),.int .i64 (pvGen p'),.float .f64 (pvReal p'),.string ⟨(pvText p').toArray⟩,.slice lso lsn lsc,.slice uso usn usc] 30):=⟨_,rfl⟩;have hg3:w2.grownBy W3 none:=by rw[hW3];exact gr_alloc (xgr _ _) _
     have hg3r:=Hg2.out.trans hg3;have q3:W3.heap[w2.heap.size]?=some (.cells #[.int .i64 (pvKind p'),.int .i64 (pvInt p'),.int .i64 (pvGen p'),.float .f64 (pvReal p'),.string ⟨(pvText p').toArray⟩,.slice lso lsn lsc,.slice uso usn usc] 30 (0,0)):=by rw[hW3];exact heap_alloc_new w2 _
     have q0:=(hg3r.block _ (xgl Hq0.out) (by simp)).trans Hq0.out;rw[←hW3];clear hW3;obtain⟨x0,x1,x2,x3,x4,x5,x6,xf⟩:=cells7 q0;obtain⟨y0,y1,y2,y3,y4,y5,y6,yf⟩:=cells7 q3;have hblk:=hg3r.block b0 Hlt.out (by simp);have hcce:∀m u,(c7 p _ _)[m]?=some u→World.cell? W3 ⟨b0,i0+j*7+m,none⟩=some u:=fun m u hm=>(World.cell?_of_block hblk).trans (Hcc.out m u hm);have e0:World.cell? W3 ⟨b0,i0+j*7,none⟩=_:=hcce 0 _ rfl;have e1:=hcce 1 _ rfl;have e2:=hcce 2 _ rfl;have e3:=hcce 3 _ rfl;have e4:=hcce 4 _ rfl;have e5:=hcce 5 _ rfl;have e6:=hcce 6 _ rfl;clear hcce;have hcall:=fun (w4:World) (hg4:W3.grownBy w4 none)=>Hih.out p p' S w4 _ _ _ _ Hs2.out (IsV.keep (S':=S) (fun k hk=>⟨hk,(hg3r.trans hg4).block k (HSr.out k hk) (by simp)⟩) _ _ _ HIi.out) (IsV.keep (S':=S) (fun k hk=>⟨hk,(hg3r.trans hg4).block k (HSr.out k hk) (by simp)⟩) _ _ _ HI2.out) (fun k hk=>Nat.lt_of_lt_of_le (HSr.out k hk) (hg3r.trans hg4).size);unfold valOf at hcall;generalize pvKind p=p1 at *;generalize pvInt p=p2 at *;generalize pvGen p=p3 at *;generalize pvReal p=p4 at *;generalize (⟨(pvText p).toArray⟩:ByteArray)=p5 at *;generalize pvKind p'=d1 at *;generalize pvInt p'=d2 at *;generalize pvGen p'=d3 at *;generalize pvReal p'=d4 at *;generalize (⟨(pvText p').toArray⟩:ByteArray)=d5 at *;have Hcall:=xhd hcall;have Hg3:=xhd (Hgw.out.trans hg3r);clear hcall q0 q3 hblk hg3 hg3r
     go_region_law
      (first
       | (go_simp;go_at_call 11;with_reducible refine(Hcall.out _ (by first|exact gr_drew (xgr _ _)|exact xgr _ _)).mono ?_;rintro e w4⟨rfl,hg4⟩;have Hg4:=xhd hg4;clear hg4))
     all_goals
      go_wp2_with fail
      go_roundg (N-(j+1))
      case measure=>rw[Hg.out];omega
      case rel=>exact⟨j+1,by simp,rfl,by omega,Hg3.out.trans ((gr_drew (xgr _ _)).trans Hg4.out)⟩
    ·have e0:wr.cell? ⟨b0,i0+j*7,none⟩=_:=(World.cell?_of_block hblk).trans (hci 0 _ rfl)
     rw[hnl]at hkn;have hk0:(pvKind p==0)=true:=by simpa using hkn
     clear hIi hci hcells hp hq hkc hblk hblk1 hgwr hnl hkn;go_wp2_with fail
     go_roundg (N-(j+1))
     case measure=>rw[Hg.out];omega
     case rel=>exact⟨j+1,by simp,rfl,by omega,Hgw.out⟩
   ·obtain rfl:j=N:=by omega
    go_wp2_with fail
    go_ret;exact⟨rfl,HG.out.trans Hgw.out⟩
theorem sameC_all:∀n,SameC n:=by
 intro n
 induction n with
 | zero=>intro a b S w ka va kb vb hs;simp[SameN]at hs
 | succ n ih =>
  intro a b S w ka va kb vb hs hA hB hS
  cases a<;>cases b<;>first|(simp only[SameN]at hs;done)|skip
  case arr.arr=>exact same_arr n ih _ _ S w _ _ _ _ hs hA hB hS
  case dict.dict=>exact same_dict n ih _ _ _ _ S w _ _ _ _ hs hA hB hS
  all_goals
   simp only[SameN]at hs;obtain⟨ako,akc,avo,avc,rfl,rfl,_⟩:=hA.view;obtain⟨bko,bkc,bvo,bvc,rfl,rfl,_⟩:=hB.view;simp only[keysV,kidsV,List.length_nil];unfold valOf;simp only[pvKind,pvInt,pvGen,pvReal,pvText]
  case null.null=>exact same_flat 0 0 0 0 0 _ _ _ _ _ _ _ _ _ (by decide) ord00s w
  case bool.bool=>subst hs;exact same_flat 1 _ 0 0 0 _ _ _ _ _ _ _ _ _ (by decide) ord00s w
  case int.int=>subst hs;exact same_flat 2 _ 0 0 0 _ _ _ _ _ _ _ _ _ (by decide) ord00s w
  case real.real=>exact same_flat 3 0 0 _ _ _ _ _ _ _ _ _ _ _ (by decide) hs w
  case str.str=>subst hs;exact same_flat 4 0 0 0 0 _ _ _ _ _ _ _ _ _ (by decide) ord00s w
  case name.name=>subst hs;exact same_flat 5 0 0 0 0 _ _ _ _ _ _ _ _ _ (by decide) ord00s w
  case ref.ref=>obtain⟨h1,h2⟩:=hs;subst h1;subst h2;exact same_flat 8 _ _ 0 0 _ _ _ _ _ _ _ _ _ (by decide) ord00s w
end Go.Proofs.YtfkecmlmnhbmoaaGreatDoor
