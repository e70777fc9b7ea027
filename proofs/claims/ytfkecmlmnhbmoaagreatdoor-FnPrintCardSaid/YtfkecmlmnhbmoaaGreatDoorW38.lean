/- Parts J15. -/
import Derived.Test.YtfkecmlmnhbmoaaGreatDoorW37
set_option linter.unusedVariables false
set_option linter.unusedSimpArgs false
set_option maxRecDepth 100000
set_option maxHeartbeats 40000000
namespace Go.Proofs.YtfkecmlmnhbmoaaGreatDoor
open Go Go.RowKit
theorem slow_k:∀k:Nat,k<28→2^(k+6)*100000≤4503599627370496∧(0<k→9007199254740992≤100000000000000*2^(k+6)):=by decide
theorem slow_b (ef fr mt k:Nat)(h1:1042≤ef)(h2:ef≤1069)(hk:k=1075-ef)(hf:fr<4503599627370496)(hb:ef*4503599627370496+fr<4816244402031689728)(hmt:mt=fr+4503599627370496):6≤k∧k≤33∧2^k*10^5≤mt∧mt<10^14*2^k:=by
 obtain⟨q1,q2⟩:=slow_k (k-6) (by omega);rw[show k-6+6=k by omega]at q1 q2;refine⟨by omega,by omega,by rw[show (10:Nat)^5=100000 by decide];omega,?_⟩;rw[show (10:Nat)^14=100000000000000 by decide]
 by_cases h6:6<k
 ·have:=q2 (by omega);omega
 ·have h60:k=6:=by omega
  subst h60;rw[show (2:Nat)^6=64 by decide];have:ef=1069:=by omega
  subst this;omega
theorem ft_slow (W0:World)(hF:FInit W0)(x sg ef fr:Nat)(hx:x=sg*9223372036854775808+ef*4503599627370496+fr)(hs:sg≤1)(he1:1042≤ef)(he:ef≤1069)(hf:fr<4503599627370496)(hb:ef*4503599627370496+fr<4816244402031689728) :
  ∃(L:By) (dp:Int),isDs L∧-3000≤dp∧dp≤14∧Ft64 W0 x (ftxt (sg==1) L dp):=by
 have hfb:=run_bits64;obtain⟨q1,⟨hp,q2,q2b,q3⟩,q4,hxl⟩:=parts x sg ef fr hx hs (by omega) hf;have q5:=or_one fr hf;obtain⟨mt,hmt⟩:∃mt,mt=fr+4503599627370496:=⟨_,rfl⟩;obtain⟨k,hk⟩:∃k,k=1075-ef:=⟨_,rfl⟩;obtain⟨k1,k2,k3,k4⟩:=slow_b ef fr mt k he1 he hk hf hb hmt;rw[←hmt]at q5;have hmt1:((mt:Int)==0)=false:=by simp;omega
 have hmt2:((mt:Int) != 0)=true:=by simp;omega
 have hmt0:mt≠0:=by omega
 have hmb:mt<9007199254740992:=by omega
 have he3:((ef:Int)==0)=false:=by simp;omega
 have he4:((ef:Int)==2047)=false:=by simp;omega
 obtain⟨r,hr,hr26,hr1,hdp14,hdp100,hn60,hN2,hn60',hN1⟩:=slow_dp hmt0 k1 k2 k3 k4;obtain⟨E,hE1⟩:∃E:Int,(ef:Int) + -1023=E:=⟨_,rfl⟩;have hE3:19≤E:=by omega
 have hE4:E≤46:=by omega
 have hEk:E-52=-(k:Int):=by omega
 clear hx hmt hb hk k3 k4 hf he1 he;have hs2:sg=0∨sg=1:=by omega
 refine⟨dgs (rdN (rsN k (strip mt)) r),rdP (rsN k (strip mt)) r (rsP k (strip mt) (numD mt)),dgs_ds _,by omega,hdp14,?_⟩;have hnd20:numD mt≤20:=numD_le_of (by omega);have hnd1:1≤numD mt:=numD_pos1 hmt0;obtain⟨N1,hN1e⟩:∃n,n=strip mt:=⟨_,rfl⟩;rw[←hN1e]at hr hdp14 hdp100 hn60 hN2 hn60' hN1⊢;obtain⟨d1,hd1e⟩:∃d,d=numD mt:=⟨_,rfl⟩;rw[←hd1e]at hr hdp14 hdp100 hnd20 hnd1⊢;obtain⟨N2,hN2e⟩:∃n,n=rsN k N1:=⟨_,rfl⟩;obtain⟨d2,hd2e⟩:∃n,n=rsP k N1 d1:=⟨_,rfl⟩;rw[←hN2e,←hd2e]at hdp14 hdp100⊢;rw[←hN2e]at hn60 hN2;rw[←hd2e]at hr;obtain⟨N3,hN3e⟩:∃n,n=rdN N2 r:=⟨_,rfl⟩;obtain⟨d3,hd3e⟩:∃n,n=rdP N2 r d2:=⟨_,rfl⟩;rw[←hN3e,←hd3e];rw[←hd3e]at hdp14 hdp100;have HE:=xhd (And.intro hN1e (And.intro hd1e (And.intro hN2e (And.intro hd2e (And.intro hN3e hd3e)))));have HN:=xhd (And.intro hmt0 (And.intro hN1 (And.intro hN2 (And.intro hn60 hn60'))));clear hN1e hd1e hN2e hd2e hN3e hd3e hmt0 hN1 hN2 hn60 hn60';have hrr:d2+12=(r:Int):=hr;have hd2a:-12≤d2:=by omega
 have hd2b:d2≤14:=by omega
 clear hr;rcases hs2 with rfl|rfl
 ·intro w B v0 hown hB hE
  obtain⟨Hown,HE0⟩:=xh2 hown hE;have hopt:=hE.cell hF.opt;clear hown hE;go_enter Tryz.func91,Tryz.ntmps91;go_wp2_with fail
  go_quiet (fail);go_wp2_with fail
  refine(l10_any _ _ (by omega) (by omega)).mono ?_;rintro e w1⟨rfl,hw⟩;subst w1;go_wp2_with fail
  refine(asg_any _ w.heap.size (List.replicate 800 0) 0 0 false false mt HN.out.1 (by omega) (by exact zeroDec (w.drewN nq))).mono ?_;rintro e w1⟨rfl,hD1,hg1⟩;rw[←HE.out.1,←HE.out.2.1]at hD1;have Hg1:=xhd (show w.grownBy w1 none from gr_noneThen (gr_alloc (gr_drewN (xgr _ _) _) _) hg1 (fun j hj=>by injection hj with hj;first|omega|(simp at hj;omega)|exact Nat.le_of_eq hj));have HD1:=xhd hD1;clear hg1 hD1;go_wp2_with fail
  refine(shr_z _ w.heap.size N1 d1 false false k _ (by omega) (by omega) (by omega) HD1.out (by have:=HN.out.2.2.2.2;omega) HN.out.2.1 (by omega) (by omega)).mono ?_;rintro e w2⟨rfl,hD2,hg2⟩;rw[←HE.out.2.2.1,←HE.out.2.2.2.1]at hD2;have Hg2:=xhd (show w.grownBy w2 none from gr_noneThen Hg1.out hg2 (fun j hj=>by injection hj with hj;omega));have HD2:=xhd hD2;obtain⟨y0,y1,y2,y3,yf⟩:=hD2.cells;clear hg2 hD2;go_wp2_with fail
  refine(round_any _ w.heap.size N2 d2 false r HN.out.2.2.1 hr1 (by omega) (by have:=HN.out.2.2.2.1;omega) (by omega) (by omega) HD2.out).mono ?_;rintro e w3⟨rfl,hD3,hg3⟩;rw[←HE.out.2.2.2.2.1,←HE.out.2.2.2.2.2]at hD3;have Hg3:=xhd (show w.grownBy w3 none from gr_noneThen Hg2.out hg3 (fun j hj=>by injection hj with hj;omega));have h800:=hD3.1;obtain⟨A,hA,hAt⟩:=dec_digits hD3;clear y0 y1 y2 y3 yf hg3 hD3;obtain⟨y0,y1,y2,y3,yf⟩:=hA.cells;have hlt:=hA.lt
  have hfm:=fun (w4:World) (hw:w3.grownBy w4 none)=>fmt_any w4 B v0 false (dgs N3) d3 w.heap.size 800 800 (by rw[dgs_len];exact h800) (by omega) (by omega) (Nat.lt_of_lt_of_le hlt hw.size) (fun e=>by have:=(Hown.out.lt _ e);omega) (fun i c h=>by
   rw[←hAt,List.getElem?_take]at h
   split at h
   ·rename_i hi
    have hd:=hA.dig (i:=i) (by omega);have e2:A.getD i 0=c:=by rw[List.getD_eq_getElem?_getD,h];rfl
    rw[e2]at hd;exact(World.cell?_of_block (hw.block _ hlt (by simp))).trans hd
   ·simp at h) (Hown.out.kept (Hg3.out.trans hw) (fun k hk=>by cases hk)) (Nat.le_trans hB (Hg3.out.trans hw).size) (by omega) hdp14 false
  rw[dgs_len]at hfm;have Hfm:=xhd hfm;obtain⟨n3,hn3⟩:∃n,n=numD N3:=⟨_,rfl⟩;rw[←hn3]at Hfm y0 h800;clear hfm hAt hA hn3
  go_upto_region 90 with (fail)
  go_cut [8] from 281 to 297 (fun t8 wx=>∃w4,w3.grownBy w4 none∧DstAt w4 wx v0 t8 B (ftxt false (dgs N3) d3))
  case first =>
   go_region_law
    (first
     | (go_simp;go_at_call 115;refine(Hfm.out _ (by first|exact xgr _ _|exact gr_drew (xgr _ _)|exact gr_drewN (xgr _ _) _)).mono ?_;rintro e w5⟨v',rfl,hd5⟩;have Hd5:=xhd hd5;clear hd5))
   all_goals
    go_wp2_with fail
    go_meet
    case rel=>exact⟨_,(by first|exact gr_drew (xgr _ _)|exact xgr _ _|exact gr_drewN (xgr _ _) _),Hd5.out⟩
  obtain⟨w4,hg4,hd4⟩:=hcut;obtain⟨Hg4,Hd4⟩:=xh2 hg4 hd4;clear hg4 hd4;go_wp2_with fail
  go_ret;exact⟨_,rfl,Hd4.out.pre (Hg3.out.trans Hg4.out) hB⟩
 ·intro w B v0 hown hB hE
  obtain⟨Hown,HE0⟩:=xh2 hown hE;have hopt:=hE.cell hF.opt;clear hown hE;go_enter Tryz.func91,Tryz.ntmps91;go_wp2_with fail
  go_quiet (fail);go_wp2_with fail
  refine(l10_any _ _ (by omega) (by omega)).mono ?_;rintro e w1⟨rfl,hw⟩;subst w1;go_wp2_with fail
  refine(asg_any _ w.heap.size (List.replicate 800 0) 0 0 false false mt HN.out.1 (by omega) (by exact zeroDec (w.drewN nq))).mono ?_;rintro e w1⟨rfl,hD1,hg1⟩;rw[←HE.out.1,←HE.out.2.1]at hD1;have Hg1:=xhd (show w.grownBy w1 none from gr_noneThen (gr_alloc (gr_drewN (xgr _ _) _) _) hg1 (fun j hj=>by injection hj with hj;first|omega|(simp at hj;omega)|exact Nat.le_of_eq hj));have HD1:=xhd hD1;clear hg1 hD1;go_wp2_with fail
  refine(shr_z _ w.heap.size N1 d1 false false k _ (by omega) (by omega) (by omega) HD1.out (by have:=HN.out.2.2.2.2;omega) HN.out.2.1 (by omega) (by omega)).mono ?_;rintro e w2⟨rfl,hD2,hg2⟩;rw[←HE.out.2.2.1,←HE.out.2.2.2.1]at hD2;have Hg2:=xhd (show w.grownBy w2 none from gr_noneThen Hg1.out hg2 (fun j hj=>by injection hj with hj;omega));have HD2:=xhd hD2;obtain⟨y0,y1,y2,y3,yf⟩:=hD2.cells;clear hg2 hD2;go_wp2_with fail
  refine(round_any _ w.heap.size N2 d2 false r HN.out.2.2.1 hr1 (by omega) (by have:=HN.out.2.2.2.1;omega) (by omega) (by omega) HD2.out).mono ?_;rintro e w3⟨rfl,hD3,hg3⟩;rw[←HE.out.2.2.2.2.1,←HE.out.2.2.2.2.2]at hD3;have Hg3:=xhd (show w.grownBy w3 none from gr_noneThen Hg2.out hg3 (fun j hj=>by injection hj with hj;omega));have h800:=hD3.1;obtain⟨A,hA,hAt⟩:=dec_digits hD3;clear y0 y1 y2 y3 yf hg3 hD3;obtain⟨y0,y1,y2,y3,yf⟩:=hA.cells;have hlt:=hA.lt
  have hfm:=fun (w4:World) (hw:w3.grownBy w4 none)=>fmt_any w4 B v0 true (dgs N3) d3 w.heap.size 800 800 (by rw[dgs_len];exact h800) (by omega) (by omega) (Nat.lt_of_lt_of_le hlt hw.size) (fun e=>by have:=(Hown.out.lt _ e);omega) (fun i c h=>by
   rw[←hAt,List.getElem?_take]at h
   split at h
   ·rename_i hi
    have hd:=hA.dig (i:=i) (by omega);have e2:A.getD i 0=c:=by rw[List.getD_eq_getElem?_getD,h];rfl
    rw[e2]at hd;exact(World.cell?_of_block (hw.block _ hlt (by simp))).trans hd
   ·simp at h) (Hown.out.kept (Hg3.out.trans hw) (fun k hk=>by cases hk)) (Nat.le_trans hB (Hg3.out.trans hw).size) (by omega) hdp14 false
  rw[dgs_len]at hfm;have Hfm:=xhd hfm;obtain⟨n3,hn3⟩:∃n,n=numD N3:=⟨_,rfl⟩;rw[←hn3]at Hfm y0 h800;clear hfm hAt hA hn3
  go_upto_region 90 with (fail)
  go_cut [8] from 281 to 297 (fun t8 wx=>∃w4,w3.grownBy w4 none∧DstAt w4 wx v0 t8 B (ftxt true (dgs N3) d3))
  case first =>
   go_region_law
    (first
     | (go_simp;go_at_call 115;refine(Hfm.out _ (by first|exact xgr _ _|exact gr_drew (xgr _ _)|exact gr_drewN (xgr _ _) _)).mono ?_;rintro e w5⟨v',rfl,hd5⟩;have Hd5:=xhd hd5;clear hd5))
   all_goals
    go_wp2_with fail
    go_meet
    case rel=>exact⟨_,(by first|exact gr_drew (xgr _ _)|exact xgr _ _|exact gr_drewN (xgr _ _) _),Hd5.out⟩
  obtain⟨w4,hg4,hd4⟩:=hcut;obtain⟨Hg4,Hd4⟩:=xh2 hg4 hd4;clear hg4 hd4;go_wp2_with fail
  go_ret;exact⟨_,rfl,Hd4.out.pre (Hg3.out.trans Hg4.out) hB⟩
end Go.Proofs.YtfkecmlmnhbmoaaGreatDoor
