/- Parts B1z. -/
import Derived.Test.YtfkecmlmnhbmoaaGreatDoorW8
set_option linter.unusedVariables false
set_option linter.unusedSimpArgs false
set_option maxRecDepth 100000
set_option maxHeartbeats 40000000
namespace Go.Proofs.YtfkecmlmnhbmoaaGreatDoor
open Go Go.RowKit
theorem number_any (pf:By→Nat)(W0 w:World)(hI:Init W0)(hpf:PFC pf W0)(hE:Env W0 w)(s:ByteArray)(l:By)(hl:s.data.toList=l)(hs:s.size≤140737488351240) :
  Calls Tryz.prog 63 #[.string s] w fun e w'=>e=numRet (numF pf l)∧w.grownBy w' none:=by
 obtain⟨HI,Hpf,HE⟩:=xh3 hI hpf hE;have Hz:=xhd (show s.size=l.length by have:=congrArg List.length hl;simpa using this)
 obtain⟨P0,L0,k0,hP,hPl,hst,hc⟩:∃(P0 L0:By) (k0:Nat),l=P0++L0∧P0.length=k0∧numStrip l=L0∧((l=[]∧k0=0)∨∃c t,l=c::t∧((((c.toNat:Int)==43)=true∧k0=1)∨(((c.toNat:Int)==43)=false∧((c.toNat:Int)==45)=true∧k0=1)∨(((c.toNat:Int)==43)=false∧((c.toNat:Int)==45)=false∧k0=0))):=by
  cases l with
  | nil=>exact⟨[],[],0,rfl,rfl,rfl,.inl ⟨rfl,rfl⟩⟩
  | cons c t =>
   rcases xbt ((c.toNat:Int)==43) with h1|h1
   ·exact⟨[c],t,1,rfl,rfl,by simp[numStrip,h1],.inr ⟨c,t,rfl,.inl ⟨h1,rfl⟩⟩⟩
   ·rcases xbt ((c.toNat:Int)==45) with h2|h2
    ·exact⟨[c],t,1,rfl,rfl,by simp[numStrip,h1,h2],.inr ⟨c,t,rfl,.inr (.inl ⟨h1,h2,rfl⟩)⟩⟩
    ·exact⟨[],c::t,0,rfl,rfl,by simp[numStrip,h1,h2],.inr ⟨c,t,rfl,.inr (.inr ⟨h1,h2,rfl⟩)⟩⟩
 have Hl:=xhd (hl.trans hP);have Hst:=xhd (show numStrip (P0++L0)=L0 by rw[←hP];exact hst);rw[hP]
 have hh:(k0=0∧¬0<s.size)∨∃(c:UInt8) (h:0<s.size),s[0]'h=c∧((((c.toNat:Int)==43)=true∧k0=1)∨(((c.toNat:Int)==43)=false∧((c.toNat:Int)==45)=true∧k0=1)∨(((c.toNat:Int)==43)=false∧((c.toNat:Int)==45)=false∧k0=0)):=by
  rcases hc with⟨h1,h2⟩|⟨c,t,h1,h2⟩
  ·left
   exact⟨h2,by have:=Hz.out;rw[h1]at this;simp at this;simp[this]⟩
  ·right
   obtain⟨h0,hc,_⟩:=at_byte (s:=s) (pre:=[]) (c:=c) (l:=t) (by rw[hl,h1];rfl);exact⟨c,h0,hc,h2⟩
 clear hI hpf hE hl hP hst hc;rcases hh with⟨rfl,h0⟩|⟨c,h0,hc,h⟩
 rotate_left
 rcases h with⟨h1,rfl⟩|⟨h1,h2,rfl⟩|⟨h1,h2,rfl⟩
 all_goals
  go_enter Tryz.func63,Tryz.ntmps63;go_wp2_with fail
  go_loopg [5,6,7,8] (L0).length (fun g t5 t6 t7 t8 wr=>∃q l' d p a,g=l'.length∧t5=.int .i64 d∧t6=.int .i64 p∧t7=.int .i64 a∧t8=.int .i64 ((P0++q).length:Nat)∧NumInv w wr s (P0) (L0) q l' d p a)
  case atStart=>exact⟨[],L0,0,0,0,rfl,rfl,rfl,rfl,by simp[hPl],⟨by simpa using Hl.out,rfl,gr_alloc (xgr _ _) _,heap_alloc_new w _,by omega,by omega,by omega,by simp,by omega⟩⟩
  case round =>
   obtain⟨q,l',d,p,a,hg,rfl,rfl,rfl,rfl,hS,hF,hG,hZ,hd0',hp0',ha0',hq1,had⟩:=hrel;have hszq:s.size=(P0++q).length+l'.length:=by have:=congrArg List.length hS;simp at this⊢;omega
   have hB2:=hG.size;obtain⟨HS,HF,HG,HZ,Hg,Hzq⟩:=xh6 hS hF hG hZ hg hszq;have hk:(P0++q).length≤s.size:=by omega
   have hq2:q.length≤s.size:=by simp at hszq;omega
   clear hS hF hG hZ hg hszq;obtain⟨pq,hpq⟩:∃pq,pq=P0++q:=⟨_,rfl⟩;rw[←hpq]at hk HS Hzq⊢;have Hpq:=xhd hpq;clear hpq
   cases l' with
   | nil =>
    have hlt:¬pq.length<s.size:=by have:=Hzq.out;simp at this;omega
    obtain⟨z0,z1,z2,z3,z4,z5,z6,zf⟩:=zb_cells HZ.out;have HG1:=HG;rcases xbt (d==0) with hd0|hd0
    ·go_wp2_with fail
     refine bodyPost_ret (v:=.tuple #[numV 0 0 0,.int .i64 1]) (by simp[results,Tryz.results63,go_sem,numV,z0,z1,z2,z3,z4,z5,z6]) rfl ⟨?_,(by repeat (first|with_reducible exact HG1.out|with_reducible exact HG.out|with_reducible apply gr_alloc|with_reducible apply gr_drewN|with_reducible apply gr_drew|((with_reducible refine gr_setN ?_ ?_ _ _);rotate_left;(first|omega|(simp;omega)|simp))))⟩;rw[numF_end Hst.out HF.out,if_pos (.inl hd0)];rfl
    ·rcases xbt (decide (1<p)) with hp1|hp1
     ·go_wp2_with fail
      refine bodyPost_ret (v:=.tuple #[numV 0 0 0,.int .i64 1]) (by simp[results,Tryz.results63,go_sem,numV,z0,z1,z2,z3,z4,z5,z6]) rfl ⟨?_,(by repeat (first|with_reducible exact HG1.out|with_reducible exact HG.out|with_reducible apply gr_alloc|with_reducible apply gr_drewN|with_reducible apply gr_drew|((with_reducible refine gr_setN ?_ ?_ _ _);rotate_left;(first|omega|(simp;omega)|simp))))⟩;rw[numF_end Hst.out HF.out,if_pos (.inr (by simpa using hp1))];rfl
     ·rcases xbt (decide (14<a)) with ha1|ha1
      ·go_wp2_with fail
       refine bodyPost_ret (v:=.tuple #[numV 0 0 0,.int .i64 2]) (by simp[results,Tryz.results63,go_sem,numV,z0,z1,z2,z3,z4,z5,z6]) rfl ⟨?_,(by repeat (first|with_reducible exact HG1.out|with_reducible exact HG.out|with_reducible apply gr_alloc|with_reducible apply gr_drewN|with_reducible apply gr_drew|((with_reducible refine gr_setN ?_ ?_ _ _);rotate_left;(first|omega|(simp;omega)|simp))))⟩;rw[numF_end Hst.out HF.out,if_neg (by simp at hd0 hp1⊢;omega),if_pos (.inl (by simpa using ha1))];rfl
      ·rcases xbt (decide (60<d)) with hd1|hd1
       ·go_wp2_with fail
        refine bodyPost_ret (v:=.tuple #[numV 0 0 0,.int .i64 2]) (by simp[results,Tryz.results63,go_sem,numV,z0,z1,z2,z3,z4,z5,z6]) rfl ⟨?_,(by repeat (first|with_reducible exact HG1.out|with_reducible exact HG.out|with_reducible apply gr_alloc|with_reducible apply gr_drewN|with_reducible apply gr_drew|((with_reducible refine gr_setN ?_ ?_ _ _);rotate_left;(first|omega|(simp;omega)|simp))))⟩;rw[numF_end Hst.out HF.out,if_neg (by simp at hd0 hp1⊢;omega),if_pos (.inr (by simpa using hd1))];rfl
       ·have HE1:=xhd (HE.out.grown0 (show w.grownBy wr none from HG.out))
        rcases xbt (p==1) with hp2|hp2
        ·have hok:=xhd (num_ok Hst.out HF.out (by simpa using hd0) (by simpa using hp2) (by simpa using ha1) (by simpa using hd1) hd0')
         have hres:=xhd (num_real (pf:=pf) Hst.out HF.out (by simpa using hd0) (by simpa using hp2) (by simpa using ha1) (by simpa using hd1));clear hd0' hp0' ha0' hq1 had;go_wp2_with fail
         refine(Hpf.out.at Hl.out hok.out (by exact HE1.out)).mono ?_;rintro e w1⟨rfl,hg1⟩;have HZ1:=xhd ((hg1.block w.heap.size (xgl HZ.out) (by simp)).trans HZ.out);clear z0 z1 z2 z3 z4 z5 z6 zf;obtain⟨z0,z1,z2,z3,z4,z5,z6,zf⟩:=zb_cells HZ1.out;have HG1:=xhd (gr_noneThen (show w.grownBy wr none from HG.out) hg1 (fun j hj=>by cases hj));go_wp2_with fail
         refine bodyPost_ret (v:=.tuple #[numV 3 0 (pf (P0++L0)),.int .i64 0]) (by simp[results,Tryz.results63,go_sem,numV,z0,z1,z2,z3,z4,z5,z6]) rfl ⟨?_,(by repeat (first|with_reducible exact HG1.out|with_reducible exact HG.out|with_reducible apply gr_alloc|with_reducible apply gr_drewN|with_reducible apply gr_drew|((with_reducible refine gr_setN ?_ ?_ _ _);rotate_left;(first|omega|(simp;omega)|simp))))⟩;rw[hres.out];rfl
        ·have hne:=xhd (num_int (pf:=pf) Hst.out HF.out (by simpa using hd0) (by simpa using hp1) (by simpa using hp2) (by simpa using ha1) (by simpa using hd1))
         clear hd0' hp0' ha0' hq1 had;go_wp2_with fail
         refine(atoi_any W0 _ HI.out (by exact HE1.out) s (by omega)).mono ?_;rintro e w1⟨hg1,⟨v,hv,rfl⟩|⟨v,N,hv,rfl⟩⟩
         ·have HZ1:=xhd ((hg1.block w.heap.size (xgl HZ.out) (by simp)).trans HZ.out)
          clear z0 z1 z2 z3 z4 z5 z6 zf;obtain⟨z0,z1,z2,z3,z4,z5,z6,zf⟩:=zb_cells HZ1.out;have HG1:=xhd (gr_noneThen (show w.grownBy wr none from HG.out) hg1 (fun j hj=>by cases hj));have Hv:=xhd hv;clear hv
          rcases xbt (decide (2147483647<v)) with hv1|hv1
          ·go_wp2_with fail
           refine bodyPost_ret (v:=.tuple #[numV 0 0 0,.int .i64 2]) (by simp[results,Tryz.results63,go_sem,numV,z0,z1,z2,z3,z4,z5,z6]) rfl ⟨?_,(by repeat (first|with_reducible exact HG1.out|with_reducible exact HG.out|with_reducible apply gr_alloc|with_reducible apply gr_drewN|with_reducible apply gr_drew|((with_reducible refine gr_setN ?_ ?_ _ _);rotate_left;(first|omega|(simp;omega)|simp))))⟩;rw[hne.out.1 v (by rw[←Hl.out];exact Hv.out),if_pos (.inl (by simpa using hv1))];rfl
          ·rcases xbt (decide (v < -2147483648)) with hv2|hv2
           ·go_wp2_with fail
            refine bodyPost_ret (v:=.tuple #[numV 0 0 0,.int .i64 2]) (by simp[results,Tryz.results63,go_sem,numV,z0,z1,z2,z3,z4,z5,z6]) rfl ⟨?_,(by repeat (first|with_reducible exact HG1.out|with_reducible exact HG.out|with_reducible apply gr_alloc|with_reducible apply gr_drewN|with_reducible apply gr_drew|((with_reducible refine gr_setN ?_ ?_ _ _);rotate_left;(first|omega|(simp;omega)|simp))))⟩;rw[hne.out.1 v (by rw[←Hl.out];exact Hv.out),if_pos (.inr (by simpa using hv2))];rfl
           ·go_wp2_with fail
            refine bodyPost_ret (v:=.tuple #[numV 2 v 0,.int .i64 0]) (by simp[results,Tryz.results63,go_sem,numV,z0,z1,z2,z3,z4,z5,z6]) rfl ⟨?_,(by repeat (first|with_reducible exact HG1.out|with_reducible exact HG.out|with_reducible apply gr_alloc|with_reducible apply gr_drewN|with_reducible apply gr_drew|((with_reducible refine gr_setN ?_ ?_ _ _);rotate_left;(first|omega|(simp;omega)|simp))))⟩;rw[hne.out.1 v (by rw[←Hl.out];exact Hv.out),if_neg (by simp at hv1 hv2;omega)];rfl
         ·have HZ1:=xhd ((hg1.block w.heap.size (xgl HZ.out) (by simp)).trans HZ.out)
          clear z0 z1 z2 z3 z4 z5 z6 zf;obtain⟨z0,z1,z2,z3,z4,z5,z6,zf⟩:=zb_cells HZ1.out;have HG1:=xhd (gr_noneThen (show w.grownBy wr none from HG.out) hg1 (fun j hj=>by cases hj));have Hv:=xhd hv;clear hv
          go_wp2_with fail
          refine bodyPost_ret (v:=.tuple #[numV 0 0 0,.int .i64 2]) (by simp[results,Tryz.results63,go_sem,numV,z0,z1,z2,z3,z4,z5,z6]) rfl ⟨?_,(by repeat (first|with_reducible exact HG1.out|with_reducible exact HG.out|with_reducible apply gr_alloc|with_reducible apply gr_drewN|with_reducible apply gr_drew|((with_reducible refine gr_setN ?_ ?_ _ _);rotate_left;(first|omega|(simp;omega)|simp))))⟩;rw[hne.out.2 (by rw[←Hl.out];exact Hv.out)];rfl
   | cons c3 l3 =>
    obtain⟨hlt3,hc3,hd3,hr3,hr4⟩:=at_byte HS.out
    try (exfalso;omega)
    all_goals
     cases hdg:isDig (c3.toNat:Int)
     ·rcases xbt ((c3.toNat:Int)==46) with hpt|hpt
      ·go_wp2_with (go_at_call 75;refine(digit_eq hdg _).mono ?_;rintro e w'⟨rfl,hw'⟩;subst w')
       go_roundg l3.length
       case measure=>rw[Hg.out];simp
       case rel =>
        refine⟨q++[c3],l3,d,p+1,a,rfl,rfl,rfl,rfl,by rw[←List.append_assoc,←Hpq.out];simp,⟨by rw[←List.append_assoc,←Hpq.out,HS.out];simp,?_,HG.out,HZ.out,by omega,by omega,by omega,by simp;omega,by omega⟩⟩;rw[←HF.out];simp[numScan,hdg,hpt]
      ·obtain⟨z0,z1,z2,z3,z4,z5,z6,zf⟩:=zb_cells HZ.out
       go_wp2_with fail
       refine(digit_eq hdg _).mono ?_;rintro e w'⟨rfl,hw'⟩;subst w';go_wp2_with fail
       refine bodyPost_ret (v:=.tuple #[numV 0 0 0,.int .i64 1]) (by simp[results,Tryz.results63,go_sem,numV,z0,z1,z2,z3,z4,z5,z6]) rfl ⟨?_,(by repeat (first|with_reducible exact HG1.out|with_reducible exact HG.out|with_reducible apply gr_alloc|with_reducible apply gr_drewN|with_reducible apply gr_drew|((with_reducible refine gr_setN ?_ ?_ _ _);rotate_left;(first|omega|(simp;omega)|simp))))⟩;have hN:numScan (L0) 0 0 0=none:=by rw[←HF.out];simp[numScan,hdg,hpt]
       rw[numF_none Hst.out hN];rfl
     ·rcases xbt (p==0) with hp0|hp0
      ·go_wp2_with (go_at_call 75;refine(digit_eq hdg _).mono ?_;rintro e w'⟨rfl,hw'⟩;subst w')
       go_roundg l3.length
       case measure=>rw[Hg.out];simp
       case rel =>
        refine⟨q++[c3],l3,d+1,p,a+1,rfl,rfl,rfl,rfl,by rw[←List.append_assoc,←Hpq.out];simp,⟨by rw[←List.append_assoc,←Hpq.out,HS.out];simp,?_,HG.out,HZ.out,by omega,by omega,by omega,by simp;omega,by omega⟩⟩;simp only[beq_iff_eq]at hp0;rw[←HF.out];simp[numScan,hdg,hp0]
      ·go_wp2_with (go_at_call 75;refine(digit_eq hdg _).mono ?_;rintro e w'⟨rfl,hw'⟩;subst w')
       go_roundg l3.length
       case measure=>rw[Hg.out];simp
       case rel =>
        refine⟨q++[c3],l3,d+1,p,a,rfl,rfl,rfl,rfl,by rw[←List.append_assoc,←Hpq.out];simp,⟨by rw[←List.append_assoc,←Hpq.out,HS.out];simp,?_,HG.out,HZ.out,by omega,by omega,by omega,by simp;omega,by omega⟩⟩;simp only[beq_eq_false_iff_ne]at hp0;rw[←HF.out];simp[numScan,hdg,hp0]
end Go.Proofs.YtfkecmlmnhbmoaaGreatDoor
