/- Parts F5 P7 P8. -/
import Derived.Test.YtfkecmlmnhbmoaaGreatDoorX7
set_option linter.unusedVariables false
set_option linter.unusedSimpArgs false
set_option maxRecDepth 100000
set_option maxHeartbeats 40000000
namespace Go.Proofs.YtfkecmlmnhbmoaaGreatDoor
open Go Go.RowKit
theorem a2E (k:Nat):((2:Int)^k)=((2^k:Nat):Int):=by simp
theorem b6a {n k:Nat}(h:n<2^k):(((n:Int)/2^k)==0)=true:=by
 rw[a2E,←Int.natCast_ediv,Nat.div_eq_of_lt h];rfl
theorem b5Z {n k:Nat}(h:2^k≤n):(((n:Int)/2^k)==0)=false:=by
 have h1:1≤n/2^k:=(Nat.le_div_iff_mul_le (Nat.pow_pos (by decide))).2 (by omega);rw[a2E,←Int.natCast_ediv];simp only[beq_eq_false_iff_ne,ne_eq];omega
theorem a4Z {n M k:Nat}(hM:M=2^k-1)(hk:k≤60)(hn:n<18446744073709551616):bits .and .u64 (n:Int) (M:Int)=((n%2^k:Nat):Int):=by
 have h60:2^k≤1152921504606846976:=Nat.le_trans (Nat.pow_le_pow_right (by decide) hk) (by decide);rw[bits_and_u64_nat n M hn (by omega),hM,Nat.and_two_pow_sub_one_eq_mod]
theorem b9R {Ql A:By}{wq:Nat}(h:Ql.length=wq)(hl:wq<A.length)(c:UInt8):(Ql++A.drop wq).set wq c=(Ql++[c])++A.drop (wq+1):=by
 rw[List.set_append_right _ _ (by omega),h,Nat.sub_self,List.drop_eq_getElem_cons hl,List.set_cons_zero];simp
theorem a5x {q:Nat}(h:q≤9):(UInt8.ofNat (q+48)).toNat=q+48:=by rw[UInt8.toNat_ofNat'];omega
theorem a0O.put {w:World}{b:Nat}{A Ql:By}{wq nd:Nat}{dp:Int}{neg tr:Bool}(h:a0O w b (Ql++A.drop wq) nd dp neg tr)(hq:Ql.length=wq)(hl:wq<A.length)(hA:A.length=800){q:Nat}(h9:q≤9) :
  a0O (w.setCell ⟨b,wq,none⟩ (.int .u8 ((q:Int)+48))) b ((Ql++[UInt8.ofNat (q+48)])++A.drop (wq+1)) nd dp neg tr:=by
 have:=h.setDig (i:=wq) (by omega) (UInt8.ofNat (q+48));rw[b9R hq hl,a5x h9]at this;simpa using this
theorem a7E {Ql:By}{q:Nat}(h9:q≤9):dv (Ql++[UInt8.ofNat (q+48)])=10*dv Ql+q:=by rw[a6V,a5x h9];omega
theorem a4f {Ql:By}{q:Nat}(h:isDs Ql)(h9:q≤9):isDs (Ql++[UInt8.ofNat (q+48)]):=a5F h (by rw[a5x h9];omega) (by rw[a5x h9];omega)
theorem a5b {X k D n q m d:Nat}(h:X=10*2^k*D+n)(hq:q=n/2^k)(hm:m=n%2^k)(hd:d≤9):10*X+d=10*2^k*(10*D+q)+(m*10+d)∧m*10+d<10*2^k:=by
 have hp:0<2^k:=Nat.pow_pos (by decide);have h1:=Nat.div_add_mod n (2^k);have h2:=Nat.mod_lt n hp;rw[←hq,←hm]at h1;rw[←hm]at h2;generalize 2^k=p at *;refine⟨?_,by omega⟩;rw[h,←h1,Nat.mul_add,Nat.mul_add (10*p)];have e1:10*(10*p*D)=10*p*(10*D):=by rw[Nat.mul_left_comm (10*p),]
 rw[e1,Nat.mul_assoc 10 p q];omega
theorem a4N {k:IntKind}{a b:Int}(h:a=b):Value.int k a=.int k b:=by rw[h]
theorem b9O (w : World)(b : Nat)(A : By)(nd : Nat)(dp : Int)(neg tr : Bool)(k : Nat)(hk1 : 1 ≤ k)(hk2 : k ≤ 60)(hD : a0O w b A nd dp neg tr)(hds : isDs (A.take nd))(hnd : nd + k ≤ 799)(hn1 : 1 ≤ nd)(hN0 : dv (A.take nd) ≠ 0)(hN : numD (dv (A.take nd)) = nd)(hdp1 : -100000 ≤ dp)(hdp2 : dp ≤ 100000) :
  Calls Tryz.prog 173 #[.pointer (some ⟨b,0,none⟩),.int .u64 k] w fun e w'=>e=.returned (.tuple #[])∧DecN w' b (rsN k (dv (A.take nd))) (rsP k (dv (A.take nd)) dp) neg tr∧w.grownBy w' (some b):=by
 have hA800:=hD.1;generalize hR1:rsN k (dv (A.take nd))=R1;generalize hR2:rsP k (dv (A.take nd)) dp=R2;obtain⟨HR1,HR2⟩:=xh2 hR1 hR2;clear hR1 hR2
 obtain⟨c0,c1,c2,c3,cf⟩:=hD.cells;have hlen:nd≤A.length:=by have:=hD.1;omega
 have h60:2^k≤1152921504606846976:=Nat.le_trans (Nat.pow_le_pow_right (by decide) hk2) (by decide);obtain⟨HD,Hds,HN0,HN,Hlen⟩:=xh5 hD hds hN0 hN hlen;clear hD hds hN0 hN hlen
 have hmask:IntKind.u64.wrap (IntKind.u64.wrap (2^k)-1)=((2^k-1:Nat):Int):=by
  have:=Nat.pow_pos (a:=2) (n:=k) (by decide);rw[a2E];generalize 2^k=p at *;rw[IntWalk.u64_in ((p:Nat):Int) (by omega),IntWalk.u64_in _ (by omega)];omega
 have H60:=xhd h60;clear h60
 obtain⟨M,hM⟩:∃M,M=2^k-1:=⟨_,rfl⟩;rw[←hM]at hmask;have HM:=xhd hM;clear hM
 go_enter Tryz.func173,Tryz.ntmps173;go_wp2_with fail
 go_loopg [4,6] nd (fun g t4 t6 wr=>∃r n:Nat,t4=.int .i64 r∧t6=.int .u64 n∧g=nd-r∧n=pd A nd r∧r≤nd∧(r=0∨pd A nd (r-1)<2^k)∧w=wr)
 case atStart=>exact⟨0,0,rfl,rfl,rfl,(a8T _ _).symm,by omega,.inl rfl,rfl⟩
 case round =>
  obtain⟨r,n,rfl,rfl,hg,hn,hr,hlow,rfl⟩:=hrel;obtain⟨Hg,Hn,Hlow⟩:=xh3 hg hn hlow;clear hg hn hlow
  by_cases hge:2^k≤n
  ·have hb := b5Z hge
   obtain⟨r0,hr0⟩:∃r0,r0=r:=⟨_,rfl⟩;have Hlo:=xhd (show 2^k≤pd A nd r0 by rw[hr0,←Hn.out];exact hge)
   have hr1:1≤r0:=by
    have h:=Hlo.out
    by_cases e:r0=0
    ·rw[e,a8T]at h;have:=Nat.pow_pos (a:=2) (n:=k) (by decide);omega
    ·omega
   have Hhi:=xhd (show pd A nd (r0-1)<2^k by rcases Hlow.out with e|e;omega;rw[hr0];exact e)
   have hn3:n<10*2^k:=by
    have h:=a7i (r:=r0-1) Hlen.out Hds.out;rw[show r0-1+1=r by omega,←Hn.out]at h;have:=Hhi.out;omega
   have Hn3:=xhd hn3;clear hn3
   have Hn9:=xhd (show n=pd A nd r0 by rw[hr0];exact Hn.out);subst hr0;clear hge Hn Hlow Hg;go_wp2_with fail
   have HgN:=xhd (show nd-r0=nd-r0 from rfl)
   go_loopg [4,5,6] (nd-r0) (fun g t4 t5 t6 wr=>∃(r wq n:Nat) (Ql:By),t4=.int .i64 r∧t5=.int .i64 wq∧t6=.int .u64 n∧g=nd-r∧r=r0+wq∧(r≤nd∨r=r0)∧Ql.length=wq∧isDs Ql∧pd A nd r=10*2^k*dv Ql+n∧n<10*2^k∧a0O wr b (Ql++A.drop wq) nd (dp-(r0-1)) neg tr∧w.grownBy wr (some b))
   case atStart=>exact⟨_,0,_,[],rfl,rfl,rfl,HgN.out,by omega,.inr rfl,rfl,(fun _ h=>by cases h),by rw[←Hn9.out];simp[dv],Hn3.out,HD.out.setDp _,a0e (xgr _ _) _ _⟩
   case round =>
    clear c0 c1 c2 c3 cf hb;obtain⟨r,wq,n,Ql,rfl,rfl,rfl,hg,hrw,hrr,hQl,hQd,hpd,hnn,hD2,hG⟩:=hrel;obtain⟨c0,c1,c2,c3,cf⟩:=hD2.cells;obtain⟨HG,Hg,HQl,HQd,Hpd,Hnn⟩:=xh6 hG hg hQl hQd hpd hnn;clear hG hg hQl hQd hpd hnn
    have hwr:wq≤r:=by omega
    have hwr2:wq+1≤799:=by omega
    obtain⟨Hrw,Hrr⟩:=xh2 hrw hrr;clear hrw hrr
    obtain⟨q,hq⟩:∃q,q=n/2^k:=⟨_,rfl⟩;have hqi:(n:Int)/2^k=(q:Int):=by rw[a2E,←Int.natCast_ediv,hq]
    have hq9:q≤9:=by
     have:=(Nat.div_lt_iff_lt_mul (Nat.pow_pos (a:=2) (n:=k) (by decide))).2 Hnn.out;omega
    have Hq:=xhd hq;clear hq
    obtain⟨m,hm⟩:∃m,m=n%2^k:=⟨_,rfl⟩;have hand:bits .and .u64 (n:Int) (M:Int)=(m:Int):=by rw[hm];have h1:=Hnn.out;have h2:=H60.out;exact a4Z HM.out hk2 (by generalize 2^k=p at *;omega)
    have hm2:m≤1152921504606846975:=by have h1:=Nat.mod_lt n (Nat.pow_pos (a:=2) (n:=k) (by decide));have h2:=H60.out;rw[←hm]at h1;generalize 2^k=p at *;omega
    have Hm:=xhd hm;clear hm
    obtain⟨c9,hc9,cw⟩:=hD2.digE (i:=wq) (by omega);clear hc9
    by_cases hrn:r<nd
    ·obtain⟨c,hc,cd⟩:=hD2.digE (i:=r) (by omega)
     have hc5:A.getD r 0=c:=by
      rw[←hc];simp only[List.getD_eq_getElem?_getD];rw[List.getElem?_append_right (by rw[HQl.out];omega),List.getElem?_drop,HQl.out,show wq+(r-wq)=r by omega]
     have hc2:=a3m Hds.out hrn Hlen.out;rw[hc5]at hc2;obtain⟨hc3,hc4⟩:=hc2;obtain⟨Hc5,HD2,Hc⟩:=xh3 hc5 hD2 hc;clear hc5 hD2 hc
     go_wp2_with fail
     go_roundg (nd-(r+1))
     case measure=>rw[Hg.out];omega
     case rel =>
      have hst:=a5b (d:=c.toNat-48) Hpd.out Hq.out Hm.out (by omega);refine⟨r+1,wq+1,m*10+(c.toNat-48),Ql++[UInt8.ofNat (q+48)],by go_num,by go_num,a4N (by omega),rfl,by have:=Hrw.out;omega,.inl (by omega),by simp[HQl.out],a4f HQd.out hq9,?_,hst.2,HD2.out.put HQl.out (by omega) hA800 hq9,(by repeat (first|exact HG.out|apply a0e|apply a0b|apply a0d|apply a0a))⟩;rw[b2v hrn Hlen.out,Hc5.out,a7E hq9];exact hst.1
    ·have HD2 := xhd hD2; clear hD2
     have hwk:wq+(k+1)≤nd+k:=by have:=Hrw.out;have:=Hrr.out;omega
     go_wp2_with fail
     have Hst:=xhd (show n=0∨∃j,2^j ∣ n∧j+(k+1)=k+1∧j≤k from .inr ⟨0,by simp,by omega,by omega⟩);have Hnr:=xhd (show nd≤r0+wq by have:=Hrw.out;omega)
     go_loopg [5,6] (k+1) (fun g t5 t6 wr=>∃(wq n:Nat) (Ql:By),t5=.int .i64 wq∧t6=.int .u64 n∧wq+g≤nd+k∧nd≤r0+wq∧(n=0∨∃j,2^j ∣ n∧j+g=k+1∧j≤k)∧Ql.length=wq∧isDs Ql∧pd A nd (r0+wq)=10*2^k*dv Ql+n∧n<10*2^k∧a0O wr b (Ql++A.drop wq) nd (dp-(r0-1)) neg tr∧w.grownBy wr (some b))
     case atStart=>exact⟨wq,n,Ql,rfl,rfl,hwk,Hnr.out,Hst.out,HQl.out,HQd.out,by rw[←Hrw.out];exact Hpd.out,Hnn.out,HD2.out,HG.out⟩
     case round =>
      clear c0 c1 c2 c3 cf cw hqi hq9 hand hm2 hwk Hst Hnr HQl HQd Hpd Hnn HD2 HG Hq Hm Hrw Hrr Hg hwr hwr2 hrn;obtain⟨wq,n,Ql,rfl,rfl,hwg,hnr,hj,hQl,hQd,hpd,hnn,hD2,hG⟩:=hrel;obtain⟨c0,c1,c2,c3,cf⟩:=hD2.cells;obtain⟨HG,Hj,Hnr,HQl,HQd,Hpd,Hnn⟩:=xh7 hG hj hnr hQl hQd hpd hnn;clear hG hj hnr hQl hQd hpd hnn
      by_cases hn0:0<n
      ·obtain⟨q,hq⟩:∃q,q=n/2^k:=⟨_,rfl⟩
       have hqi:(n:Int)/2^k=(q:Int):=by rw[a2E,←Int.natCast_ediv,hq]
       have hq9:q≤9:=by
        have:=(Nat.div_lt_iff_lt_mul (Nat.pow_pos (a:=2) (n:=k) (by decide))).2 Hnn.out;omega
       have Hq:=xhd hq;clear hq
       obtain⟨m,hm⟩:∃m,m=n%2^k:=⟨_,rfl⟩;have hand:bits .and .u64 (n:Int) (M:Int)=(m:Int):=by rw[hm];have h1:=Hnn.out;have h2:=H60.out;exact a4Z HM.out hk2 (by generalize 2^k=p at *;omega)
       have hm2:m≤1152921504606846975:=by have h1:=Nat.mod_lt n (Nat.pow_pos (a:=2) (n:=k) (by decide));have h2:=H60.out;rw[←hm]at h1;generalize 2^k=p at *;omega
       have Hm:=xhd hm;clear hm
       obtain⟨g1,hg1⟩:∃g1,gk=g1+1:=by
        rcases Hj.out with e|⟨j,_,e,e2⟩
        ·omega
        ·exact⟨gk-1,by omega⟩
       have hw9:wq+1≤799:=by omega
       obtain⟨c9,hc9,cw⟩:=hD2.digE (i:=wq) (by omega);clear hc9;obtain⟨HD2,Hg1⟩:=xh2 hD2 hg1;clear hD2 hg1
       go_wp2_with fail
       go_roundg g1
       case measure=>have:=Hg1.out;omega
       case rel =>
        have hst:=a5b (d:=0) Hpd.out Hq.out Hm.out (by omega);refine⟨wq+1,m*10,Ql++[UInt8.ofNat (q+48)],by go_num,a4N (by omega),by have:=Hg1.out;omega,by have:=Hnr.out;omega,?_,by simp[HQl.out],a4f HQd.out hq9,?_,by omega,HD2.out.put HQl.out (by omega) hA800 hq9,(by repeat (first|exact HG.out|apply a0e|apply a0b|apply a0d|apply a0a))⟩
        ·by_cases hm0:m=0
         ·left;omega
         ·right
          rcases Hj.out with e|⟨j,hdv,e,e2⟩
          ·omega
          ·have hjk:j<k:=by
            by_cases hjk:j<k
            ·exact hjk
            ·exfalso
             obtain rfl:j=k:=by omega
             exact hm0 (by rw[Hm.out];exact Nat.mod_eq_zero_of_dvd hdv)
           refine⟨j+1,?_,by have:=Hg1.out;omega,by omega⟩;rw[Hm.out,Nat.pow_succ];have h1:2^j ∣ n%2^k:=(Nat.dvd_mod_iff (Nat.pow_dvd_pow 2 (by omega))).2 hdv;obtain⟨x,hx⟩:=h1;exact⟨5*x,by rw[hx,Nat.mul_assoc,Nat.mul_assoc];congr 1;omega⟩
        ·rw[show r0+(wq+1)=r0+wq+1 by omega,b4B Hnr.out,a7E hq9];have:=hst.1;omega
      ·obtain rfl:n=0:=by omega
       have HD2:=xhd hD2;clear hD2
       go_wp2_with fail
       refine(a4v _ b (Ql++A.drop wq) wq (dp-(r0-1)) neg tr (by exact HD2.out.setNd wq) (by omega)).mono ?_;rintro e w9⟨rfl,hD9,hg9⟩;go_wp2_with fail
       go_end0;have hQ1:(Ql++A.drop wq).take wq=Ql:=by rw[←HQl.out];simp
       have hwq1:1≤wq:=by
        by_cases e:wq=0
        ·exfalso
         have h1:=Hpd.out;have h2:=HQl.out;rw[e]at h2;rw[List.eq_nil_of_length_eq_zero h2,e]at h1;have h3:=Hlo.out;have:=Nat.pow_pos (a:=2) (n:=k) (by decide);simp[dv]at h1;omega
        ·omega
       obtain⟨f1,f2,f3,f4⟩:=a8f (w:=wq) (Q:=dv Ql) dp Hlen.out Hds.out HN.out HN0.out hr1 Hlo.out Hhi.out Hnr.out hwq1 (by have:=Hpd.out;omega);rw[HR1.out]at f3;rw[HR2.out]at f4;have hT:=a3I wq (Ql++A.drop wq) (by rw[List.length_append,List.length_drop,HQl.out,hA800];omega) (by rw[hQ1];exact HQd.out) (by rw[hQ1];exact f1) (by rw[hQ1];exact f2);rw[hQ1,f3]at hT;have hR0:R1≠0:=by rw[←f3];exact a2B f1
       have hR9:numD R1≠0:=by have:=a0N hR0;omega
       rw[hT.1]at hD9;have hdp9:dpN (numD R1) (dp-(r0-1))=R2:=by unfold dpN;rw[if_neg hR9,←f4];omega
       rw[hdp9]at hD9;refine⟨rfl,⟨?_,_,hD9,?_,?_⟩,(a0e HG.out _ _).trans hg9⟩
       ·rw[←hT.1];have:=a2s (Ql++A.drop wq) wq;omega
       ·rw[←hT.1];exact a3n (n:=wq) (by rw[hQ1];exact HQd.out) (a2s _ _)
       ·rw[←hT.1];exact hT.2
  ·have hlt : n < 2 ^ k := by omega
   have hb:=b6a hlt;have hn2:n≤1152921504606846975:=by have:=H60.out;omega
   have Hlt:=xhd hlt;clear hge hlt
   by_cases hrn:r<nd
   ·obtain⟨c,hc,cd⟩:=HD.out.digE (i:=r) (by omega)
    have hc2:=a3m Hds.out hrn Hlen.out;rw[hc]at hc2;obtain⟨hc3,hc4⟩:=hc2;have Hc:=xhd hc;clear hc
    go_wp2_with fail
    go_roundg (nd-(r+1))
    case measure=>rw[Hg.out];omega
    case rel =>
     refine⟨r+1,n*10+(c.toNat-48),by go_num,a4N (by omega),rfl,?_,by omega,.inr ?_,rfl⟩
     ·rw[b2v hrn Hlen.out,Hc.out,←Hn.out];omega
     ·rw[Nat.add_sub_cancel,←Hn.out];exact Hlt.out
   ·obtain rfl : r = nd := by omega
    have hn0:((n:Int)==0)=false:=by
     have:=HN0.out;have:=b9z A r;have:=Hn.out;simp;omega
    go_wp2_with fail
    have hlow2:pd A r (r-1)<2^k:=by rcases Hlow.out with e|e;omega;exact e
    have Hlow2:=xhd hlow2;have hn1':1≤n:=by simp at hn0;omega
    obtain⟨nd,hnd0⟩:∃nd,nd=r:=⟨_,rfl⟩;subst hnd0;have Hg9:=xhd (show 2^k-n=2^k-n from rfl);clear hlow2 hb hn2 Hlt Hlow Hg
    go_loopg [4,6] (2^k-n) (fun g t4 t6 wr=>∃r n j:Nat,t4=.int .i64 r∧t6=.int .u64 n∧g=2^k-n∧r=nd+j∧j≤19∧10^j≤n∧n=pd A nd r∧(r=0∨pd A nd (r-1)<2^k)∧w=wr)
    case atStart=>exact⟨nd,n,0,rfl,rfl,Hg9.out,rfl,by omega,by simpa using hn1',Hn.out,.inr Hlow2.out,rfl⟩
    case round =>
     clear Hn Hlow2 Hg9 hn0 hn1';obtain⟨r,n,j,rfl,rfl,hg,hrj,hj19,hjn,hn,hlow,rfl⟩:=hrel;obtain⟨Hg,Hn,Hlow,Hjn⟩:=xh4 hg hn hlow hjn;clear hg hn hlow hjn
     have hrb:r≤818:=by omega
     have Hrj:=xhd hrj;have hrnd:nd≤r:=by omega
     clear hrj
     by_cases hge:2^k≤n
     ·have hb := b5Z hge
      obtain⟨r0,hr0⟩:∃r0,r0=r:=⟨_,rfl⟩;have Hlo:=xhd (show 2^k≤pd A nd r0 by rw[hr0,←Hn.out];exact hge)
      have hr1:1≤r0:=by
       have h:=Hlo.out
       by_cases e:r0=0
       ·rw[e,a8T]at h;have:=Nat.pow_pos (a:=2) (n:=k) (by decide);omega
       ·omega
      have Hhi:=xhd (show pd A nd (r0-1)<2^k by rcases Hlow.out with e|e;omega;rw[hr0];exact e)
      have hn3:n<10*2^k:=by
       have h:=a7i (r:=r0-1) Hlen.out Hds.out;rw[show r0-1+1=r by omega,←Hn.out]at h;have:=Hhi.out;omega
      have Hn3:=xhd hn3;clear hn3
      have Hn9:=xhd (show n=pd A nd r0 by rw[hr0];exact Hn.out);subst hr0;clear hge Hn Hlow Hg;go_wp2_with fail
      have HgN:=xhd (show nd-r0=nd-r0 from rfl)
      go_loopg [4,5,6] (nd-r0) (fun g t4 t5 t6 wr=>∃(r wq n:Nat) (Ql:By),t4=.int .i64 r∧t5=.int .i64 wq∧t6=.int .u64 n∧g=nd-r∧r=r0+wq∧(r≤nd∨r=r0)∧Ql.length=wq∧isDs Ql∧pd A nd r=10*2^k*dv Ql+n∧n<10*2^k∧a0O wr b (Ql++A.drop wq) nd (dp-(r0-1)) neg tr∧w.grownBy wr (some b))
      case atStart=>exact⟨_,0,_,[],rfl,rfl,rfl,HgN.out,by omega,.inr rfl,rfl,(fun _ h=>by cases h),by rw[←Hn9.out];simp[dv],Hn3.out,HD.out.setDp _,a0e (xgr _ _) _ _⟩
      case round =>
       clear c0 c1 c2 c3 cf hb;obtain⟨r,wq,n,Ql,rfl,rfl,rfl,hg,hrw,hrr,hQl,hQd,hpd,hnn,hD2,hG⟩:=hrel;obtain⟨c0,c1,c2,c3,cf⟩:=hD2.cells;obtain⟨HG,Hg,HQl,HQd,Hpd,Hnn⟩:=xh6 hG hg hQl hQd hpd hnn;clear hG hg hQl hQd hpd hnn
       have hwr:wq≤r:=by omega
       have hwr2:wq+1≤799:=by omega
       obtain⟨Hrw,Hrr⟩:=xh2 hrw hrr;clear hrw hrr
       obtain⟨q,hq⟩:∃q,q=n/2^k:=⟨_,rfl⟩;have hqi:(n:Int)/2^k=(q:Int):=by rw[a2E,←Int.natCast_ediv,hq]
       have hq9:q≤9:=by
        have:=(Nat.div_lt_iff_lt_mul (Nat.pow_pos (a:=2) (n:=k) (by decide))).2 Hnn.out;omega
       have Hq:=xhd hq;clear hq
       obtain⟨m,hm⟩:∃m,m=n%2^k:=⟨_,rfl⟩;have hand:bits .and .u64 (n:Int) (M:Int)=(m:Int):=by rw[hm];have h1:=Hnn.out;have h2:=H60.out;exact a4Z HM.out hk2 (by generalize 2^k=p at *;omega)
       have hm2:m≤1152921504606846975:=by have h1:=Nat.mod_lt n (Nat.pow_pos (a:=2) (n:=k) (by decide));have h2:=H60.out;rw[←hm]at h1;generalize 2^k=p at *;omega
       have Hm:=xhd hm;clear hm
       obtain⟨c9,hc9,cw⟩:=hD2.digE (i:=wq) (by omega);clear hc9
       by_cases hrn:r<nd
       ·obtain⟨c,hc,cd⟩:=hD2.digE (i:=r) (by omega)
        have hc5:A.getD r 0=c:=by
         rw[←hc];simp only[List.getD_eq_getElem?_getD];rw[List.getElem?_append_right (by rw[HQl.out];omega),List.getElem?_drop,HQl.out,show wq+(r-wq)=r by omega]
        have hc2:=a3m Hds.out hrn Hlen.out;rw[hc5]at hc2;obtain⟨hc3,hc4⟩:=hc2;obtain⟨Hc5,HD2,Hc⟩:=xh3 hc5 hD2 hc;clear hc5 hD2 hc
        go_wp2_with fail
        go_roundg (nd-(r+1))
        case measure=>rw[Hg.out];omega
        case rel =>
         have hst:=a5b (d:=c.toNat-48) Hpd.out Hq.out Hm.out (by omega);refine⟨r+1,wq+1,m*10+(c.toNat-48),Ql++[UInt8.ofNat (q+48)],by go_num,by go_num,a4N (by omega),rfl,by have:=Hrw.out;omega,.inl (by omega),by simp[HQl.out],a4f HQd.out hq9,?_,hst.2,HD2.out.put HQl.out (by omega) hA800 hq9,(by repeat (first|exact HG.out|apply a0e|apply a0b|apply a0d|apply a0a))⟩;rw[b2v hrn Hlen.out,Hc5.out,a7E hq9];exact hst.1
       ·have HD2 := xhd hD2; clear hD2
        have hwk:wq+(k+1)≤nd+k:=by have:=Hrw.out;have:=Hrr.out;omega
        go_wp2_with fail
        have Hst:=xhd (show n=0∨∃j,2^j ∣ n∧j+(k+1)=k+1∧j≤k from .inr ⟨0,by simp,by omega,by omega⟩);have Hnr:=xhd (show nd≤r0+wq by have:=Hrw.out;omega)
        go_loopg [5,6] (k+1) (fun g t5 t6 wr=>∃(wq n:Nat) (Ql:By),t5=.int .i64 wq∧t6=.int .u64 n∧wq+g≤nd+k∧nd≤r0+wq∧(n=0∨∃j,2^j ∣ n∧j+g=k+1∧j≤k)∧Ql.length=wq∧isDs Ql∧pd A nd (r0+wq)=10*2^k*dv Ql+n∧n<10*2^k∧a0O wr b (Ql++A.drop wq) nd (dp-(r0-1)) neg tr∧w.grownBy wr (some b))
        case atStart=>exact⟨wq,n,Ql,rfl,rfl,hwk,Hnr.out,Hst.out,HQl.out,HQd.out,by rw[←Hrw.out];exact Hpd.out,Hnn.out,HD2.out,HG.out⟩
        case round =>
         clear c0 c1 c2 c3 cf cw hqi hq9 hand hm2 hwk Hst Hnr HQl HQd Hpd Hnn HD2 HG Hq Hm Hrw Hrr Hg hwr hwr2 hrn;obtain⟨wq,n,Ql,rfl,rfl,hwg,hnr,hj,hQl,hQd,hpd,hnn,hD2,hG⟩:=hrel;obtain⟨c0,c1,c2,c3,cf⟩:=hD2.cells;obtain⟨HG,Hj,Hnr,HQl,HQd,Hpd,Hnn⟩:=xh7 hG hj hnr hQl hQd hpd hnn;clear hG hj hnr hQl hQd hpd hnn
         by_cases hn0:0<n
         ·obtain⟨q,hq⟩:∃q,q=n/2^k:=⟨_,rfl⟩
          have hqi:(n:Int)/2^k=(q:Int):=by rw[a2E,←Int.natCast_ediv,hq]
          have hq9:q≤9:=by
           have:=(Nat.div_lt_iff_lt_mul (Nat.pow_pos (a:=2) (n:=k) (by decide))).2 Hnn.out;omega
          have Hq:=xhd hq;clear hq
          obtain⟨m,hm⟩:∃m,m=n%2^k:=⟨_,rfl⟩;have hand:bits .and .u64 (n:Int) (M:Int)=(m:Int):=by rw[hm];have h1:=Hnn.out;have h2:=H60.out;exact a4Z HM.out hk2 (by generalize 2^k=p at *;omega)
          have hm2:m≤1152921504606846975:=by have h1:=Nat.mod_lt n (Nat.pow_pos (a:=2) (n:=k) (by decide));have h2:=H60.out;rw[←hm]at h1;generalize 2^k=p at *;omega
          have Hm:=xhd hm;clear hm
          obtain⟨g1,hg1⟩:∃g1,gk=g1+1:=by
           rcases Hj.out with e|⟨j,_,e,e2⟩
           ·omega
           ·exact⟨gk-1,by omega⟩
          have hw9:wq+1≤799:=by omega
          obtain⟨c9,hc9,cw⟩:=hD2.digE (i:=wq) (by omega);clear hc9;obtain⟨HD2,Hg1⟩:=xh2 hD2 hg1;clear hD2 hg1
          go_wp2_with fail
          go_roundg g1
          case measure=>have:=Hg1.out;omega
          case rel =>
           have hst:=a5b (d:=0) Hpd.out Hq.out Hm.out (by omega);refine⟨wq+1,m*10,Ql++[UInt8.ofNat (q+48)],by go_num,a4N (by omega),by have:=Hg1.out;omega,by have:=Hnr.out;omega,?_,by simp[HQl.out],a4f HQd.out hq9,?_,by omega,HD2.out.put HQl.out (by omega) hA800 hq9,(by repeat (first|exact HG.out|apply a0e|apply a0b|apply a0d|apply a0a))⟩
           ·by_cases hm0:m=0
            ·left;omega
            ·right
             rcases Hj.out with e|⟨j,hdv,e,e2⟩
             ·omega
             ·have hjk:j<k:=by
               by_cases hjk:j<k
               ·exact hjk
               ·exfalso
                obtain rfl:j=k:=by omega
                exact hm0 (by rw[Hm.out];exact Nat.mod_eq_zero_of_dvd hdv)
              refine⟨j+1,?_,by have:=Hg1.out;omega,by omega⟩;rw[Hm.out,Nat.pow_succ];have h1:2^j ∣ n%2^k:=(Nat.dvd_mod_iff (Nat.pow_dvd_pow 2 (by omega))).2 hdv;obtain⟨x,hx⟩:=h1;exact⟨5*x,by rw[hx,Nat.mul_assoc,Nat.mul_assoc];congr 1;omega⟩
           ·rw[show r0+(wq+1)=r0+wq+1 by omega,b4B Hnr.out,a7E hq9];have:=hst.1;omega
         ·obtain rfl:n=0:=by omega
          have HD2:=xhd hD2;clear hD2
          go_wp2_with fail
          refine(a4v _ b (Ql++A.drop wq) wq (dp-(r0-1)) neg tr (by exact HD2.out.setNd wq) (by omega)).mono ?_;rintro e w9⟨rfl,hD9,hg9⟩;go_wp2_with fail
          go_end0;have hQ1:(Ql++A.drop wq).take wq=Ql:=by rw[←HQl.out];simp
          have hwq1:1≤wq:=by
           by_cases e:wq=0
           ·exfalso
            have h1:=Hpd.out;have h2:=HQl.out;rw[e]at h2;rw[List.eq_nil_of_length_eq_zero h2,e]at h1;have h3:=Hlo.out;have:=Nat.pow_pos (a:=2) (n:=k) (by decide);simp[dv]at h1;omega
           ·omega
          obtain⟨f1,f2,f3,f4⟩:=a8f (w:=wq) (Q:=dv Ql) dp Hlen.out Hds.out HN.out HN0.out hr1 Hlo.out Hhi.out Hnr.out hwq1 (by have:=Hpd.out;omega);rw[HR1.out]at f3;rw[HR2.out]at f4;have hT:=a3I wq (Ql++A.drop wq) (by rw[List.length_append,List.length_drop,HQl.out,hA800];omega) (by rw[hQ1];exact HQd.out) (by rw[hQ1];exact f1) (by rw[hQ1];exact f2);rw[hQ1,f3]at hT;have hR0:R1≠0:=by rw[←f3];exact a2B f1
          have hR9:numD R1≠0:=by have:=a0N hR0;omega
          rw[hT.1]at hD9;have hdp9:dpN (numD R1) (dp-(r0-1))=R2:=by unfold dpN;rw[if_neg hR9,←f4];omega
          rw[hdp9]at hD9;refine⟨rfl,⟨?_,_,hD9,?_,?_⟩,(a0e HG.out _ _).trans hg9⟩
          ·rw[←hT.1];have:=a2s (Ql++A.drop wq) wq;omega
          ·rw[←hT.1];exact a3n (n:=wq) (by rw[hQ1];exact HQd.out) (a2s _ _)
          ·rw[←hT.1];exact hT.2
     ·have hlt:n<2^k:=by omega
      have hb:=b6a hlt;have hn2:n≤1152921504606846975:=by have:=H60.out;omega
      have Hlt:=xhd hlt;clear hge hlt
      have hj9:j<19:=by
       by_cases h:j<19
       ·exact h
       ·obtain rfl:j=19:=by omega
        have h1:=Hjn.out;have:(10:Nat)^19=10000000000000000000:=by decide
        omega
      go_wp2_with fail
      go_roundg (2^k-n*10)
      case measure=>rw[Hg.out];have h1:=Hlt.out;have h2:=Hjn.out;have:=a1a j;omega
      case rel=>exact⟨r+1,n*10,j+1,by go_num,by go_num,rfl,by have:=Hrj.out;omega,by omega,by rw[Nat.pow_succ];exact Nat.mul_le_mul_right _ Hjn.out,by rw[b4B hrnd,←Hn.out];omega,.inr (by rw[Nat.add_sub_cancel,←Hn.out];exact Hlt.out),rfl⟩
end Go.Proofs.YtfkecmlmnhbmoaaGreatDoor
namespace Go.Proofs.YtfkecmlmnhbmoaaGreatDoor
theorem a1R:∀(l:By) (b o:Bool),(a0j b l o).2=false→o=false:=by
 intro l
 induction l with
 | nil=>intro b o h;cases b<;>simpa[a0j] using h
 | cons c l ih =>
  intro b o h
  cases b
  all_goals
   simp only[a0j]at h
   split at h
  ·exact ih _ _ h
  ·split at h
   ·exact ih _ _ h
   ·exact h
  ·exact ih _ _ h
  ·have:=ih _ _ h
   simp at this;exact this.1
theorem a2k:∀(l:By) (o:Bool),a0t l o=false→o=false:=by
 intro l
 induction l with
 | nil=>intro o h;exact h
 | cons c l ih =>
  intro o h;simp only[a0t]at h
  split at h
  ·have:=ih _ h
   simp at this;exact this.1
  ·simp at h;exact h.1
theorem a1g:∀(l:By),a0t l false=false→(∀c∈a0c l,a0Y (c.toNat:Int)=true∧a0s (c.toNat:Int)=true)∧∀c∈(a0k l).head?,a0Y (c.toNat:Int)=false∧(c.toNat:Int)≠123∧(c.toNat:Int)≠125∧(c.toNat:Int)≠41:=by
 intro l
 induction l with
 | nil=>intro h;simp[a0c,a0k]
 | cons c l ih =>
  intro h;simp only[a0t]at h
  by_cases hc:a0Y (c.toNat:Int)=true
  ·rw[if_pos hc]at h
   have hp:=a2k _ _ h;simp at hp;rw[hp]at h;simp only[Bool.or_false,Bool.not_true]at h;obtain⟨h1,h2⟩:=ih h;have e1:a0c (c::l)=c::a0c l:=by simp only[a0c,List.takeWhile_cons,hc,if_true]
   have e2:a0k (c::l)=a0k l:=by simp only[a0k,List.dropWhile_cons,hc,if_true]
   rw[e1,e2];refine⟨fun d hd=>?_,h2⟩;rcases List.mem_cons.1 hd with rfl|hd
   ·exact⟨hc,hp⟩
   ·exact h1 d hd
  ·rw[if_neg hc]at h
   simp at h hc;simp only[a0c,a0k,List.takeWhile_cons,List.dropWhile_cons,hc];simp;exact⟨hc,by omega,by omega,by omega⟩
theorem b0X (l:By):∀c∈(a0k l).head?,a0Y (c.toNat:Int)=false:=by
 intro c hc;unfold a0k at hc;have:=List.head?_dropWhile_not (p:=fun c:UInt8=>a0Y (c.toNat:Int)) l;rw[Option.mem_def]at hc;rw[hc]at this;simpa using this
theorem a3E:∀(l:By) (b o:Bool),∀c∈(a0j b l o).1.head?,a0h (c.toNat:Int)=false∧(c.toNat:Int)≠37:=by
 intro l
 induction l with
 | nil=>intro b o c hc;cases b<;>simp[a0j]at hc
 | cons d l ih =>
  intro b o c hc
  cases b
  all_goals
   simp only[a0j]at hc
   split at hc
  ·exact ih _ _ _ hc
  ·rename_i hw
   split at hc
   ·exact ih _ _ _ hc
   ·rename_i hp
    simp at hc;subst hc
    simp at hw hp;exact⟨hw,hp⟩
  ·exact ih _ _ _ hc
  ·exact ih _ _ _ hc
theorem a8S:∀(l:By) (o:Bool),a0j false l o=a0j false (l.dropWhile fun c=>a0h (c.toNat:Int)) o:=by
 intro l
 induction l with
 | nil=>intro o;rfl
 | cons c l ih =>
  intro o
  by_cases hc:a0h (c.toNat:Int)=true
  ·simp only[List.dropWhile_cons,hc,if_true]
   rw[←ih];simp only[a0j,hc,if_true]
  ·simp only[List.dropWhile_cons,hc]
   simp
theorem b2t:∀(l:By) (r:By),a0j true l false=(r,false)→∃cm rest,l=cm++rest∧(∀c∈cm,a0s (c.toNat:Int)=true)∧(rest=[]∧r=[]∨∃e l2,rest=e::l2∧((e.toNat:Int)=10∨(e.toNat:Int)=13)∧a0j false l2 false=(r,false)):=by
 intro l
 induction l with
 | nil=>intro r h;simp[a0j]at h;exact⟨[],[],rfl,by simp,.inl ⟨rfl,by simp[h]⟩⟩
 | cons c l ih =>
  intro r h;simp only[a0j]at h
  split at h
  ·rename_i hc
   simp at hc;exact⟨[],c::l,rfl,by simp,.inr ⟨c,l,rfl,by omega,h⟩⟩
  ·have hp:=a1R l true (false||!a0s (c.toNat:Int)) (by rw[h])
   rw[hp]at h;obtain⟨cm,rest,rfl,h1,h2⟩:=ih r h;refine⟨c::cm,rest,rfl,fun d hd=>?_,h2⟩;rcases List.mem_cons.1 hd with rfl|hd
   ·simpa using hp
   ·exact h1 d hd
theorem b2l:∀(n:Nat) (l:By) (out:Int),∃q,l=q++(octM n l out).2∧(∀c∈q,48≤(c.toNat:Int)∧(c.toNat:Int)≤55)∧∀m:By,m.head?=(octM n l out).2.head?→octM n (q++m) out=((octM n l out).1,m):=by
 intro n
 induction n with
 | zero=>intro l out;exact⟨[],rfl,by simp,fun m _=>rfl⟩
 | succ n ih =>
  intro l out
  cases l with
  | nil =>
   refine⟨[],rfl,by simp,fun m hm=>?_⟩
   cases m with
   | nil=>rfl
   | cons c m=>simp[octM]at hm
  | cons c l =>
   simp only[octM]
   split
   ·rename_i hc
    obtain⟨q,h1,h2,h3⟩:=ih l (8*out+((c.toNat:Int)-48));refine⟨c::q,by rw[List.cons_append,←h1],fun d hd=>?_,fun m hm=>?_⟩
    ·rcases List.mem_cons.1 hd with rfl|hd
     ·exact hc
     ·exact h2 d hd
    ·simp only[List.cons_append,octM,if_pos hc]
     exact h3 m hm
   ·rename_i hc
    refine⟨[],rfl,by simp,fun m hm=>?_⟩
    cases m with
    | nil=>simp at hm
    | cons d m =>
     simp at hm;subst hm
     simp only[List.nil_append,octM,if_neg hc]
theorem a7G (d:UInt8)(l:By):∃q,l=q++(escF (d::l)).2.2∧(∀c∈q,(c.toNat:Int)=10∨48≤(c.toNat:Int)∧(c.toNat:Int)≤55)∧∀m:By,m.head?=(escF (d::l)).2.2.head?→escF (d::(q++m))=((escF (d::l)).1,(escF (d::l)).2.1,m):=by
 obtain⟨q,h1,h2,h3⟩:=b2l 2 l ((d.toNat:Int)-48);simp only[escF]
 repeat' split
 all_goals first
  | exact⟨[],rfl,by simp,fun m _=>rfl⟩
  | skip
 ·cases l with
  | nil =>
   refine⟨[],rfl,by simp,fun m hm=>?_⟩
   cases m with
   | nil=>rfl
   | cons c m=>simp[a3N]at hm
  | cons e l =>
   simp only[a3N]
   split
   ·rename_i he
    refine⟨[e],rfl,fun c hc=>?_,fun m hm=>?_⟩
    ·simp at hc;subst hc;simp at he;exact .inl he
    ·simp[a3N,he]
   ·rename_i he
    refine⟨[],rfl,by simp,fun m hm=>?_⟩
    cases m with
    | nil=>simp at hm
    | cons c m=>simp at hm;subst hm;simp[a3N,he]
 ·refine⟨q,h1,fun c hc=>.inr (h2 c hc),fun m hm=>?_⟩
  rw[h3 m hm]
def balF:Bool→By→Nat→Option (By×By)
 | _,[],_=>none
 | true,c::l,j=>(balF false l j).map fun r=>(c::r.1,r.2)
 | false,c::l,j =>
  if (c.toNat:Int)==92 then (balF true l j).map fun r=>(c::r.1,r.2)
  else if (c.toNat:Int)==40 then (balF false l (j+1)).map fun r=>(c::r.1,r.2)
  else if (c.toNat:Int)==41 then (if j=1 then some ([],l) else (balF false l (j-1)).map fun r=>(c::r.1,r.2))
  else (balF false l j).map fun r=>(c::r.1,r.2)
theorem a7A:∀(q l:By) (j:Nat),(∀c∈q,(c.toNat:Int)=10∨48≤(c.toNat:Int)∧(c.toNat:Int)≤55)→balF false (q++l) j=(balF false l j).map fun r=>(q++r.1,r.2):=by
 intro q
 induction q with
 | nil=>intro l j h;simp
 | cons c q ih =>
  intro l j h;have hc:=h c (by simp);have e1:((c.toNat:Int)==92)=false:=by simp;omega
  have e2:((c.toNat:Int)==40)=false:=by simp;omega
  have e3:((c.toNat:Int)==41)=false:=by simp;omega
  simp only[List.cons_append,balF,e1,e2,e3];rw[ih l j (fun d hd=>h d (by simp[hd]))]
  cases balF false l j<;>simp
theorem a4u (l:By):∃q,l=q++a2o l∧(∀c∈q,(c.toNat:Int)=10)∧∀m:By,m.head?=(a2o l).head?→a2o (q++m)=m:=by
 cases l with
 | nil =>
  refine⟨[],rfl,by simp,fun m hm=>?_⟩
  cases m with
  | nil=>rfl
  | cons c m=>simp[a2o]at hm
 | cons c l =>
  simp only[a2o]
  split
  ·rename_i hc
   refine⟨[c],rfl,by simpa using hc,fun m _=>(by simp[a2o,hc])⟩
  ·rename_i hc
   refine⟨[],rfl,by simp,fun m hm=>?_⟩
   cases m with
   | nil=>simp at hm
   | cons d m=>simp at hm;subst hm;simp[a2o,hc]
theorem a6v (s r:By):(s++[41]).head?=(s++41::r).head?:=by cases s<;>rfl
theorem b6Z : ∀(n : Nat) (l : By) (j : Nat) (out t r : By), l.length ≤ n → 1 ≤ j → litF l j out = some (t, r) →
  ∃s,l=s++41::r∧balF false l j=some (s,r)∧litF (s++[41]) j out=some (t,[]):=by
 intro n
 induction n with
 | zero =>
  intro l j out t r hl hj h;obtain rfl:l=[]:=List.eq_nil_of_length_eq_zero (by omega);rw[a1I]at h;exact absurd h (by simp)
 | succ n ih =>
  intro l j out t r hl hj h
  cases l with
  | nil=>rw[a1I]at h;exact absurd h (by simp)
  | cons c l =>
   simp only[List.length_cons]at hl;rw[a0M]at h
   by_cases h40:((c.toNat:Int)==40)=true
   ·have hj1:((j:Int)+1==1)=false:=by simp;omega
    have e1:((c.toNat:Int)==92)=false:=by simp at h40⊢;omega
    rw[if_pos h40,hj1]at h;simp only[Bool.false_eq_true,if_false]at h;obtain⟨s,rfl,h2,h3⟩:=ih l (j+1) _ t r (by omega) (by omega) (by simpa using h);refine⟨c::s,rfl,?_,?_⟩
    ·simp only[balF,e1,h40,if_true,h2];rfl
    ·rw[List.cons_append,a0M,if_pos h40,hj1]
     simp only[Bool.false_eq_true,if_false];simpa using h3
   ·rw[if_neg h40]at h
    by_cases h41:((c.toNat:Int)==41)=true
    ·rw[if_pos h41]at h
     have e1:((c.toNat:Int)==92)=false:=by simp at h41⊢;omega
     by_cases hj1:j=1
     ·subst hj1
      simp at h;obtain⟨rfl,rfl⟩:=h;have hc:c=41:=by apply UInt8.toNat_inj.1;simp at h41⊢;omega
      subst hc;refine⟨[],rfl,by simp[balF],by rw[List.nil_append,a0M];simp⟩
     ·have hj2:((j:Int)-1==0)=false:=by simp;omega
      rw[hj2]at h;simp only[Bool.false_eq_true,if_false]at h;obtain⟨s,rfl,h2,h3⟩:=ih l (j-1) _ t r (by omega) (by omega) (by rw[show ((j-1:Nat):Int)=(j:Int)-1 by omega];exact h);refine⟨c::s,rfl,?_,?_⟩
      ·simp only[balF,e1,h40,h41,if_true,if_neg hj1,h2,Bool.false_eq_true,if_false];rfl
      ·rw[List.cons_append,a0M,if_neg h40,if_pos h41,hj2]
       simp only[Bool.false_eq_true,if_false];rw[show ((j-1:Nat):Int)=(j:Int)-1 by omega]at h3;exact h3
    ·rw[if_neg h41]at h
     by_cases h13:((c.toNat:Int)==13)=true
     ·rw[if_pos h13]at h
      have e1:((c.toNat:Int)==92)=false:=by simp at h13⊢;omega
      obtain⟨q,hq1,hq2,hq3⟩:=a4u l;have hlen:=a3H l;obtain⟨s,h1,h2,h3⟩:=ih (a2o l) j _ t r (by omega) hj h;refine⟨c::(q++s),?_,?_,?_⟩
      ·conv=>lhs;rw[hq1,h1]
       simp
      ·simp only[balF,e1,h40,h41,Bool.false_eq_true,if_false]
       rw[hq1,a7A q _ j (fun c hc=>.inl (hq2 c hc)),h2];rfl
      ·rw[List.cons_append,a0M,if_neg h40,if_neg h41,if_pos h13,List.append_assoc,hq3 _ (by rw[h1];exact a6v s r)]
       exact h3
     ·rw[if_neg h13]at h
      by_cases h92:((c.toNat:Int)==92)=true
      ·rw[if_pos h92]at h
       cases l with
       | nil=>simp[escF,a1I]at h
       | cons d l =>
        obtain⟨q,hq1,hq2,hq3⟩:=a7G d l;have hlen:=a3y (d::l);have hlen2:(escF (d::l)).2.2.length≤n:=by omega
        have key:∃out',litF (escF (d::l)).2.2 j out'=some (t,r)∧∀m,(if (escF (d::l)).2.1=true then litF m j (out++[UInt8.ofNat (escF (d::l)).1.toNat]) else litF m j out)=litF m j out':=by
         split at h
         ·rename_i hh;exact⟨_,h,fun m=>by rw[if_pos hh]⟩
         ·rename_i hh;exact⟨_,h,fun m=>by rw[if_neg hh]⟩
        obtain⟨out',h',hm⟩:=key;obtain⟨s,h1,h2,h3⟩:=ih _ j _ t r hlen2 hj h';refine⟨c::d::(q++s),?_,?_,?_⟩
        ·conv=>lhs;rw[hq1,h1]
         simp
        ·simp only[balF,h92,if_true]
         rw[hq1,a7A q _ j hq2,h2];rfl
        ·rw[List.cons_append,a0M,if_neg h40,if_neg h41,if_neg h13,if_pos h92,List.cons_append,List.append_assoc,hq3 _ (by rw[h1];exact a6v s r)]
         rw[hm];exact h3
      ·rw[if_neg h92]at h
       obtain⟨s,rfl,h2,h3⟩:=ih l j _ t r (by omega) hj h;refine⟨c::s,rfl,?_,?_⟩
       ·simp only[balF,h92,h40,h41,Bool.false_eq_true,if_false,h2];rfl
       ·rw[List.cons_append,a0M,if_neg h40,if_neg h41,if_neg h13,if_neg h92]
        exact h3
theorem a6Y:∀(l:By) (od:Bool) (half:Int) (out:By) (o:Bool),(hexF l od half out o).2.2.2=false→o=false:=by
 intro l
 induction l with
 | nil=>intro od half out o h;exact h
 | cons c l ih =>
  intro od half out o h;simp only[hexF]at h
  split at h
  ·exact h
  ·split at h
   ·have:=ih _ _ _ _ h
    simp at this;exact this.1.1
   ·split at h
    ·exact h
    ·split at h
     ·exact ih _ _ _ _ h
     ·exact ih _ _ _ _ h
def upB (c:UInt8):UInt8:=if 97≤(c.toNat:Int)∧(c.toNat:Int)≤122 then UInt8.ofNat (c.toNat-32) else c
theorem a3w (c:UInt8):((upB c).toNat:Int)=if 97≤(c.toNat:Int)∧(c.toNat:Int)≤122 then (c.toNat:Int)-32 else (c.toNat:Int):=by
 have:=c.toNat_lt;unfold upB
 split
 ·rw[UInt8.toNat_ofNat'];omega
 ·rfl
theorem a7K (c:UInt8)(h:0≤a0w (c.toNat:Int)):a0w ((upB c).toNat:Int)=a0w (c.toNat:Int)∧a0h ((upB c).toNat:Int)=false∧((upB c).toNat:Int)≠62∧(48≤((upB c).toNat:Int)∧((upB c).toNat:Int)≤57∨65≤((upB c).toNat:Int)∧((upB c).toNat:Int)≤70):=by
 have hv:=a3w c;have hr:=a1N c;generalize ((upB c).toNat:Int)=u at *;generalize (c.toNat:Int)=n at *;simp only[a0h];unfold a0w at h⊢
 repeat' split at h
 all_goals repeat' split
 all_goals first
  | omega
  | (refine⟨by omega,?_,by omega,by omega⟩;simp only[Bool.or_eq_false_iff,beq_eq_false_iff_ne];omega)
  | (split at hv<;>omega)
def hexS:By→Nat→By→By
 | [],i,out=>if i%2>0 then out++[48] else out
 | c::l,i,out=>if a0h (c.toNat:Int) then (if i%2>0 then hexS l 0 (out++[48]) else hexS l i out) else hexS l (i+1) (out++[upB c])
theorem a2p:∀(l:By) (i:Nat) (out:By),hexS l i out=out++hexS l i []:=by
 intro l
 induction l with
 | nil=>intro i out;simp only[hexS];split<;>simp
 | cons c l ih =>
  intro i out;simp only[hexS]
  split
  ·split
   ·rw[ih 0 (out++[48]),ih 0 ([]++[48])];simp
   ·exact ih i out
  ·rw[ih _ (out++[upB c]),ih _ ([]++[upB c])];simp
def a3g (c:UInt8):Prop:=a0h (c.toNat:Int)=true∧(c.toNat:Int)≠0∨a0h (c.toNat:Int)=false∧0≤a0w (c.toNat:Int)
theorem a5D {c:UInt8}(h:a3g c):(c.toNat:Int)≠62∧(c.toNat:Int)<128:=by
 unfold a3g a0h a0w at h;have:=a1N c;rcases h with h|h
 ·simp at h;omega
 ·have h2:=h.2
  repeat' split at h2
  all_goals omega
theorem a4E (l:By)(c:UInt8)(od:Bool)(half:Int)(out:By)(h62:((c.toNat:Int)==62)=false)(hw:a0h (c.toNat:Int)=false)(hv:0≤a0w (c.toNat:Int)) :
  hexF (c::l) od half out false=if od then hexF l false half (out++[ub (half*16+a0w (c.toNat:Int))]) false else hexF l true (a0w (c.toNat:Int)) out false:=by
 simp only[hexF,h62,hw,Bool.false_eq_true,if_false];rw[if_neg (by omega)]
theorem b1L : ∀(l : By) (od : Bool) (half : Int) (out t r : By) (i : Nat), (od = decide (i % 2 = 1)) → hexF l od half out false = (0, t, r, false) →
  ∃h,l=h++62::r∧(∀c∈h,a3g c)∧hexF (hexS h i []++[62]) od half out false=(0,t,[],false)∧(∀a b,h=a++b→(∀c∈b,a0h (c.toNat:Int)=true)→hexF (a++62::r) od half out false=(0,t,r,false)):=by
 intro l
 induction l with
 | nil=>intro od half out t r i ho h;simp[hexF]at h
 | cons c l ih =>
  intro od half out t r i ho h
  by_cases h62:((c.toNat:Int)==62)=true
  ·simp only[hexF,h62,if_true]at h
   have hc:c=62:=by apply UInt8.toNat_inj.1;simp at h62⊢;omega
   subst hc;obtain⟨_,ht,rfl,_⟩:True∧(if od=true then out++[ub (half*16)] else out)=t∧l=r∧True:=by simpa using h
   refine⟨[],rfl,by simp,?_,?_⟩
   ·simp only[hexS]
    by_cases hi:i%2>0
    ·have hod:od=true:=by rw[ho];simp;omega
     rw[if_pos hi];rw[hod]at ht⊢;have h48:((48:UInt8).toNat:Int)=48:=rfl
     show hexF (48::[62]) true half out false=_
     rw[a4E _ _ _ _ _ (by rw[h48];rfl) (by rw[h48];rfl) (by rw[h48];decide)];rw[←ht,h48];simp[hexF,a0w]
    ·have hod:od=false:=by rw[ho];simp;omega
     rw[if_neg hi];rw[hod]at ht⊢;simp[hexF]at ht⊢;exact ht
   ·intro a b hab _
    have ha:a=[]:=by cases a with|nil=>rfl|cons _ _=>simp at hab
    subst ha;simp only[List.nil_append,hexF,h62,if_true];rw[ht]
  ·simp only[Bool.not_eq_true]at h62
   by_cases hw:a0h (c.toNat:Int)=true
   ·simp only[hexF,h62,hw,if_true,Bool.false_eq_true,if_false]at h
    have hodd:=a6Y l od half out _ (by rw[h]);simp at hodd;obtain⟨hod,h0⟩:=hodd;have h00:((c.toNat:Int)==0)=false:=by simp;omega
    have hi:¬i%2>0:=by rw[hod]at ho;simp at ho;omega
    rw[hod,h00]at h;rw[hod];obtain⟨hh,rfl,e2,e3,e4⟩:=ih false half out t r i (by rw[←hod];exact ho) h;refine⟨c::hh,rfl,?_,?_,?_⟩
    ·intro d hd
     rcases List.mem_cons.1 hd with rfl|hd
     ·exact .inl ⟨hw,by omega⟩
     ·exact e2 d hd
    ·simp only[hexS,hw,if_true,if_neg hi]
     exact e3
    ·intro a b hab hb
     cases a with
     | nil =>
      have:=e4 [] hh rfl (fun d hd=>hb d (by rw[List.nil_append]at hab;rw[←hab];simp[hd]));exact this
     | cons a0 a =>
      simp at hab;obtain⟨rfl,rfl⟩:=hab;have:=e4 a b rfl hb;simp only[List.cons_append,hexF,h62,hw,h00,Bool.false_eq_true,if_false,if_true,Bool.or_false];exact this
   ·simp only[Bool.not_eq_true]at hw
    by_cases hv:a0w (c.toNat:Int)<0
    ·simp[hexF,h62,hw,hv]at h
    ·have hv:0≤a0w (c.toNat:Int):=by omega
     obtain⟨u1,u2,u3,u4⟩:=a7K c hv;have u62:(((upB c).toNat:Int)==62)=false:=by simp;omega
     rw[a4E _ _ _ _ _ h62 hw hv]at h
     cases od with
     | true =>
      simp only[if_true]at h;obtain⟨hh,rfl,e2,e3,e4⟩:=ih false half _ t r (i+1) (by simp at ho⊢;omega) h;refine⟨c::hh,rfl,?_,?_,?_⟩
      ·intro d hd
       rcases List.mem_cons.1 hd with rfl|hd
       ·exact .inr ⟨hw,hv⟩
       ·exact e2 d hd
      ·simp only[hexS,hw,Bool.false_eq_true,if_false]
       rw[a2p];simp only[List.nil_append,List.cons_append];rw[a4E _ _ _ _ _ u62 u2 (by rw[u1];exact hv),u1];simp only[if_true];exact e3
      ·intro a b hab hb
       cases a with
       | nil =>
        have:=hb c (by rw[List.nil_append]at hab;rw[←hab];simp);rw[hw]at this;exact absurd this (by simp)
       | cons a0 a =>
        simp at hab;obtain⟨rfl,rfl⟩:=hab;rw[List.cons_append,a4E _ _ _ _ _ h62 hw hv];simp only[if_true];exact e4 a b rfl hb
     | false =>
      simp only[Bool.false_eq_true,if_false]at h;obtain⟨hh,rfl,e2,e3,e4⟩:=ih true _ out t r (i+1) (by simp at ho⊢;omega) h;refine⟨c::hh,rfl,?_,?_,?_⟩
      ·intro d hd
       rcases List.mem_cons.1 hd with rfl|hd
       ·exact .inr ⟨hw,hv⟩
       ·exact e2 d hd
      ·simp only[hexS,hw,Bool.false_eq_true,if_false]
       rw[a2p];simp only[List.nil_append,List.cons_append];rw[a4E _ _ _ _ _ u62 u2 (by rw[u1];exact hv),u1];simp only[Bool.false_eq_true,if_false];exact e3
      ·intro a b hab hb
       cases a with
       | nil =>
        have:=hb c (by rw[List.nil_append]at hab;rw[←hab];simp);rw[hw]at this;exact absurd this (by simp)
       | cons a0 a =>
        simp at hab;obtain⟨rfl,rfl⟩:=hab;rw[List.cons_append,a4E _ _ _ _ _ h62 hw hv];simp only[Bool.false_eq_true,if_false];exact e4 a b rfl hb
theorem b4f:∀(a l:By) (half:Int) (t r:By),(∀c∈a,a0h (c.toNat:Int)=true∧(c.toNat:Int)≠0)→hexF (a++l) false half [] false=(0,t,r,false)→hexF l false half [] false=(0,t,r,false):=by
 intro a
 induction a with
 | nil=>intro l half t r _ h;exact h
 | cons c a ih =>
  intro l half t r ha h;obtain⟨hw,h0⟩:=ha c (by simp);have h62:((c.toNat:Int)==62)=false:=by unfold a0h at hw;simp at hw⊢;omega
  have h00:((c.toNat:Int)==0)=false:=by simp;omega
  simp only[List.cons_append,hexF,h62,hw,h00,Bool.false_eq_true,if_false,if_true,Bool.or_false]at h;exact ih l half t r (fun d hd=>ha d (by simp[hd])) h
theorem b4d:∀(l:By) (i:Nat),(∀c∈l,a3g c)→∀c∈hexS l i [],0≤a0w (c.toNat:Int):=by
 intro l
 induction l with
 | nil =>
  intro i _ c hc;simp only[hexS]at hc
  split at hc
  ·simp at hc;subst hc;decide
  ·simp at hc
 | cons d l ih =>
  intro i hl c hc;simp only[hexS]at hc;have hd:=hl d (by simp);have hl':=fun c hc=>hl c (List.mem_cons_of_mem _ hc)
  split at hc
  ·split at hc
   ·rw[a2p]at hc
    rcases List.mem_append.1 hc with hc|hc
    ·simp at hc;subst hc;decide
    ·exact ih 0 hl' c hc
   ·exact ih i hl' c hc
  ·rename_i hw
   rw[a2p]at hc;rcases List.mem_append.1 hc with hc|hc
   ·simp at hc;subst hc
    rcases hd with hd|hd
    ·exact absurd hd.1 hw
    ·rw[(a7K d hd.2).1];exact hd.2
   ·exact ih _ hl' c hc
end Go.Proofs.YtfkecmlmnhbmoaaGreatDoor
