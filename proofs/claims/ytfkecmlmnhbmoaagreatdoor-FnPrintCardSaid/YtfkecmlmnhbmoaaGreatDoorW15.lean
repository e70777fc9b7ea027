/- Parts F5 P7 P8. -/
import Derived.Test.YtfkecmlmnhbmoaaGreatDoorW7
set_option linter.unusedVariables false
set_option linter.unusedSimpArgs false
set_option maxRecDepth 100000
set_option maxHeartbeats 40000000
namespace Go.Proofs.YtfkecmlmnhbmoaaGreatDoor
open Go Go.RowKit
theorem int_pow2 (k:Nat):((2:Int)^k)=((2^k:Nat):Int):=by simp
theorem shr_lt {n k:Nat}(h:n<2^k):(((n:Int)/2^k)==0)=true:=by
 rw[int_pow2,←Int.natCast_ediv,Nat.div_eq_of_lt h];rfl
theorem shr_ge {n k:Nat}(h:2^k≤n):(((n:Int)/2^k)==0)=false:=by
 have h1:1≤n/2^k:=(Nat.le_div_iff_mul_le (Nat.pow_pos (by decide))).2 (by omega);rw[int_pow2,←Int.natCast_ediv];simp only[beq_eq_false_iff_ne,ne_eq];omega
theorem and_mask {n M k:Nat}(hM:M=2^k-1)(hk:k≤60)(hn:n<18446744073709551616):bits .and .u64 (n:Int) (M:Int)=((n%2^k:Nat):Int):=by
 have h60:2^k≤1152921504606846976:=Nat.le_trans (Nat.pow_le_pow_right (by decide) hk) (by decide);rw[bits_and_u64_nat n M hn (by omega),hM,Nat.and_two_pow_sub_one_eq_mod]
theorem set_at {Ql A:By}{wq:Nat}(h:Ql.length=wq)(hl:wq<A.length)(c:UInt8):(Ql++A.drop wq).set wq c=(Ql++[c])++A.drop (wq+1):=by
 rw[List.set_append_right _ _ (by omega),h,Nat.sub_self,List.drop_eq_getElem_cons hl,List.set_cons_zero];simp
theorem dig_of {q:Nat}(h:q≤9):(UInt8.ofNat (q+48)).toNat=q+48:=by rw[UInt8.toNat_ofNat'];omega
theorem DecAt.put {w:World}{b:Nat}{A Ql:By}{wq nd:Nat}{dp:Int}{neg tr:Bool}(h:DecAt w b (Ql++A.drop wq) nd dp neg tr)(hq:Ql.length=wq)(hl:wq<A.length)(hA:A.length=800){q:Nat}(h9:q≤9) :
  DecAt (w.setCell ⟨b,wq,none⟩ (.int .u8 ((q:Int)+48))) b ((Ql++[UInt8.ofNat (q+48)])++A.drop (wq+1)) nd dp neg tr:=by
 have:=h.setDig (i:=wq) (by omega) (UInt8.ofNat (q+48));rw[set_at hq hl,dig_of h9]at this;simpa using this
theorem dv_dig {Ql:By}{q:Nat}(h9:q≤9):dv (Ql++[UInt8.ofNat (q+48)])=10*dv Ql+q:=by rw[dv_snoc,dig_of h9];omega
theorem isDs_dig {Ql:By}{q:Nat}(h:isDs Ql)(h9:q≤9):isDs (Ql++[UInt8.ofNat (q+48)]):=isDs_snoc h (by rw[dig_of h9];omega) (by rw[dig_of h9];omega)
theorem div_step {X k D n q m d:Nat}(h:X=10*2^k*D+n)(hq:q=n/2^k)(hm:m=n%2^k)(hd:d≤9):10*X+d=10*2^k*(10*D+q)+(m*10+d)∧m*10+d<10*2^k:=by
 have hp:0<2^k:=Nat.pow_pos (by decide);have h1:=Nat.div_add_mod n (2^k);have h2:=Nat.mod_lt n hp;rw[←hq,←hm]at h1;rw[←hm]at h2;generalize 2^k=p at *;refine⟨?_,by omega⟩;rw[h,←h1,Nat.mul_add,Nat.mul_add (10*p)];have e1:10*(10*p*D)=10*p*(10*D):=by rw[Nat.mul_left_comm (10*p),]
 rw[e1,Nat.mul_assoc 10 p q];omega
theorem ret_num {k:IntKind}{a b:Int}(h:a=b):Value.int k a=.int k b:=by rw[h]
theorem rsh_at (w : World)(b : Nat)(A : By)(nd : Nat)(dp : Int)(neg tr : Bool)(k : Nat)(hk1 : 1 ≤ k)(hk2 : k ≤ 60)(hD : DecAt w b A nd dp neg tr)(hds : isDs (A.take nd))(hnd : nd + k ≤ 799)(hn1 : 1 ≤ nd)(hN0 : dv (A.take nd) ≠ 0)(hN : numD (dv (A.take nd)) = nd)(hdp1 : -100000 ≤ dp)(hdp2 : dp ≤ 100000) :
  Calls Tryz.prog 173 #[.pointer (some ⟨b,0,none⟩),.int .u64 k] w fun e w'=>e=.returned (.tuple #[])∧DecN w' b (rsN k (dv (A.take nd))) (rsP k (dv (A.take nd)) dp) neg tr∧w.grownBy w' (some b):=by
 have hA800:=hD.1;generalize hR1:rsN k (dv (A.take nd))=R1;generalize hR2:rsP k (dv (A.take nd)) dp=R2;obtain⟨HR1,HR2⟩:=xh2 hR1 hR2;clear hR1 hR2
 obtain⟨c0,c1,c2,c3,cf⟩:=hD.cells;have hlen:nd≤A.length:=by have:=hD.1;omega
 have h60:2^k≤1152921504606846976:=Nat.le_trans (Nat.pow_le_pow_right (by decide) hk2) (by decide);obtain⟨HD,Hds,HN0,HN,Hlen⟩:=xh5 hD hds hN0 hN hlen;clear hD hds hN0 hN hlen
 have hmask:IntKind.u64.wrap (IntKind.u64.wrap (2^k)-1)=((2^k-1:Nat):Int):=by
  have:=Nat.pow_pos (a:=2) (n:=k) (by decide);rw[int_pow2];generalize 2^k=p at *;rw[IntWalk.u64_in ((p:Nat):Int) (by omega),IntWalk.u64_in _ (by omega)];omega
 have H60:=xhd h60;clear h60
 obtain⟨M,hM⟩:∃M,M=2^k-1:=⟨_,rfl⟩;rw[←hM]at hmask;have HM:=xhd hM;clear hM
 go_enter Tryz.func173,Tryz.ntmps173;go_wp2_with fail
 go_loopg [4,6] nd (fun g t4 t6 wr=>∃r n:Nat,t4=.int .i64 r∧t6=.int .u64 n∧g=nd-r∧n=pd A nd r∧r≤nd∧(r=0∨pd A nd (r-1)<2^k)∧w=wr)
 case atStart=>exact⟨0,0,rfl,rfl,rfl,(pd_zero _ _).symm,by omega,.inl rfl,rfl⟩
 case round =>
  obtain⟨r,n,rfl,rfl,hg,hn,hr,hlow,rfl⟩:=hrel;obtain⟨Hg,Hn,Hlow⟩:=xh3 hg hn hlow;clear hg hn hlow
  by_cases hge:2^k≤n
  ·have hb := shr_ge hge
   obtain⟨r0,hr0⟩:∃r0,r0=r:=⟨_,rfl⟩;have Hlo:=xhd (show 2^k≤pd A nd r0 by rw[hr0,←Hn.out];exact hge)
   have hr1:1≤r0:=by
    have h:=Hlo.out
    by_cases e:r0=0
    ·rw[e,pd_zero]at h;have:=Nat.pow_pos (a:=2) (n:=k) (by decide);omega
    ·omega
   have Hhi:=xhd (show pd A nd (r0-1)<2^k by rcases Hlow.out with e|e;omega;rw[hr0];exact e)
   have hn3:n<10*2^k:=by
    have h:=pd_step (r:=r0-1) Hlen.out Hds.out;rw[show r0-1+1=r by omega,←Hn.out]at h;have:=Hhi.out;omega
   have Hn3:=xhd hn3;clear hn3
   have Hn9:=xhd (show n=pd A nd r0 by rw[hr0];exact Hn.out);subst hr0;clear hge Hn Hlow Hg;go_wp2_with fail
   have HgN:=xhd (show nd-r0=nd-r0 from rfl)
   go_loopg [4,5,6] (nd-r0) (fun g t4 t5 t6 wr=>∃(r wq n:Nat) (Ql:By),t4=.int .i64 r∧t5=.int .i64 wq∧t6=.int .u64 n∧g=nd-r∧r=r0+wq∧(r≤nd∨r=r0)∧Ql.length=wq∧isDs Ql∧pd A nd r=10*2^k*dv Ql+n∧n<10*2^k∧DecAt wr b (Ql++A.drop wq) nd (dp-(r0-1)) neg tr∧w.grownBy wr (some b))
   case atStart=>exact⟨_,0,_,[],rfl,rfl,rfl,HgN.out,by omega,.inr rfl,rfl,(fun _ h=>by cases h),by rw[←Hn9.out];simp[dv],Hn3.out,HD.out.setDp _,gr_set (xgr _ _) _ _⟩
   case round =>
    clear c0 c1 c2 c3 cf hb;obtain⟨r,wq,n,Ql,rfl,rfl,rfl,hg,hrw,hrr,hQl,hQd,hpd,hnn,hD2,hG⟩:=hrel;obtain⟨c0,c1,c2,c3,cf⟩:=hD2.cells;obtain⟨HG,Hg,HQl,HQd,Hpd,Hnn⟩:=xh6 hG hg hQl hQd hpd hnn;clear hG hg hQl hQd hpd hnn
    have hwr:wq≤r:=by omega
    have hwr2:wq+1≤799:=by omega
    obtain⟨Hrw,Hrr⟩:=xh2 hrw hrr;clear hrw hrr
    obtain⟨q,hq⟩:∃q,q=n/2^k:=⟨_,rfl⟩;have hqi:(n:Int)/2^k=(q:Int):=by rw[int_pow2,←Int.natCast_ediv,hq]
    have hq9:q≤9:=by
     have:=(Nat.div_lt_iff_lt_mul (Nat.pow_pos (a:=2) (n:=k) (by decide))).2 Hnn.out;omega
    have Hq:=xhd hq;clear hq
    obtain⟨m,hm⟩:∃m,m=n%2^k:=⟨_,rfl⟩;have hand:bits .and .u64 (n:Int) (M:Int)=(m:Int):=by rw[hm];have h1:=Hnn.out;have h2:=H60.out;exact and_mask HM.out hk2 (by generalize 2^k=p at *;omega)
    have hm2:m≤1152921504606846975:=by have h1:=Nat.mod_lt n (Nat.pow_pos (a:=2) (n:=k) (by decide));have h2:=H60.out;rw[←hm]at h1;generalize 2^k=p at *;omega
    have Hm:=xhd hm;clear hm
    obtain⟨c9,hc9,cw⟩:=hD2.digE (i:=wq) (by omega);clear hc9
    by_cases hrn:r<nd
    ·obtain⟨c,hc,cd⟩:=hD2.digE (i:=r) (by omega)
     have hc5:A.getD r 0=c:=by
      rw[←hc];simp only[List.getD_eq_getElem?_getD];rw[List.getElem?_append_right (by rw[HQl.out];omega),List.getElem?_drop,HQl.out,show wq+(r-wq)=r by omega]
     have hc2:=isDs_at Hds.out hrn Hlen.out;rw[hc5]at hc2;obtain⟨hc3,hc4⟩:=hc2;obtain⟨Hc5,HD2,Hc⟩:=xh3 hc5 hD2 hc;clear hc5 hD2 hc
     go_wp2_with fail
     go_roundg (nd-(r+1))
     case measure=>rw[Hg.out];omega
     case rel =>
      have hst:=div_step (d:=c.toNat-48) Hpd.out Hq.out Hm.out (by omega);refine⟨r+1,wq+1,m*10+(c.toNat-48),Ql++[UInt8.ofNat (q+48)],by go_num,by go_num,ret_num (by omega),rfl,by have:=Hrw.out;omega,.inl (by omega),by simp[HQl.out],isDs_dig HQd.out hq9,?_,hst.2,HD2.out.put HQl.out (by omega) hA800 hq9,(by repeat (first|exact HG.out|apply gr_set|apply gr_drewN|apply gr_drew|apply gr_alloc))⟩;rw[pd_lt hrn Hlen.out,Hc5.out,dv_dig hq9];exact hst.1
    ·have HD2 := xhd hD2; clear hD2
     have hwk:wq+(k+1)≤nd+k:=by have:=Hrw.out;have:=Hrr.out;omega
     go_wp2_with fail
     have Hst:=xhd (show n=0∨∃j,2^j ∣ n∧j+(k+1)=k+1∧j≤k from .inr ⟨0,by simp,by omega,by omega⟩);have Hnr:=xhd (show nd≤r0+wq by have:=Hrw.out;omega)
     go_loopg [5,6] (k+1) (fun g t5 t6 wr=>∃(wq n:Nat) (Ql:By),t5=.int .i64 wq∧t6=.int .u64 n∧wq+g≤nd+k∧nd≤r0+wq∧(n=0∨∃j,2^j ∣ n∧j+g=k+1∧j≤k)∧Ql.length=wq∧isDs Ql∧pd A nd (r0+wq)=10*2^k*dv Ql+n∧n<10*2^k∧DecAt wr b (Ql++A.drop wq) nd (dp-(r0-1)) neg tr∧w.grownBy wr (some b))
     case atStart=>exact⟨wq,n,Ql,rfl,rfl,hwk,Hnr.out,Hst.out,HQl.out,HQd.out,by rw[←Hrw.out];exact Hpd.out,Hnn.out,HD2.out,HG.out⟩
     case round =>
      clear c0 c1 c2 c3 cf cw hqi hq9 hand hm2 hwk Hst Hnr HQl HQd Hpd Hnn HD2 HG Hq Hm Hrw Hrr Hg hwr hwr2 hrn;obtain⟨wq,n,Ql,rfl,rfl,hwg,hnr,hj,hQl,hQd,hpd,hnn,hD2,hG⟩:=hrel;obtain⟨c0,c1,c2,c3,cf⟩:=hD2.cells;obtain⟨HG,Hj,Hnr,HQl,HQd,Hpd,Hnn⟩:=xh7 hG hj hnr hQl hQd hpd hnn;clear hG hj hnr hQl hQd hpd hnn
      by_cases hn0:0<n
      ·obtain⟨q,hq⟩:∃q,q=n/2^k:=⟨_,rfl⟩
       have hqi:(n:Int)/2^k=(q:Int):=by rw[int_pow2,←Int.natCast_ediv,hq]
       have hq9:q≤9:=by
        have:=(Nat.div_lt_iff_lt_mul (Nat.pow_pos (a:=2) (n:=k) (by decide))).2 Hnn.out;omega
       have Hq:=xhd hq;clear hq
       obtain⟨m,hm⟩:∃m,m=n%2^k:=⟨_,rfl⟩;have hand:bits .and .u64 (n:Int) (M:Int)=(m:Int):=by rw[hm];have h1:=Hnn.out;have h2:=H60.out;exact and_mask HM.out hk2 (by generalize 2^k=p at *;omega)
       have hm2:m≤1152921504606846975:=by have h1:=Nat.mod_lt n (Nat.pow_pos (a:=2) (n:=k) (by decide));have h2:=H60.out;rw[←hm]at h1;generalize 2^k=p at *;omega
       have Hm:=xhd hm;clear hm
       obtain⟨g1,hg1⟩:∃g1,gk=g1+1:=by
        rcases Hj.out with e|⟨j,_,e,e2⟩
        ·omega
        ·exact⟨gk-1,by omega⟩
       have hw9:wq+1≤799:=by omega
       obtain⟨c9,hc9,cw⟩:=hD2.digE (i:=wq) (by omega);clear hc9;obtain⟨HD2,Hg1⟩:=xh2 hD2 hg1;clear hD2 hg1
       go_wp2_with fail
       go_roundg g1
       case measure=>have:=Hg1.out;omega
       case rel =>
        have hst:=div_step (d:=0) Hpd.out Hq.out Hm.out (by omega);refine⟨wq+1,m*10,Ql++[UInt8.ofNat (q+48)],by go_num,ret_num (by omega),by have:=Hg1.out;omega,by have:=Hnr.out;omega,?_,by simp[HQl.out],isDs_dig HQd.out hq9,?_,by omega,HD2.out.put HQl.out (by omega) hA800 hq9,(by repeat (first|exact HG.out|apply gr_set|apply gr_drewN|apply gr_drew|apply gr_alloc))⟩
        ·by_cases hm0:m=0
         ·left;omega
         ·right
          rcases Hj.out with e|⟨j,hdv,e,e2⟩
          ·omega
          ·have hjk:j<k:=by
            by_cases hjk:j<k
            ·exact hjk
            ·exfalso
             obtain rfl:j=k:=by omega
             exact hm0 (by rw[Hm.out];exact Nat.mod_eq_zero_of_dvd hdv)
           refine⟨j+1,?_,by have:=Hg1.out;omega,by omega⟩;rw[Hm.out,Nat.pow_succ];have h1:2^j ∣ n%2^k:=(Nat.dvd_mod_iff (Nat.pow_dvd_pow 2 (by omega))).2 hdv;obtain⟨x,hx⟩:=h1;exact⟨5*x,by rw[hx,Nat.mul_assoc,Nat.mul_assoc];congr 1;omega⟩
        ·rw[show r0+(wq+1)=r0+wq+1 by omega,pd_ge Hnr.out,dv_dig hq9];have:=hst.1;omega
      ·obtain rfl:n=0:=by omega
       have HD2:=xhd hD2;clear hD2
       go_wp2_with fail
       refine(trim_any _ b (Ql++A.drop wq) wq (dp-(r0-1)) neg tr (by exact HD2.out.setNd wq) (by omega)).mono ?_;rintro e w9⟨rfl,hD9,hg9⟩;go_wp2_with fail
       go_end0;have hQ1:(Ql++A.drop wq).take wq=Ql:=by rw[←HQl.out];simp
       have hwq1:1≤wq:=by
        by_cases e:wq=0
        ·exfalso
         have h1:=Hpd.out;have h2:=HQl.out;rw[e]at h2;rw[List.eq_nil_of_length_eq_zero h2,e]at h1;have h3:=Hlo.out;have:=Nat.pow_pos (a:=2) (n:=k) (by decide);simp[dv]at h1;omega
        ·omega
       obtain⟨f1,f2,f3,f4⟩:=rsh_final (w:=wq) (Q:=dv Ql) dp Hlen.out Hds.out HN.out HN0.out hr1 Hlo.out Hhi.out Hnr.out hwq1 (by have:=Hpd.out;omega);rw[HR1.out]at f3;rw[HR2.out]at f4;have hT:=trimN_dv wq (Ql++A.drop wq) (by rw[List.length_append,List.length_drop,HQl.out,hA800];omega) (by rw[hQ1];exact HQd.out) (by rw[hQ1];exact f1) (by rw[hQ1];exact f2);rw[hQ1,f3]at hT;have hR0:R1≠0:=by rw[←f3];exact strip_pos f1
       have hR9:numD R1≠0:=by have:=numD_pos1 hR0;omega
       rw[hT.1]at hD9;have hdp9:dpN (numD R1) (dp-(r0-1))=R2:=by unfold dpN;rw[if_neg hR9,←f4];omega
       rw[hdp9]at hD9;refine⟨rfl,⟨?_,_,hD9,?_,?_⟩,(gr_set HG.out _ _).trans hg9⟩
       ·rw[←hT.1];have:=trimN_le (Ql++A.drop wq) wq;omega
       ·rw[←hT.1];exact isDs_take (n:=wq) (by rw[hQ1];exact HQd.out) (trimN_le _ _)
       ·rw[←hT.1];exact hT.2
  ·have hlt : n < 2 ^ k := by omega
   have hb:=shr_lt hlt;have hn2:n≤1152921504606846975:=by have:=H60.out;omega
   have Hlt:=xhd hlt;clear hge hlt
   by_cases hrn:r<nd
   ·obtain⟨c,hc,cd⟩:=HD.out.digE (i:=r) (by omega)
    have hc2:=isDs_at Hds.out hrn Hlen.out;rw[hc]at hc2;obtain⟨hc3,hc4⟩:=hc2;have Hc:=xhd hc;clear hc
    go_wp2_with fail
    go_roundg (nd-(r+1))
    case measure=>rw[Hg.out];omega
    case rel =>
     refine⟨r+1,n*10+(c.toNat-48),by go_num,ret_num (by omega),rfl,?_,by omega,.inr ?_,rfl⟩
     ·rw[pd_lt hrn Hlen.out,Hc.out,←Hn.out];omega
     ·rw[Nat.add_sub_cancel,←Hn.out];exact Hlt.out
   ·obtain rfl : r = nd := by omega
    have hn0:((n:Int)==0)=false:=by
     have:=HN0.out;have:=pd_nd A r;have:=Hn.out;simp;omega
    go_wp2_with fail
    have hlow2:pd A r (r-1)<2^k:=by rcases Hlow.out with e|e;omega;exact e
    have Hlow2:=xhd hlow2;have hn1':1≤n:=by simp at hn0;omega
    obtain⟨nd,hnd0⟩:∃nd,nd=r:=⟨_,rfl⟩;subst hnd0;have Hg9:=xhd (show 2^k-n=2^k-n from rfl);clear hlow2 hb hn2 Hlt Hlow Hg
    go_loopg [4,6] (2^k-n) (fun g t4 t6 wr=>∃r n j:Nat,t4=.int .i64 r∧t6=.int .u64 n∧g=2^k-n∧r=nd+j∧j≤19∧10^j≤n∧n=pd A nd r∧(r=0∨pd A nd (r-1)<2^k)∧w=wr)
    case atStart=>exact⟨nd,n,0,rfl,rfl,Hg9.out,rfl,by omega,by simpa using hn1',Hn.out,.inr Hlow2.out,rfl⟩
    case round =>
     clear Hn Hlow2 Hg9 hn0 hn1';obtain⟨r,n,j,rfl,rfl,hg,hrj,hj19,hjn,hn,hlow,rfl⟩:=hrel;obtain⟨Hg,Hn,Hlow,Hjn⟩:=xh4 hg hn hlow hjn;clear hg hn hlow hjn
     have hrb:r≤818:=by omega
     have Hrj:=xhd hrj;have hrnd:nd≤r:=by omega
     clear hrj
     by_cases hge:2^k≤n
     ·have hb := shr_ge hge
      obtain⟨r0,hr0⟩:∃r0,r0=r:=⟨_,rfl⟩;have Hlo:=xhd (show 2^k≤pd A nd r0 by rw[hr0,←Hn.out];exact hge)
      have hr1:1≤r0:=by
       have h:=Hlo.out
       by_cases e:r0=0
       ·rw[e,pd_zero]at h;have:=Nat.pow_pos (a:=2) (n:=k) (by decide);omega
       ·omega
      have Hhi:=xhd (show pd A nd (r0-1)<2^k by rcases Hlow.out with e|e;omega;rw[hr0];exact e)
      have hn3:n<10*2^k:=by
       have h:=pd_step (r:=r0-1) Hlen.out Hds.out;rw[show r0-1+1=r by omega,←Hn.out]at h;have:=Hhi.out;omega
      have Hn3:=xhd hn3;clear hn3
      have Hn9:=xhd (show n=pd A nd r0 by rw[hr0];exact Hn.out);subst hr0;clear hge Hn Hlow Hg;go_wp2_with fail
      have HgN:=xhd (show nd-r0=nd-r0 from rfl)
      go_loopg [4,5,6] (nd-r0) (fun g t4 t5 t6 wr=>∃(r wq n:Nat) (Ql:By),t4=.int .i64 r∧t5=.int .i64 wq∧t6=.int .u64 n∧g=nd-r∧r=r0+wq∧(r≤nd∨r=r0)∧Ql.length=wq∧isDs Ql∧pd A nd r=10*2^k*dv Ql+n∧n<10*2^k∧DecAt wr b (Ql++A.drop wq) nd (dp-(r0-1)) neg tr∧w.grownBy wr (some b))
      case atStart=>exact⟨_,0,_,[],rfl,rfl,rfl,HgN.out,by omega,.inr rfl,rfl,(fun _ h=>by cases h),by rw[←Hn9.out];simp[dv],Hn3.out,HD.out.setDp _,gr_set (xgr _ _) _ _⟩
      case round =>
       clear c0 c1 c2 c3 cf hb;obtain⟨r,wq,n,Ql,rfl,rfl,rfl,hg,hrw,hrr,hQl,hQd,hpd,hnn,hD2,hG⟩:=hrel;obtain⟨c0,c1,c2,c3,cf⟩:=hD2.cells;obtain⟨HG,Hg,HQl,HQd,Hpd,Hnn⟩:=xh6 hG hg hQl hQd hpd hnn;clear hG hg hQl hQd hpd hnn
       have hwr:wq≤r:=by omega
       have hwr2:wq+1≤799:=by omega
       obtain⟨Hrw,Hrr⟩:=xh2 hrw hrr;clear hrw hrr
       obtain⟨q,hq⟩:∃q,q=n/2^k:=⟨_,rfl⟩;have hqi:(n:Int)/2^k=(q:Int):=by rw[int_pow2,←Int.natCast_ediv,hq]
       have hq9:q≤9:=by
        have:=(Nat.div_lt_iff_lt_mul (Nat.pow_pos (a:=2) (n:=k) (by decide))).2 Hnn.out;omega
       have Hq:=xhd hq;clear hq
       obtain⟨m,hm⟩:∃m,m=n%2^k:=⟨_,rfl⟩;have hand:bits .and .u64 (n:Int) (M:Int)=(m:Int):=by rw[hm];have h1:=Hnn.out;have h2:=H60.out;exact and_mask HM.out hk2 (by generalize 2^k=p at *;omega)
       have hm2:m≤1152921504606846975:=by have h1:=Nat.mod_lt n (Nat.pow_pos (a:=2) (n:=k) (by decide));have h2:=H60.out;rw[←hm]at h1;generalize 2^k=p at *;omega
       have Hm:=xhd hm;clear hm
       obtain⟨c9,hc9,cw⟩:=hD2.digE (i:=wq) (by omega);clear hc9
       by_cases hrn:r<nd
       ·obtain⟨c,hc,cd⟩:=hD2.digE (i:=r) (by omega)
        have hc5:A.getD r 0=c:=by
         rw[←hc];simp only[List.getD_eq_getElem?_getD];rw[List.getElem?_append_right (by rw[HQl.out];omega),List.getElem?_drop,HQl.out,show wq+(r-wq)=r by omega]
        have hc2:=isDs_at Hds.out hrn Hlen.out;rw[hc5]at hc2;obtain⟨hc3,hc4⟩:=hc2;obtain⟨Hc5,HD2,Hc⟩:=xh3 hc5 hD2 hc;clear hc5 hD2 hc
        go_wp2_with fail
        go_roundg (nd-(r+1))
        case measure=>rw[Hg.out];omega
        case rel =>
         have hst:=div_step (d:=c.toNat-48) Hpd.out Hq.out Hm.out (by omega);refine⟨r+1,wq+1,m*10+(c.toNat-48),Ql++[UInt8.ofNat (q+48)],by go_num,by go_num,ret_num (by omega),rfl,by have:=Hrw.out;omega,.inl (by omega),by simp[HQl.out],isDs_dig HQd.out hq9,?_,hst.2,HD2.out.put HQl.out (by omega) hA800 hq9,(by repeat (first|exact HG.out|apply gr_set|apply gr_drewN|apply gr_drew|apply gr_alloc))⟩;rw[pd_lt hrn Hlen.out,Hc5.out,dv_dig hq9];exact hst.1
       ·have HD2 := xhd hD2; clear hD2
        have hwk:wq+(k+1)≤nd+k:=by have:=Hrw.out;have:=Hrr.out;omega
        go_wp2_with fail
        have Hst:=xhd (show n=0∨∃j,2^j ∣ n∧j+(k+1)=k+1∧j≤k from .inr ⟨0,by simp,by omega,by omega⟩);have Hnr:=xhd (show nd≤r0+wq by have:=Hrw.out;omega)
        go_loopg [5,6] (k+1) (fun g t5 t6 wr=>∃(wq n:Nat) (Ql:By),t5=.int .i64 wq∧t6=.int .u64 n∧wq+g≤nd+k∧nd≤r0+wq∧(n=0∨∃j,2^j ∣ n∧j+g=k+1∧j≤k)∧Ql.length=wq∧isDs Ql∧pd A nd (r0+wq)=10*2^k*dv Ql+n∧n<10*2^k∧DecAt wr b (Ql++A.drop wq) nd (dp-(r0-1)) neg tr∧w.grownBy wr (some b))
        case atStart=>exact⟨wq,n,Ql,rfl,rfl,hwk,Hnr.out,Hst.out,HQl.out,HQd.out,by rw[←Hrw.out];exact Hpd.out,Hnn.out,HD2.out,HG.out⟩
        case round =>
         clear c0 c1 c2 c3 cf cw hqi hq9 hand hm2 hwk Hst Hnr HQl HQd Hpd Hnn HD2 HG Hq Hm Hrw Hrr Hg hwr hwr2 hrn;obtain⟨wq,n,Ql,rfl,rfl,hwg,hnr,hj,hQl,hQd,hpd,hnn,hD2,hG⟩:=hrel;obtain⟨c0,c1,c2,c3,cf⟩:=hD2.cells;obtain⟨HG,Hj,Hnr,HQl,HQd,Hpd,Hnn⟩:=xh7 hG hj hnr hQl hQd hpd hnn;clear hG hj hnr hQl hQd hpd hnn
         by_cases hn0:0<n
         ·obtain⟨q,hq⟩:∃q,q=n/2^k:=⟨_,rfl⟩
          have hqi:(n:Int)/2^k=(q:Int):=by rw[int_pow2,←Int.natCast_ediv,hq]
          have hq9:q≤9:=by
           have:=(Nat.div_lt_iff_lt_mul (Nat.pow_pos (a:=2) (n:=k) (by decide))).2 Hnn.out;omega
          have Hq:=xhd hq;clear hq
          obtain⟨m,hm⟩:∃m,m=n%2^k:=⟨_,rfl⟩;have hand:bits .and .u64 (n:Int) (M:Int)=(m:Int):=by rw[hm];have h1:=Hnn.out;have h2:=H60.out;exact and_mask HM.out hk2 (by generalize 2^k=p at *;omega)
          have hm2:m≤1152921504606846975:=by have h1:=Nat.mod_lt n (Nat.pow_pos (a:=2) (n:=k) (by decide));have h2:=H60.out;rw[←hm]at h1;generalize 2^k=p at *;omega
          have Hm:=xhd hm;clear hm
          obtain⟨g1,hg1⟩:∃g1,gk=g1+1:=by
           rcases Hj.out with e|⟨j,_,e,e2⟩
           ·omega
           ·exact⟨gk-1,by omega⟩
          have hw9:wq+1≤799:=by omega
          obtain⟨c9,hc9,cw⟩:=hD2.digE (i:=wq) (by omega);clear hc9;obtain⟨HD2,Hg1⟩:=xh2 hD2 hg1;clear hD2 hg1
          go_wp2_with fail
          go_roundg g1
          case measure=>have:=Hg1.out;omega
          case rel =>
           have hst:=div_step (d:=0) Hpd.out Hq.out Hm.out (by omega);refine⟨wq+1,m*10,Ql++[UInt8.ofNat (q+48)],by go_num,ret_num (by omega),by have:=Hg1.out;omega,by have:=Hnr.out;omega,?_,by simp[HQl.out],isDs_dig HQd.out hq9,?_,by omega,HD2.out.put HQl.out (by omega) hA800 hq9,(by repeat (first|exact HG.out|apply gr_set|apply gr_drewN|apply gr_drew|apply gr_alloc))⟩
           ·by_cases hm0:m=0
            ·left;omega
            ·right
             rcases Hj.out with e|⟨j,hdv,e,e2⟩
             ·omega
             ·have hjk:j<k:=by
               by_cases hjk:j<k
               ·exact hjk
               ·exfalso
                obtain rfl:j=k:=by omega
                exact hm0 (by rw[Hm.out];exact Nat.mod_eq_zero_of_dvd hdv)
              refine⟨j+1,?_,by have:=Hg1.out;omega,by omega⟩;rw[Hm.out,Nat.pow_succ];have h1:2^j ∣ n%2^k:=(Nat.dvd_mod_iff (Nat.pow_dvd_pow 2 (by omega))).2 hdv;obtain⟨x,hx⟩:=h1;exact⟨5*x,by rw[hx,Nat.mul_assoc,Nat.mul_assoc];congr 1;omega⟩
           ·rw[show r0+(wq+1)=r0+wq+1 by omega,pd_ge Hnr.out,dv_dig hq9];have:=hst.1;omega
         ·obtain rfl:n=0:=by omega
          have HD2:=xhd hD2;clear hD2
          go_wp2_with fail
          refine(trim_any _ b (Ql++A.drop wq) wq (dp-(r0-1)) neg tr (by exact HD2.out.setNd wq) (by omega)).mono ?_;rintro e w9⟨rfl,hD9,hg9⟩;go_wp2_with fail
          go_end0;have hQ1:(Ql++A.drop wq).take wq=Ql:=by rw[←HQl.out];simp
          have hwq1:1≤wq:=by
           by_cases e:wq=0
           ·exfalso
            have h1:=Hpd.out;have h2:=HQl.out;rw[e]at h2;rw[List.eq_nil_of_length_eq_zero h2,e]at h1;have h3:=Hlo.out;have:=Nat.pow_pos (a:=2) (n:=k) (by decide);simp[dv]at h1;omega
           ·omega
          obtain⟨f1,f2,f3,f4⟩:=rsh_final (w:=wq) (Q:=dv Ql) dp Hlen.out Hds.out HN.out HN0.out hr1 Hlo.out Hhi.out Hnr.out hwq1 (by have:=Hpd.out;omega);rw[HR1.out]at f3;rw[HR2.out]at f4;have hT:=trimN_dv wq (Ql++A.drop wq) (by rw[List.length_append,List.length_drop,HQl.out,hA800];omega) (by rw[hQ1];exact HQd.out) (by rw[hQ1];exact f1) (by rw[hQ1];exact f2);rw[hQ1,f3]at hT;have hR0:R1≠0:=by rw[←f3];exact strip_pos f1
          have hR9:numD R1≠0:=by have:=numD_pos1 hR0;omega
          rw[hT.1]at hD9;have hdp9:dpN (numD R1) (dp-(r0-1))=R2:=by unfold dpN;rw[if_neg hR9,←f4];omega
          rw[hdp9]at hD9;refine⟨rfl,⟨?_,_,hD9,?_,?_⟩,(gr_set HG.out _ _).trans hg9⟩
          ·rw[←hT.1];have:=trimN_le (Ql++A.drop wq) wq;omega
          ·rw[←hT.1];exact isDs_take (n:=wq) (by rw[hQ1];exact HQd.out) (trimN_le _ _)
          ·rw[←hT.1];exact hT.2
     ·have hlt:n<2^k:=by omega
      have hb:=shr_lt hlt;have hn2:n≤1152921504606846975:=by have:=H60.out;omega
      have Hlt:=xhd hlt;clear hge hlt
      have hj9:j<19:=by
       by_cases h:j<19
       ·exact h
       ·obtain rfl:j=19:=by omega
        have h1:=Hjn.out;have:(10:Nat)^19=10000000000000000000:=by decide
        omega
      go_wp2_with fail
      go_roundg (2^k-n*10)
      case measure=>rw[Hg.out];have h1:=Hlt.out;have h2:=Hjn.out;have:=pow10_pos j;omega
      case rel=>exact⟨r+1,n*10,j+1,by go_num,by go_num,rfl,by have:=Hrj.out;omega,by omega,by rw[Nat.pow_succ];exact Nat.mul_le_mul_right _ Hjn.out,by rw[pd_ge hrnd,←Hn.out];omega,.inr (by rw[Nat.add_sub_cancel,←Hn.out];exact Hlt.out),rfl⟩
end Go.Proofs.YtfkecmlmnhbmoaaGreatDoor
namespace Go.Proofs.YtfkecmlmnhbmoaaGreatDoor
theorem oct_split:∀(n:Nat) (l:By) (out:Int),∃q,l=q++(octM n l out).2∧(∀c∈q,48≤(c.toNat:Int)∧(c.toNat:Int)≤55)∧∀m:By,m.head?=(octM n l out).2.head?→octM n (q++m) out=((octM n l out).1,m):=by
 intro n
 induction n with
 | zero=>intro l out;exact⟨[],rfl,by simp,fun m _=>rfl⟩
 | succ n ih =>
  intro l out
  cases l with
  | nil =>
   refine⟨[],rfl,by simp,fun m hm=>?_⟩
   cases m with
   | nil=>rfl
   | cons c m=>simp[octM]at hm
  | cons c l =>
   simp only[octM]
   split
   ·rename_i hc
    obtain⟨q,h1,h2,h3⟩:=ih l (8*out+((c.toNat:Int)-48));refine⟨c::q,by rw[List.cons_append,←h1],fun d hd=>?_,fun m hm=>?_⟩
    ·rcases List.mem_cons.1 hd with rfl|hd
     ·exact hc
     ·exact h2 d hd
    ·simp only[List.cons_append,octM,if_pos hc]
     exact h3 m hm
   ·rename_i hc
    refine⟨[],rfl,by simp,fun m hm=>?_⟩
    cases m with
    | nil=>simp at hm
    | cons d m =>
     simp at hm;subst hm
     simp only[List.nil_append,octM,if_neg hc]
theorem esc_split (d:UInt8)(l:By):∃q,l=q++(escF (d::l)).2.2∧(∀c∈q,(c.toNat:Int)=10∨48≤(c.toNat:Int)∧(c.toNat:Int)≤55)∧∀m:By,m.head?=(escF (d::l)).2.2.head?→escF (d::(q++m))=((escF (d::l)).1,(escF (d::l)).2.1,m):=by
 obtain⟨q,h1,h2,h3⟩:=oct_split 2 l ((d.toNat:Int)-48);simp only[escF]
 repeat' split
 all_goals first
  | exact⟨[],rfl,by simp,fun m _=>rfl⟩
  | skip
 ·cases l with
  | nil =>
   refine⟨[],rfl,by simp,fun m hm=>?_⟩
   cases m with
   | nil=>rfl
   | cons c m=>simp[esc13]at hm
  | cons e l =>
   simp only[esc13]
   split
   ·rename_i he
    refine⟨[e],rfl,fun c hc=>?_,fun m hm=>?_⟩
    ·simp at hc;subst hc;simp at he;exact .inl he
    ·simp[esc13,he]
   ·rename_i he
    refine⟨[],rfl,by simp,fun m hm=>?_⟩
    cases m with
    | nil=>simp at hm
    | cons c m=>simp at hm;subst hm;simp[esc13,he]
 ·refine⟨q,h1,fun c hc=>.inr (h2 c hc),fun m hm=>?_⟩
  rw[h3 m hm]
theorem skip10_split2 (l:By):∃q,l=q++skip10 l∧(∀c∈q,(c.toNat:Int)=10)∧∀m:By,m.head?=(skip10 l).head?→skip10 (q++m)=m:=by
 cases l with
 | nil =>
  refine⟨[],rfl,by simp,fun m hm=>?_⟩
  cases m with
  | nil=>rfl
  | cons c m=>simp[skip10]at hm
 | cons c l =>
  simp only[skip10]
  split
  ·rename_i hc
   refine⟨[c],rfl,by simpa using hc,fun m _=>(by simp[skip10,hc])⟩
  ·rename_i hc
   refine⟨[],rfl,by simp,fun m hm=>?_⟩
   cases m with
   | nil=>simp at hm
   | cons d m=>simp at hm;subst hm;simp[skip10,hc]
end Go.Proofs.YtfkecmlmnhbmoaaGreatDoor
