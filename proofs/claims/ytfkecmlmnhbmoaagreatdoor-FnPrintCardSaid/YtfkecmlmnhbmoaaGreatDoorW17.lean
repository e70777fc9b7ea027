/- Parts F8 F9. -/
import Derived.Test.YtfkecmlmnhbmoaaGreatDoorW16
set_option linter.unusedVariables false
set_option linter.unusedSimpArgs false
set_option maxRecDepth 100000
set_option maxHeartbeats 40000000
namespace Go.Proofs.YtfkecmlmnhbmoaaGreatDoor
open Go Go.RowKit
def LcAt (w:World)(k:Nat):Prop:=∃lb lo cap,w.cell? ⟨22,0,none⟩=some (.slice (some ⟨lb,lo,none⟩) 61 cap)∧w.cell? ⟨lb,lo+k*2,none⟩=some (.int .i64 (lcD k))∧w.cell? ⟨lb,lo+k*2+1,none⟩=some (.string (lcS k))
theorem run_slice188 (w:World)(b n:Nat)(h:n≤800):(Instr.sliceAt 188 (.pointer (some ⟨b,0,none⟩)) (some (.int .i64 0)) (some (.int .i64 n)) none).run Tryz.prog w=.ok (.slice (some ⟨b,0,none⟩) n 800) w:=by
 have hal:Tryz.prog.arrayLen 188=800:=by kernel_rfl
 have ht:Tryz.prog.underlying 188=some (.array (Tryz.prog.arrayLen 188) (Tryz.prog.elem 188)):=by kernel_rfl
 have hsz:(sizeOf (Tryz.prog.elem 188)).run Tryz.prog w=.ok 1 w:=by kernel_rfl
 rw[run_sliceAt_array_lh w 188 ⟨b,0,none⟩ ht .i64 .i64 0 n (by omega) (by omega) (by rw[hal];omega),hsz];simp[Result.andThen,slicedAt,hal,Addr.add]
theorem mul_step {X a d k n s q r O e:Nat}(hX:X=((10*a+d)*2^k+n)*10^e+O)(hs:s=n+d*2^k)(hq:q=s/10)(hr:r=s%10):X=(a*2^k+q)*10^(e+1)+(r*10^e+O):=by
 have h1:=Nat.div_add_mod s 10;rw[←hq,←hr]at h1;rw[hX,Nat.pow_succ]
 have e1:(10*a+d)*2^k+n=10*(a*2^k+q)+r:=by
  rw[Nat.add_mul,Nat.mul_assoc];generalize d*2^k=y at *;omega
 rw[e1,Nat.add_mul,Nat.mul_comm 10 (a*2^k+q),Nat.mul_assoc,Nat.mul_comm 10];omega
theorem mul_small {d k n s:Nat}(hd:d≤9)(hn:n<2^k)(hs:s=n+d*2^k)(hk:2^k≤1152921504606846976):s/10<2^k∧s≤11529215046068469759:=by
 have h1:d*2^k≤9*2^k:=Nat.mul_le_mul_right _ hd;generalize 2^k=p at *;omega
theorem set_last {P T:By}{w:Nat}(h:P.length=w)(h1:1≤w)(x:UInt8):(P++T).set (w-1) x=P.take (w-1)++(x::T):=by
 rw[List.set_append_left _ _ (by omega),List.set_eq_take_append_cons_drop,if_pos (by omega),show w-1+1=P.length by omega,List.drop_length];simp
theorem DecAt.putL {w:World}{b:Nat}{P T:By}{wv nd:Nat}{dp:Int}{neg tr:Bool}(h:DecAt w b (P++T) nd dp neg tr)(hp:P.length=wv)(h1:1≤wv)(h8:wv≤800){q:Nat}(h9:q≤9) :
  DecAt (w.setCell ⟨b,wv-1,none⟩ (.int .u8 ((q:Int)+48))) b (P.take (wv-1)++(UInt8.ofNat (q+48)::T)) nd dp neg tr:=by
 have:=h.setDig (i:=wv-1) (by omega) (UInt8.ofNat (q+48));rw[set_last hp h1,dig_of h9]at this;simpa using this
theorem dv_dcons {O:By}{q:Nat}(h9:q≤9):dv (UInt8.ofNat (q+48)::O)=q*10^O.length+dv O:=by rw[dv_cons,dig_of h9,Nat.add_sub_cancel]
theorem isDs_dcons {O:By}{q:Nat}(h:isDs O)(h9:q≤9):isDs (UInt8.ofNat (q+48)::O):=isDs_cons.2 ⟨by rw[dig_of h9];omega,h⟩
theorem pow5_mod (k:Nat):5^k%10≠0:=by
 intro h;have h2:2 ∣ 5^k:=Nat.dvd_trans (by decide:(2:Nat) ∣ 10) (Nat.dvd_of_mod_eq_zero h);have h3:5^k%2=1:=by rw[Nat.pow_mod];simp
 omega
theorem lsh_at (w:World)(b:Nat)(A:By)(nd:Nat)(dp:Int)(neg tr:Bool)(k:Nat)(hk1:1≤k)(hk2:k≤60)(hLc:LcAt w k)(hD:DecAt w b A nd dp neg tr)(hds:isDs (A.take nd))(hnd:nd+k≤799)(hn1:1≤nd)(hN0:dv (A.take nd)≠0)(hN:numD (dv (A.take nd))=nd)(hdp1:-100000≤dp)(hdp2:dp≤100000) :
  Calls Tryz.prog 172 #[.pointer (some ⟨b,0,none⟩),.int .u64 k] w fun e w'=>e=.returned (.tuple #[])∧DecN w' b (lsN k (dv (A.take nd))) (lsP k (dv (A.take nd)) dp) neg tr∧w.grownBy w' (some b):=by
 have hA800:=hD.1;generalize hR1:lsN k (dv (A.take nd))=R1;generalize hR2:lsP k (dv (A.take nd)) dp=R2;obtain⟨HR1,HR2⟩:=xh2 hR1 hR2;clear hR1 hR2
 obtain⟨c0,c1,c2,c3,cf⟩:=hD.cells;obtain⟨lb,lo,lcap,cl0,cl1,cl2⟩:=hLc;have hlen:nd≤A.length:=by have:=hD.1;omega
 have h60:2^k≤1152921504606846976:=Nat.le_trans (Nat.pow_le_pow_right (by decide) hk2) (by decide);obtain⟨HD,Hds,HN0,HN,Hlen,H60⟩:=xh6 hD hds hN0 hN hlen h60;clear hD hds hN0 hN hlen h60
 obtain⟨ld,hld⟩:∃ld,ld=lcD k:=⟨_,rfl⟩;rw[←hld]at cl1;have hldk:ld≤k:=by have:=pow5_numD k hk1;unfold lcD at hld;omega
 have Hld:=xhd hld;clear hld
 obtain⟨ls,hls⟩:∃ls,ls=lcS k:=⟨_,rfl⟩;rw[←hls]at cl2;have hlsL:ls.data.toList=digF 60 (5^k):=by rw[hls];simp[lcS]
 obtain⟨Hls,HlsL⟩:=xh2 hls hlsL;clear hls hlsL
 go_enter Tryz.func172,Tryz.ntmps172;go_wp2_with fail
 have h5:=pow5_numD k hk1;have hds5:=digF_spec 60 (5^k) (by omega);have hls2:ls.size≤1000:=by have:=congrArg List.length HlsL.out;rw[hds5.2.2]at this;simp at this;omega
 have hpil:=pilB_spec (A.take nd) (digF 60 (5^k)) Hds.out hds5.2.1 (.inr (by rw[hds5.1];exact pow5_mod k));rw[hds5.1,hds5.2.2,List.length_take,Nat.min_eq_left Hlen.out]at hpil;have hLd:=lsh_digits (k:=k) HN0.out hk1;rw[HN.out]at hLd;obtain⟨B,hB⟩:∃B,B=pilB (A.take nd) (digF 60 (5^k)):=⟨_,rfl⟩;rw[←hB]at hpil;rw[←Hld.out]at hLd
 have hX:∃dl,numD (dv (A.take nd)*2^k)=nd+dl∧((B=true∧ld=dl+1)∨(B=false∧ld=dl))∧dl≤k:=by
  have h9:nd≤numD (dv (A.take nd)*2^k):=by
   have:=numD_mono (a:=dv (A.take nd)) (b:=dv (A.take nd)*2^k) (Nat.le_mul_of_pos_right _ (Nat.pow_pos (by decide)));rw[HN.out]at this;exact this
  refine⟨numD (dv (A.take nd)*2^k)-nd,by omega,?_,?_⟩
  ·cases B with
   | true=>left;rw[if_pos (hpil.1 rfl)]at hLd;exact⟨rfl,by omega⟩
   | false=>right;rw[if_neg (fun x=>by cases hpil.2 x)]at hLd;exact⟨rfl,by omega⟩
  ·split at hLd<;>omega
 clear hpil hLd h5 hds5;obtain⟨dl,hXd,hBd,hdlk⟩:=hX;obtain⟨HXd,HB⟩:=xh2 hXd hB;clear hXd hB
 have hsl:=fun w'=>run_slice188 w' b nd (by omega)
 go_quiet ((go_at_call 208;with_reducible exact Calls.quiet_of (pil_any _ b A nd dp neg tr (HD.out.drewN _) (by omega) 800 (by omega) ls _ HlsL.out hls2)))
 rw[←HB.out];clear HB;rcases hBd with⟨rfl,hl9⟩|⟨rfl,hl9⟩
 all_goals
  subst ld;go_wp2_with fail
  go_loopg [5,6,7] nd (fun g t5 t6 t7 wr=>∃(z:Int) (i n wv:Nat) (P O:By),t5=.int .i64 z∧z=i-1∧t6=.int .i64 wv∧t7=.int .u64 n∧g=i∧i≤nd∧P.length=wv∧wv=i+dl∧P.take i=A.take i∧isDs O∧O.length=nd-i∧dv (A.take nd)*2^k=(dv (A.take i)*2^k+n)*10^(nd-i)+dv O∧n<2^k∧DecAt wr b (P++(O++A.drop (nd+dl))) nd dp neg tr∧w.grownBy wr (some b))
  case atStart=>exact⟨_,nd,0,nd+dl,A.take (nd+dl),[],rfl,rfl,by go_num,rfl,rfl,Nat.le_refl _,by simp;omega,rfl,by rw[List.take_take,Nat.min_eq_left (by omega)],(fun _ h=>by cases h),by simp,by simp[dv],Nat.pow_pos (by decide),by simpa using HD.out.drewN nq,gr_drewN (xgr _ _) _⟩
  case round =>
   clear c0 c1 c2 c3 cf cl0 cl1 cl2;obtain⟨z,i,n,wv,P,O,rfl,hz,rfl,rfl,hg,hi,hPl,hwv,hPt,hOd,hOl,hX,hnk,hD2,hG⟩:=hrel;obtain⟨c0,c1,c2,c3,cf⟩:=hD2.cells;obtain⟨Hg,HPl,HPt,HOd,HOl,HX,Hnk,HG⟩:=xh8 hg hPl hPt hOd hOl hX hnk hG;clear hg hPl hPt hOd hOl hX hnk hG
   cases i with
   | zero =>
    obtain rfl:z=-1:=by omega
    have hwv1:wv≤799:=by omega
    obtain⟨HD2,Hwv⟩:=xh2 hD2 hwv;clear hD2 hwv
    clear hz;go_wp2_with fail
    have Hg9:=xhd (show n=n from rfl)
    go_loopg [6,7] n (fun g t6 t7 wr=>∃(n wv cc:Nat) (P O:By),t6=.int .i64 wv∧t7=.int .u64 n∧g=n∧P.length=wv∧wv+cc=nd+dl∧O.length=cc∧isDs O∧dv (A.take nd)*2^k=n*10^cc+dv O∧n≤1152921504606846976∧DecAt wr b (P++(O++A.drop (nd+dl))) nd dp neg tr∧w.grownBy wr (some b))
    case atStart=>exact⟨n,wv,nd,P,O,rfl,rfl,Hg9.out,HPl.out,by have:=Hwv.out;omega,HOl.out,HOd.out,by have:=HX.out;rw[this];simp[dv],by have:=Hnk.out;have:=H60.out;omega,HD2.out,HG.out⟩
    case round =>
     clear Hg9 Hg HPl HPt HOd HOl HX Hnk HG HD2 Hwv hwv1 hi c0 c1 c2 c3 cf;obtain⟨n,wv,cc,P,O,rfl,rfl,hg,hPl,hwc,hOl,hOd,hX,hnb,hD2,hG⟩:=hrel;obtain⟨c0,c1,c2,c3,cf⟩:=hD2.cells;have hOlt:=dv_lt' O hOd;rw[hOl]at hOlt;obtain⟨Hg,HPl,HOd,HOl,HG⟩:=xh5 hg hPl hOd hOl hG;clear hg hPl hOd hOl hG
     by_cases hn0:0<n
     ·have hwv2:1≤wv:=by
       have h1:10^cc≤dv (A.take nd)*2^k:=by rw[hX];have:=Nat.mul_le_mul_right (10^cc) hn0;omega
       have:=numD_ge_of h1;have:=HXd.out;omega
      obtain⟨HX,HOlt⟩:=xh2 hX hOlt;clear hX hOlt
      obtain⟨c9,hc9,cw⟩:=hD2.digE (i:=wv-1) (by omega);clear hc9;have hwv1:wv≤799:=by omega
      have hwvi:(wv:Int)-1=((wv-1:Nat):Int):=by omega
      obtain⟨HD2,Hwc⟩:=xh2 hD2 hwc;clear hD2 hwc
      obtain⟨q,hq⟩:∃q,q=n/10:=⟨_,rfl⟩;obtain⟨r,hr⟩:∃r,r=n%10:=⟨_,rfl⟩;have hqi:(n:Int)/10=(q:Int):=by omega
      have hri:(n:Int)-10*(q:Int)=(r:Int):=by omega
      have hr9:r≤9:=by omega
      have hq9:q≤1152921504606846976:=by omega
      have Hqn:=xhd (show q<n by omega);obtain⟨Hq,Hr⟩:=xh2 hq hr;clear hq hr
      go_wp2_with fail
      go_roundg q
      case measure=>rw[Hg.out];exact Hqn.out
      case rel =>
       refine⟨q,wv-1,cc+1,P.take (wv-1),UInt8.ofNat (r+48)::O,rfl,rfl,rfl,by rw[List.length_take,HPl.out];omega,by have:=Hwc.out;omega,by rw[List.length_cons,HOl.out],isDs_dcons HOd.out hr9,?_,hq9,HD2.out.putL HPl.out hwv2 (by omega) hr9,(by repeat (first|exact HG.out|apply gr_set|apply gr_drewN|apply gr_drew|apply gr_alloc))⟩;have h2:=mul_step (X:=dv (A.take nd)*2^k) (a:=0) (d:=0) (k:=k) (n:=n) (e:=cc) (O:=dv O) (by rw[HX.out];simp) (by simp) Hq.out Hr.out;rw[h2,dv_dcons hr9,HOl.out];simp
     ·obtain rfl:n=0:=by omega
      have hcc:cc=nd+dl:=by
       have h1:dv (A.take nd)*2^k<10^cc:=by rw[hX];omega
       have:=numD_le_of h1;have:=HXd.out;omega
      obtain rfl:wv=0:=by omega
      obtain rfl:P=[]:=List.eq_nil_of_length_eq_zero HPl.out;have hX2:dv (A.take nd)*2^k=dv O:=by rw[hX];simp
      obtain⟨HX,HX2,HOlt,HD2,Hwc⟩:=xh5 hX hX2 hOlt hD2 hwc;clear hX hX2 hOlt hD2 hwc
      subst hcc;have h800:¬800≤nd+dl:=by omega
      go_wp2_with fail
      refine(trim_any _ b (O++A.drop (nd+dl)) (nd+dl) (dp+dl) neg tr (by simpa using (HD2.out.setNd (nd+dl)).setDp (dp+dl)) (by omega)).mono ?_;rintro e w9⟨rfl,hD9,hg9⟩;go_wp2_with fail
      go_end0;have hQ1:(O++A.drop (nd+dl)).take (nd+dl)=O:=by rw[←HOl.out];simp
      have hX0:dv (A.take nd)*2^k≠0:=Nat.mul_ne_zero HN0.out (pow2_ne k);have hT:=trimN_dv (nd+dl) (O++A.drop (nd+dl)) (by rw[List.length_append,List.length_drop,HOl.out,hA800];omega) (by rw[hQ1];exact HOd.out) (by rw[hQ1,←HX2.out];exact hX0) (by rw[hQ1,←HX2.out];exact HXd.out);rw[hQ1,←HX2.out,show strip (dv (A.take nd)*2^k)=R1 from HR1.out]at hT;have hR0:R1≠0:=by rw[←HR1.out];exact strip_pos hX0
      have hR9:numD R1≠0:=by have:=numD_pos1 hR0;omega
      rw[hT.1]at hD9;have hdp9:dpN (numD R1) (dp+dl)=R2:=by unfold dpN;rw[if_neg hR9,←HR2.out];unfold lsP;rw[HXd.out,HN.out];omega
      rw[hdp9]at hD9;refine⟨rfl,⟨?_,_,hD9,?_,?_⟩,(gr_set (gr_set HG.out _ _) _ _).trans hg9⟩
      ·rw[←hT.1];have:=trimN_le (O++A.drop (nd+dl)) (nd+dl);omega
      ·rw[←hT.1];exact isDs_take (n:=nd+dl) (by rw[hQ1];exact HOd.out) (trimN_le _ _)
      ·rw[←hT.1];exact hT.2
   | succ i =>
    obtain rfl:z=(i:Int):=by omega
    clear hz;obtain⟨c,hc,cd⟩:=hD2.digE (i:=i) (by omega);obtain⟨c9,hc9,cw⟩:=hD2.digE (i:=wv-1) (by omega);clear hc9;have hwv1:wv≤799:=by omega
    have hwv2:1≤wv:=by omega
    have hwvi:(wv:Int)-1=((wv-1:Nat):Int):=by omega
    obtain⟨HD2,Hwv⟩:=xh2 hD2 hwv;clear hD2 hwv
    have hc5:A.getD i 0=c:=by
     rw[←hc];have h1:(P.take (i+1)).getD i 0=(A.take (i+1)).getD i 0:=by rw[HPt.out]
     have h2:∀(L:By),(L.take (i+1)).getD i 0=L.getD i 0:=by intro L;simp[List.getD_eq_getElem?_getD]
     rw[h2,h2]at h1;rw[←h1];simp only[List.getD_eq_getElem?_getD];rw[List.getElem?_append_left (by rw[HPl.out,Hwv.out];omega)]
    have hc2:=isDs_at Hds.out (r:=i) (by omega) Hlen.out;rw[hc5]at hc2;obtain⟨hc3,hc4⟩:=hc2;obtain⟨Hc,Hc5⟩:=xh2 hc hc5;clear hc hc5
    obtain⟨s,hs⟩:∃s,s=n+(c.toNat-48)*2^k:=⟨_,rfl⟩;have hsm:=mul_small (by omega) Hnk.out hs H60.out
    have hx:IntKind.u64.wrap ((n:Int)+IntKind.u64.wrap (((c.toNat:Int)-48)*2^k))=(s:Int):=by
     rw[show ((c.toNat:Int)-48)=((c.toNat-48:Nat):Int) by omega,int_pow2,←Int.natCast_mul,IntWalk.u64_in (((c.toNat-48)*2^k:Nat):Int) (by omega),IntWalk.u64_in _ (by omega),hs];rfl
    obtain⟨q,hq⟩:∃q,q=s/10:=⟨_,rfl⟩;obtain⟨r,hr⟩:∃r,r=s%10:=⟨_,rfl⟩;have hqi:(s:Int)/10=(q:Int):=by omega
    have hri:(s:Int)-10*(q:Int)=(r:Int):=by omega
    have hr9:r≤9:=by omega
    have hs9:=hsm.2;have hq9:q≤1152921504606846976:=by omega
    have hq2:q<2^k:=by rw[hq];exact hsm.1
    clear hsm;obtain⟨Hs,Hq,Hr,Hq2⟩:=xh4 hs hq hr hq2;clear hs hq hr hq2
    go_wp2_with fail
    go_roundg i
    case measure=>rw[Hg.out];omega
    case rel =>
     refine⟨_,i,q,wv-1,P.take (wv-1),UInt8.ofNat (r+48)::O,rfl,rfl,rfl,rfl,rfl,by omega,by rw[List.length_take,HPl.out];omega,by have:=Hwv.out;omega,?_,isDs_dcons HOd.out hr9,by rw[List.length_cons,HOl.out];omega,?_,Hq2.out,HD2.out.putL HPl.out hwv2 (by omega) hr9,(by repeat (first|exact HG.out|apply gr_set|apply gr_drewN|apply gr_drew|apply gr_alloc))⟩
     ·have h1:=congrArg (List.take i) HPt.out
      have hw9:i≤wv-1:=by have:=Hwv.out;omega
      simp only[List.take_take,Nat.min_eq_left (Nat.le_succ i)]at h1;simp only[List.take_take,Nat.min_eq_left hw9,h1]
     ·have h1:=HX.out
      rw[dv_take (by have:=Hlen.out;omega),Hc5.out]at h1;have h2:=mul_step h1 Hs.out Hq.out Hr.out;rw[h2,dv_dcons hr9,HOl.out,show nd-(i+1)+1=nd-i by omega]
theorem DecN.heap {w w':World}{b N:Nat}{dp:Int}{neg tr:Bool}(h:DecN w b N dp neg tr)(e:w'.heap[b]?=w.heap[b]?):DecN w' b N dp neg tr:=by
 obtain⟨h1,A,h3,h4,h5⟩:=h;exact⟨h1,A,h3.of_heap e,h4,h5⟩
theorem shl_any (w:World)(b N:Nat)(dp:Int)(neg tr:Bool)(k:Nat)(hk1:1≤k)(hk2:k≤60)(hLc:LcAt w k)(hD:DecN w b N dp neg tr)(hnd:numD N+k≤799)(hN:N≠0)(hdp1:-100000≤dp)(hdp2:dp≤100000) :
  Calls Tryz.prog 123 #[.pointer (some ⟨b,0,none⟩),.int .i64 k] w fun e w'=>e=.returned (.tuple #[])∧DecN w' b (lsN k N) (lsP k N dp) neg tr∧w.grownBy w' (some b):=by
 obtain⟨h800,A,hD,hds,hdv⟩:=hD;obtain⟨nd,hnn⟩:∃nd,nd=numD N:=⟨_,rfl⟩;rw[←hnn]at hD hds hdv hnd h800;have hn1:1≤nd:=by have:=numD_pos1 hN;omega
 have hc:=(lsh_at w b A nd dp neg tr k hk1 hk2 hLc hD hds hnd hn1 (by rw[hdv];exact hN) (by rw[hdv];exact hnn.symm) hdp1 hdp2);rw[hdv]at hc;obtain⟨c0,c1,c2,c3,cf⟩:=hD.cells;have Hc:=xhd hc;clear hD hds hdv hc hnn hLc;generalize lsN k N=R1 at Hc⊢;generalize lsP k N dp=R2 at Hc⊢;go_enter Tryz.func123,Tryz.ntmps123;go_wp2_with fail
 go_loopg [1] 0 (fun g t1 wr=>t1=.int .i64 k∧w=wr)
 case atStart=>exact⟨rfl,rfl⟩
 case round =>
  obtain⟨rfl,rfl⟩:=hrel;go_wp2_with fail
  refine Hc.out.mono ?_;rintro e w'⟨rfl,hD,hG⟩;obtain⟨HD,HG⟩:=xh2 hD hG;clear hD hG
  go_wp2_with fail
  go_end0;exact⟨rfl,HD.out,HG.out⟩
theorem shr_any (w:World)(b N:Nat)(dp:Int)(neg tr:Bool)(k:Nat)(hk1:1≤k)(hk2:k≤60)(hD:DecN w b N dp neg tr)(hnd:numD N+k≤799)(hN:N≠0)(hdp1:-100000≤dp)(hdp2:dp≤100000) :
  Calls Tryz.prog 123 #[.pointer (some ⟨b,0,none⟩),.int .i64 (-(k:Int))] w fun e w'=>e=.returned (.tuple #[])∧DecN w' b (rsN k N) (rsP k N dp) neg tr∧w.grownBy w' (some b):=by
 obtain⟨h800,A,hD,hds,hdv⟩:=hD;obtain⟨nd,hnn⟩:∃nd,nd=numD N:=⟨_,rfl⟩;rw[←hnn]at hD hds hdv hnd h800;have hn1:1≤nd:=by have:=numD_pos1 hN;omega
 have hc:=(rsh_at w b A nd dp neg tr k hk1 hk2 hD hds hnd hn1 (by rw[hdv];exact hN) (by rw[hdv];exact hnn.symm) hdp1 hdp2);rw[hdv]at hc;obtain⟨c0,c1,c2,c3,cf⟩:=hD.cells;have Hc:=xhd hc;clear hD hds hdv hc hnn;generalize rsN k N=R1 at Hc⊢;generalize rsP k N dp=R2 at Hc⊢;obtain⟨z,hz⟩:∃z:Int,z=-(k:Int):=⟨_,rfl⟩;have hz1:z<0:=by omega
 have hz2:-60≤z:=by omega
 have hz3:-z=(k:Int):=by omega
 rw[←hz];clear hz;go_enter Tryz.func123,Tryz.ntmps123;go_wp2_with fail
 go_loopg [1] 0 (fun g t1 wr=>t1=.int .i64 z∧w=wr)
 case atStart=>exact⟨rfl,rfl⟩
 case round =>
  obtain⟨rfl,rfl⟩:=hrel;go_wp2_with fail
  refine Hc.out.mono ?_;rintro e w'⟨rfl,hD,hG⟩;obtain⟨HD,HG⟩:=xh2 hD hG;clear hD hG
  go_wp2_with fail
  go_end0;exact⟨rfl,HD.out,HG.out⟩
def pdN (N r:Nat):Nat:=if r≤numD N then N/10^(numD N-r) else N*10^(r-numD N)
theorem pd_eq {A:By}{N r:Nat}(hl:numD N≤A.length)(hd:isDs (A.take (numD N)))(hv:dv (A.take (numD N))=N):pd A (numD N) r=pdN N r:=by
 unfold pdN
 by_cases h:r≤numD N
 ·rw[if_pos h]
  have h1:=pd_add hl hd r (numD N-r);rw[show r+(numD N-r)=numD N by omega,pd_nd,hv]at h1;exact(Nat.div_eq_of_lt_le (by rw[Nat.mul_comm];exact h1.1) (by rw[Nat.mul_comm];exact h1.2)).symm
 ·rw[if_neg h]
  unfold pd;rw[if_neg h,hv]
theorem pdN_zero (N:Nat):pdN N 0=0:=by
 unfold pdN;rw[if_pos (Nat.zero_le _)];exact Nat.div_eq_of_lt (by simpa using numD_lt N)
def ruB (N r:Nat)(tr:Bool):Bool:=decide (r<numD N)&&(if pdN N (r+1)%10=5∧r+1=numD N then tr||decide (pdN N r%2=1) else decide (5≤pdN N (r+1)%10))
theorem ruB_ge {N r:Nat}{tr:Bool}(h:¬r<numD N):ruB N r tr=false:=by unfold ruB;simp[h]
theorem pdN_digit {A:By}{N r:Nat}(hl:numD N≤A.length)(hd:isDs (A.take (numD N)))(hv:dv (A.take (numD N))=N)(hr:r<numD N):pdN N (r+1)=10*pdN N r+((A.getD r 0).toNat-48)∧48≤(A.getD r 0).toNat∧(A.getD r 0).toNat≤57:=by
 rw[←pd_eq hl hd hv,←pd_eq hl hd hv];exact⟨pd_lt hr hl,isDs_at hd hr hl⟩
theorem sru_any (w:World)(b N:Nat)(dp:Int)(neg tr:Bool)(hD:DecN w b N dp neg tr)(r:Nat)(hr:r≤100000) :
  Calls Tryz.prog 174 #[.pointer (some ⟨b,0,none⟩),.int .i64 r] w fun e w'=>e=.returned (.bool (ruB N r tr))∧∃m,w'=w.drewN m:=by
 obtain⟨h800,A,hD,hds,hdv⟩:=hD;generalize hR:ruB N r tr=R;obtain⟨c0,c1,c2,c3,cf⟩:=hD.cells;obtain⟨nd,hnn⟩:∃nd,nd=numD N:=⟨_,rfl⟩;rw[←hnn]at c0 h800;have HR:=xhd hR;clear hR
 by_cases hlt:r<nd
 ·have hd1:=pdN_digit (r:=r) (by have:=hD.1;omega) hds hdv (by omega)
  obtain⟨c,hc,cd⟩:=hD.digE (i:=r) (by omega);rw[hc]at hd1;obtain⟨hd1,hc1,hc2⟩:=hd1;have hmd:pdN N (r+1)%10=c.toNat-48:=by omega
  have hn0:¬((r:Int)<0):=by omega
  by_cases h5:c.toNat=53∧r+1=nd
  ·obtain⟨h5,h6⟩:=h5
   rw[h5]at cd;have hR2:R=(tr||decide (pdN N r%2=1)):=by rw[←HR.out];unfold ruB;rw[if_pos ⟨by omega,by omega⟩,decide_eq_true (by omega:r<numD N)];rfl
   have hb6:(((r:Int)+1)==(nd:Int))=true:=by simp;omega
   have HR2:=xhd hR2;clear hR2
   cases tr
   ·cases r with
    | zero =>
     have HD:=xhd hD;clear hD
     clear hmd hd1 hc HR h6 hnn;go_enter Tryz.func174,Tryz.ntmps174;go_wp2_with fail
     go_ret;rw[HR2.out];exact⟨by simp[pdN_zero],0,rfl⟩
    | succ q =>
     have hd2:=pdN_digit (r:=q) (by have:=hD.1;omega) hds hdv (by omega);obtain⟨c9,hc9,cd9⟩:=hD.digE (i:=q) (by omega);rw[hc9]at hd2;obtain⟨hd2,hc91,hc92⟩:=hd2;have hR3:R=decide ((c9.toNat-48)%2=1):=by rw[HR2.out,Bool.false_or,hd2];congr 1;simp;omega
     obtain⟨d9,hd9⟩:∃d9,d9=c9.toNat-48:=⟨_,rfl⟩;have hd9i:(c9.toNat:Int)-48=(d9:Int):=by omega
     rw[←hd9]at hR3;have hd99:d9≤9:=by omega
     obtain⟨HD,HR3⟩:=xh2 hD hR3;clear hD hR3
     clear hmd hd1 hd2 hc HR h6 hnn hd9 hc9
     by_cases hodd:d9%2=1
     ·have ho:(((d9:Int)%2) != 0)=true:=by simp;omega
      have Hodd:=xhd hodd;clear hodd;go_enter Tryz.func174,Tryz.ntmps174;go_wp2_with fail
      go_ret;rw[HR3.out];exact⟨by simp[Hodd.out],0,rfl⟩
     ·have ho:(((d9:Int)%2) != 0)=false:=by simp;omega
      have Hodd:=xhd hodd;clear hodd;go_enter Tryz.func174,Tryz.ntmps174;go_wp2_with fail
      go_ret;rw[HR3.out];exact⟨by simp[Hodd.out],0,rfl⟩
   ·have HD:=xhd hD;clear hD
    clear hmd hd1 hc HR h6 hnn;go_enter Tryz.func174,Tryz.ntmps174;go_wp2_with fail
    go_ret;rw[HR2.out];exact⟨by simp,0,rfl⟩
  ·have hR2:R=decide (53≤c.toNat):=by
    rw[←HR.out];unfold ruB
    rw[if_neg (by intro x;exact h5 ⟨by omega,by omega⟩),decide_eq_true (by omega:r<numD N),hmd,Bool.true_and];congr 1;simp;omega
   obtain⟨HR2,HD⟩:=xh2 hR2 hD;clear hR2 hD
   clear hmd hd1 hc HR
   by_cases h53:c.toNat=53
   ·have hb6:(((r:Int)+1)==(nd:Int))=false:=by simp;omega
    rw[h53]at cd;clear h5 hnn;have H53:=xhd h53;clear h53 hc1 hc2;go_enter Tryz.func174,Tryz.ntmps174;go_wp2_with fail
    go_ret;rw[HR2.out];exact⟨by rw[H53.out];rfl,0,rfl⟩
   ·have hb5:((c.toNat:Int)==53)=false:=by simp;omega
    clear h5 hnn;have H53:=xhd h53;clear h53
    by_cases h54:53≤c.toNat
    all_goals
     go_enter Tryz.func174,Tryz.ntmps174;go_wp2_with fail
     go_ret;rw[HR2.out];exact⟨by simp[h54];omega,0,rfl⟩
 ·have hR2:R=false:=by rw[←HR.out];exact ruB_ge (by omega)
  have hn0:¬((r:Int)<0):=by omega
  obtain⟨HR2,HD⟩:=xh2 hR2 hD;clear hR2 hD
  clear HR hnn;go_enter Tryz.func174,Tryz.ntmps174;go_wp2_with fail
  go_ret;rw[HR2.out];exact⟨rfl,0,rfl⟩
def rintN (N:Nat)(dp:Nat)(tr:Bool):Nat:=pdN N dp+if ruB N dp tr then 1 else 0
theorem pdN_small {N r:Nat} : pdN N r<10^r:=by
 unfold pdN;have h:=numD_lt N
 by_cases hr:r≤numD N
 ·rw[if_pos hr,Nat.div_lt_iff_lt_mul (pow10_pos _),←Nat.pow_add,show r+(numD N-r)=numD N by omega];exact h
 ·rw[if_neg hr]
  calc N*10^(r-numD N)<10^numD N*10^(r-numD N):=Nat.mul_lt_mul_of_pos_right h (pow10_pos _)
   _=10^r:=by rw[←Nat.pow_add];congr 1;omega
theorem pdN_ge {N r:Nat}(h:numD N≤r):pdN N (r+1)=10*pdN N r:=by
 unfold pdN;rw[if_neg (by omega)]
 by_cases e:r=numD N
 ·subst e;simp;omega
 ·rw[if_neg (by omega),show r+1-numD N=(r-numD N)+1 by omega,Nat.pow_succ,←Nat.mul_assoc];omega
theorem ten17 {r:Nat}(h:r≤17):10^r≤100000000000000000:=Nat.le_trans (pow10_le h) (by decide)
theorem rint_any (w:World)(b N:Nat)(dpn:Nat)(neg tr:Bool)(hdp:dpn≤17)(hD:DecN w b N dpn neg tr) :
  Calls Tryz.prog 201 #[.pointer (some ⟨b,0,none⟩)] w fun e w'=>e=.returned (.int .u64 (rintN N dpn tr))∧∃m,w'=w.drewN m:=by
 have HDN:=xhd hD;obtain⟨h800,A,hD,hds,hdv⟩:=hD;generalize hR:rintN N dpn tr=R;obtain⟨c0,c1,c2,c3,cf⟩:=hD.cells;have hlen:numD N≤A.length:=by have:=hD.1;omega
 obtain⟨HD,HR,Hlen,Hds,Hdv⟩:=xh5 hD hR hlen hds hdv;clear hD hR hlen hds hdv
 obtain⟨nd,hnn⟩:∃nd,nd=numD N:=⟨_,rfl⟩;rw[←hnn]at c0 h800;have Hnn:=xhd hnn;clear hnn
 go_enter Tryz.func201,Tryz.ntmps201;go_wp2_with fail
 go_loopg [3,4] dpn (fun g t3 t4 wr=>∃i n:Nat,t3=.int .i64 i∧t4=.int .u64 n∧g=dpn-i∧i≤dpn∧n=pdN N i∧(i≤nd∨i=0)∧w=wr)
 case atStart=>exact⟨0,0,rfl,rfl,rfl,by omega,(pdN_zero N).symm,.inr rfl,rfl⟩
 case round =>
  obtain⟨i,n,rfl,rfl,hg,hi,hn,hin,rfl⟩:=hrel;have hn17:n≤100000000000000000:=by rw[hn];have:=pdN_small (N:=N) (r:=i);have:=ten17 (r:=i) (by omega);omega
  obtain⟨Hg,Hn⟩:=xh2 hg hn;clear hg hn
  by_cases h1:i<dpn∧i<nd
  ·obtain⟨h1,h2⟩:=h1
   obtain⟨c,hc,cd⟩:=HD.out.digE (i:=i) (by omega);have hd1:=pdN_digit (r:=i) Hlen.out Hds.out Hdv.out (by have:=Hnn.out;omega);rw[hc]at hd1;obtain⟨hd1,hc1,hc2⟩:=hd1;obtain⟨Hd1,Hc⟩:=xh2 hd1 hc;clear hd1 hc
   clear hin;go_wp2_with fail
   go_roundg (dpn-(i+1))
   case measure=>rw[Hg.out];omega
   case rel=>exact⟨i+1,n*10+(c.toNat-48),by go_num,ret_num (by omega),rfl,by omega,by rw[Hd1.out,←Hn.out];omega,.inl (by omega),rfl⟩
  ·have hin2:i=dpn∨nd≤i:=by omega
   have Hin2:=xhd hin2;clear hin2
   by_cases h2:i<dpn
   ·have h3:¬i<nd:=by omega
    clear h1 hin;go_wp2_with fail
    have Hg9:=xhd (show dpn-i=dpn-i from rfl)
    go_loopg [3,4] (dpn-i) (fun g t3 t4 wr=>∃i n:Nat,t3=.int .i64 i∧t4=.int .u64 n∧g=dpn-i∧i≤dpn∧n=pdN N i∧(i=dpn∨nd≤i)∧w=wr)
    case atStart=>exact⟨i,n,rfl,rfl,Hg9.out,hi,Hn.out,Hin2.out,rfl⟩
    case round =>
     clear Hg9 Hg Hn Hin2 hn17 hi;obtain⟨i,n,rfl,rfl,hg,hi,hn,hin,rfl⟩:=hrel;have hn17:n≤100000000000000000:=by rw[hn];have:=pdN_small (N:=N) (r:=i);have:=ten17 (r:=i) (by omega);omega
     obtain⟨Hg,Hn⟩:=xh2 hg hn;clear hg hn
     by_cases h9:i<dpn
     ·have hin2:nd≤i:=by omega
      clear hin;go_wp2_with fail
      go_roundg (dpn-(i+1))
      case measure=>rw[Hg.out];omega
      case rel=>exact⟨i+1,n*10,by go_num,by go_num,rfl,by omega,by rw[pdN_ge (by have:=Hnn.out;omega),←Hn.out];omega,.inr (by omega),rfl⟩
     ·obtain rfl:i=dpn:=by omega
      clear hin;go_wp2_with fail
      refine(sru_any _ b N i neg tr (by exact HDN.out) i (by omega)).mono ?_;rintro e w1⟨rfl,m,hw⟩;have Hw:=xhd hw;clear hw
      have hR1:=HR.out;unfold rintN at hR1;rcases xbt (ruB N i tr) with hru|hru
      all_goals
       rw[hru]at hR1⊢;have HR1:=xhd hR1;clear hR1
       go_wp2_with fail
       go_ret;have e:R=_:=HR1.out.symm;rw[e,Hn.out];exact⟨by simp,m,Hw.out⟩
   ·clear h1 hin
    go_wp2_with fail
    have Hg9:=xhd (show dpn-i=dpn-i from rfl)
    go_loopg [3,4] (dpn-i) (fun g t3 t4 wr=>∃i n:Nat,t3=.int .i64 i∧t4=.int .u64 n∧g=dpn-i∧i≤dpn∧n=pdN N i∧(i=dpn∨nd≤i)∧w=wr)
    case atStart=>exact⟨i,n,rfl,rfl,Hg9.out,hi,Hn.out,Hin2.out,rfl⟩
    case round =>
     clear Hg9 Hg Hn Hin2 hn17 hi;obtain⟨i,n,rfl,rfl,hg,hi,hn,hin,rfl⟩:=hrel;have hn17:n≤100000000000000000:=by rw[hn];have:=pdN_small (N:=N) (r:=i);have:=ten17 (r:=i) (by omega);omega
     obtain⟨Hg,Hn⟩:=xh2 hg hn;clear hg hn
     by_cases h9:i<dpn
     ·have hin2:nd≤i:=by omega
      clear hin;go_wp2_with fail
      go_roundg (dpn-(i+1))
      case measure=>rw[Hg.out];omega
      case rel=>exact⟨i+1,n*10,by go_num,by go_num,rfl,by omega,by rw[pdN_ge (by have:=Hnn.out;omega),←Hn.out];omega,.inr (by omega),rfl⟩
     ·obtain rfl:i=dpn:=by omega
      clear hin;go_wp2_with fail
      refine(sru_any _ b N i neg tr (by exact HDN.out) i (by omega)).mono ?_;rintro e w1⟨rfl,m,hw⟩;have Hw:=xhd hw;clear hw
      have hR1:=HR.out;unfold rintN at hR1;rcases xbt (ruB N i tr) with hru|hru
      all_goals
       rw[hru]at hR1⊢;have HR1:=xhd hR1;clear hR1
       go_wp2_with fail
       go_ret;have e:R=_:=HR1.out.symm;rw[e,Hn.out];exact⟨by simp,m,Hw.out⟩
end Go.Proofs.YtfkecmlmnhbmoaaGreatDoor
