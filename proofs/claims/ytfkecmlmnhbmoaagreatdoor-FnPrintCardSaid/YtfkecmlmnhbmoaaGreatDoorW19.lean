/- Parts N1 B2a B2b B2c B2d P15 P20 J1. -/
import Derived.Test.YtfkecmlmnhbmoaaGreatDoorW10
import Derived.Test.YtfkecmlmnhbmoaaGreatDoorW18
set_option linter.unusedVariables false
set_option linter.unusedSimpArgs false
set_option maxRecDepth 100000
set_option maxHeartbeats 40000000
namespace Go.Proofs.YtfkecmlmnhbmoaaGreatDoor
open Go Go.RowKit
def nnF (x:Nat):Prop:=FloatKind.f64.format.order x x=some Ordering.eq∧x<18446744073709551616
theorem order_num (s:Bool)(m:Nat)(j:Int):(Ieee.Datum.number s m j).order (.number s m j)=some Ordering.eq:=by
 simp[Ieee.Datum.order]
theorem order_inf (s:Bool):(Ieee.Datum.infinity s).order (.infinity s)=some Ordering.eq:=by
 cases s<;>decide
theorem nnF_num {x:Nat}(h:∃s m j,FloatKind.f64.format.read x=.number s m j)(hx:x<18446744073709551616):nnF x:=by
 obtain⟨s,m,j,e⟩:=h;refine⟨?_,hx⟩;unfold Ieee.Format.order;rw[e];exact order_num s m j
theorem nnF_of {x:Nat}(h:x%9223372036854775808≤9218868437227405312)(hx:x<18446744073709551616):nnF x:=by
 refine⟨?_,hx⟩;have e1:FloatKind.f64.format=Ieee.double:=rfl;rw[e1];unfold Ieee.Format.order
 have key:(∃s m j,Ieee.double.read x=.number s m j)∨∃s,Ieee.double.read x=.infinity s:=by
  have e2:Ieee.double.signWeight=9223372036854775808:=by decide
  have e3:Ieee.double.infRung=9218868437227405312:=by decide
  unfold Ieee.Format.read;simp only[e2,e3]
  split
  ·exact .inl ⟨_,_,_,rfl⟩
  ·split
   ·exact .inl ⟨_,_,_,rfl⟩
   ·split
    ·exact .inr ⟨_,rfl⟩
    ·exfalso;omega
 rcases key with⟨s,m,j,e⟩|⟨s,e⟩
 ·rw[e];exact order_num s m j
 ·rw[e];exact order_inf s
theorem nnF_word {k:Nat}(neg:Bool)(h:k≤9218868437227405312):nnF (Ieee.double.word neg k):=by
 have e2:Ieee.double.signWeight=9223372036854775808:=by decide
 have e:Ieee.double.word neg k=k∨Ieee.double.word neg k=k+9223372036854775808:=by
  unfold Ieee.Format.word;rw[e2]
  cases neg
  ·left;simp
  ·right;simp;omega
 exact nnF_of (by omega) (by omega)
theorem nnF_nearest (neg:Bool)(m:Nat)(p:Int):nnF (Ieee.double.nearest neg m p):=by
 have e3:Ieee.double.infRung=9218868437227405312:=by decide
 unfold Ieee.Format.nearest
 by_cases h0:m=0
 ·rw[if_pos h0];exact nnF_word neg (by omega)
 ·rw[if_neg h0];exact nnF_word neg (by rw[←e3];exact Nat.min_le_right _ _)
theorem u64_and_le (a:Int)(k:Nat)(hk:k<18446744073709551616):0≤bits .and .u64 a (k:Int)∧bits .and .u64 a (k:Int)≤k:=by
 have h2:(BitVec.ofInt 64 (k:Int)).toNat=k:=by
  rw[BitVec.ofInt_natCast,BitVec.toNat_ofNat];exact Nat.mod_eq_of_lt (by omega)
 have h3:(BitVec.ofInt 64 a &&& BitVec.ofInt 64 (k:Int)).toNat≤k:=by
  rw[BitVec.toNat_and,h2];exact Nat.and_le_right
 have e:bits .and .u64 a (k:Int)=IntKind.u64.wrap ((BitVec.ofInt 64 a &&& BitVec.ofInt 64 (k:Int)).toNat:Int):=rfl;rw[e,IntKind.wrap_u64];omega
theorem i64_and_le (a:Nat)(ha:a≤2046):0≤bits .and .i64 (a:Int) 2047∧bits .and .i64 (a:Int) 2047≤2046:=by
 have h1:(BitVec.ofInt 64 (a:Int)).toNat=a:=by
  rw[BitVec.ofInt_natCast,BitVec.toNat_ofNat];exact Nat.mod_eq_of_lt (by omega)
 have h3:(BitVec.ofInt 64 (a:Int) &&& BitVec.ofInt 64 2047).toNat≤2046:=by
  rw[BitVec.toNat_and,h1];exact Nat.le_trans Nat.and_le_left ha
 have e:bits .and .i64 (a:Int) 2047=IntKind.i64.wrap ((BitVec.ofInt 64 (a:Int) &&& BitVec.ofInt 64 2047).toNat:Int):=rfl;rw[e,IntWalk.i64_in _ (by omega)];omega
theorem or_lt56 {a b:Int}(ha:0≤a)(ha2:a<72057594037927936)(hb:0≤b)(hb2:b<72057594037927936):0≤bits .or .u64 a b∧bits .or .u64 a b≤72057594037927935:=by
 obtain⟨a,rfl⟩:∃n:Nat,a=n:=⟨a.toNat,by omega⟩;obtain⟨b,rfl⟩:∃n:Nat,b=n:=⟨b.toNat,by omega⟩;rw[bits_or_u64_nat a b (by omega) (by omega)];have:a ||| b<2^56:=Nat.or_lt_two_pow (by omega) (by omega);omega
theorem or_lt55 {a b:Int}(ha:0≤a)(ha2:a<36028797018963968)(hb:0≤b)(hb2:b<36028797018963968):0≤bits .or .u64 a b∧bits .or .u64 a b≤36028797018963967:=by
 obtain⟨a,rfl⟩:∃n:Nat,a=n:=⟨a.toNat,by omega⟩;obtain⟨b,rfl⟩:∃n:Nat,b=n:=⟨b.toNat,by omega⟩;rw[bits_or_u64_nat a b (by omega) (by omega)];have:a ||| b<2^55:=Nat.or_lt_two_pow (by omega) (by omega);omega
theorem or_sign {s v:Int}(hs:s=0∨s=9223372036854775808)(hv:0≤v)(hv2:v≤9007199254740992):0≤bits .or .u64 s v∧bits .or .u64 s v≤18446744073709551615∧bits .or .u64 s v%9223372036854775808≤9007199254740992:=by
 obtain⟨v,rfl⟩:∃n:Nat,v=n:=⟨v.toNat,by omega⟩;obtain⟨s,rfl⟩:∃n:Nat,s=n:=⟨s.toNat,by omega⟩;rw[bits_or_u64_nat s v (by omega) (by omega)];have h1:s ||| v<2^64:=Nat.or_lt_two_pow (by omega) (by omega);have h2:(s ||| v)%2^63=(s%2^63) ||| (v%2^63):=Nat.or_mod_two_pow;have h3:s%2^63=0:=by omega
 have h4:v%2^63=v:=by omega
 rw[h3,h4,Nat.zero_or]at h2;omega
theorem or_nn (a E:Nat)(ha:a<18446744073709551616)(ha2:a%9223372036854775808<4503599627370496)(hE:E≤2046):nnF (bits .or .u64 (a:Int) ((E*4503599627370496:Nat):Int)).toNat:=by
 rw[bits_or_u64_nat a _ ha (by omega),Int.toNat_natCast];have h9:a ||| E*4503599627370496<2^64:=Nat.or_lt_two_pow (by omega) (by omega);refine nnF_of ?_ (by omega);have h2:(a ||| E*4503599627370496)%2^63=(a%2^63) ||| ((E*4503599627370496)%2^63):=Nat.or_mod_two_pow;have h3:(E*4503599627370496)%2^63=2^52*E:=by omega
 have h4:2^52*E+a%2^63=2^52*E ||| a%2^63:=Nat.two_pow_add_eq_or_of_lt (by omega) E;rw[h3,Nat.or_comm (a%2^63),←h4]at h2;omega
theorem andNot_lt (m:Nat)(hm:m<18446744073709551616)(h53:m%9223372036854775808<9007199254740992):∃q:Nat,bits .andNot .u64 (m:Int) 4503599627370496=q∧q<18446744073709551616∧q%9223372036854775808<4503599627370496:=by
 have h1:(BitVec.ofInt 64 (m:Int)).toNat=m:=by
  rw[BitVec.ofInt_natCast,BitVec.toNat_ofNat];exact Nat.mod_eq_of_lt (by omega)
 have h2:(~~~ (BitVec.ofInt 64 (4503599627370496:Int))).toNat=18442240474082181119:=by decide
 have h3:(BitVec.ofInt 64 (m:Int) &&& ~~~ BitVec.ofInt 64 4503599627370496).toNat=m &&& 18442240474082181119:=by
  rw[BitVec.toNat_and,h1,h2]
 have h4:m &&& 18442240474082181119≤m:=Nat.and_le_left;have e:bits .andNot .u64 (m:Int) 4503599627370496=IntKind.u64.wrap ((BitVec.ofInt 64 (m:Int) &&& ~~~ BitVec.ofInt 64 4503599627370496).toNat:Int):=rfl;refine⟨m &&& 18442240474082181119,?_,by omega,?_⟩
 ·rw[e,h3,IntKind.wrap_u64];omega
 ·have h5:(m &&& 18442240474082181119)%2^63=(m%2^63) &&& (18442240474082181119%2^63):=Nat.and_mod_two_pow
  have h6:(m%2^63) &&& (18442240474082181119%2^63)≤m%2^63:=Nat.and_le_left;have h7:((m%2^63) &&& (18442240474082181119%2^63))%2^53=((m%2^63)%2^53) &&& ((18442240474082181119%2^63)%2^53):=Nat.and_mod_two_pow;have h8:((m%2^63)%2^53) &&& ((18442240474082181119%2^63)%2^53)≤(18442240474082181119%2^63)%2^53:=Nat.and_le_right;have h9:(18442240474082181119%2^63)%2^53=4503599627370495:=by decide
  omega
theorem and52_zero (m:Nat)(hm:m<18446744073709551616)(h:m%9223372036854775808=9007199254740992):(bits .and .u64 (m:Int) 4503599627370496==0)=true:=by
 have e:=bits_and_u64_nat m 4503599627370496 hm (by decide)
 have h3:m.testBit 52=false:=by
  rw[Nat.testBit_eq_decide_div_mod_eq];simp;omega
 have h2:m &&& 2^52=0:=by
  apply Nat.eq_of_testBit_eq;intro i;rw[Nat.testBit_and,Nat.testBit_two_pow,Nat.zero_testBit]
  by_cases hi:52=i
  ·subst hi;simp[h3]
  ·simp[hi]
 have h4:m &&& 4503599627370496=0:=h2;rw[show ((4503599627370496:Nat):Int)=4503599627370496 from rfl]at e;rw[e,h4];rfl
theorem pack_nn (m e:Int)(h0:0≤m)(h1:m≤18446744073709551615)(hm:m%9223372036854775808≤9007199254740992)(h2:-1000≤e)(h3:e<972)(hb:(bits BinOp.and IntKind.u64 m 4503599627370496==0)=false) :
  nnF (bits .or .u64 (bits .andNot .u64 m 4503599627370496) ((1075+e)*4503599627370496)).toNat:=by
 obtain⟨m,rfl⟩:∃n:Nat,m=n:=⟨m.toNat,by omega⟩;obtain⟨E,hE⟩:∃E:Nat,1075+e=E:=⟨(1075+e).toNat,by omega⟩
 have h53:m%9223372036854775808<9007199254740992:=by
  rcases Nat.lt_or_ge (m%9223372036854775808) 9007199254740992 with h|h
  ·exact h
  ·rw[and52_zero m (by omega) (by omega)]at hb;exact absurd hb (by simp)
 obtain⟨q,hq1,hq2,hq3⟩:=andNot_lt m (by omega) h53;rw[hq1,hE];exact or_nn q E hq2 hq3 (by omega)
theorem dn_bd:∀(m n:Nat) (dp ex:Int),n≠0→dp≤15→ex≤(dnL m n dp ex).2.2∧(dnL m n dp ex).2.2≤ex+potD n dp∧(dnL m n dp ex).1≠0∧dp-potD n dp≤(dnL m n dp ex).2.1:=by
 intro m
 induction m with
 | zero=>intro n dp ex h0 hd;simp only[dnL];exact⟨by omega,by omega,h0,by omega⟩
 | succ m ih =>
  intro n dp ex h0 hd
  by_cases h:0<dp
  ·rw[dnL_step h]
   obtain⟨p1,p2,p3⟩:=potD_step h0 h (by omega);obtain⟨q1,q2,q3,q4⟩:=ih (rsN (ptab dp) n) (rsP (ptab dp) n dp) (ex+ptab dp) (rsN_pos h0) (by omega);have hrg:=rsP_ge (k:=ptab dp) (dp:=dp) h0;exact⟨by omega,by omega,q3,by omega⟩
  ·rw[dnL_stop h];exact⟨by simp,by simp;omega,h0,by simp;omega⟩
theorem up_bd:∀(m n:Nat) (dp ex:Int),n≠0→(upL m n dp ex).2.2≤ex∧ex-potU n dp≤(upL m n dp ex).2.2:=by
 intro m
 induction m with
 | zero=>intro n dp ex h0;simp only[upL];omega
 | succ m ih =>
  intro n dp ex h0
  cases h:upC n dp with
  | true =>
   rw[upL_step h];obtain⟨p1,p2,p3,p4⟩:=potU_step h0 h;obtain⟨q1,q2⟩:=ih (lsN (ptab (-dp)) n) (lsP (ptab (-dp)) n dp) (ex-ptab (-dp)) (lsN_pos h0);omega
  | false=>rw[upL_stop h];simp only;omega
theorem fbBits_nn (M:Nat)(E:Int)(neg:Bool)(h0:0≤E+1023)(h1:E+1023≤2046):nnF (fbBits M E neg).toNat:=by
 obtain⟨a0,a1⟩:=u64_and_le (M:Int) 4503599627370495 (by decide);rw[show ((4503599627370495:Nat):Int)=4503599627370495 from rfl]at a0 a1;obtain⟨k,hk⟩:∃k:Nat,E+1023=k:=⟨(E+1023).toNat,by omega⟩;obtain⟨b0,b1⟩:=i64_and_le k (by omega);unfold fbBits;rw[hk];generalize bits .and .u64 (M:Int) 4503599627370495=A at a0 a1⊢;generalize bits .and .i64 (k:Int) 2047=B at b0 b1⊢;obtain⟨A,rfl⟩:∃n:Nat,A=n:=⟨A.toNat,by omega⟩;obtain⟨B,rfl⟩:∃n:Nat,B=n:=⟨B.toNat,by omega⟩;have e1:IntKind.u64.wrap (B:Int)=B:=by rw[IntKind.wrap_u64];omega
 have e2:IntKind.u64.wrap ((B:Int)*4503599627370496)=((B*4503599627370496:Nat):Int):=by rw[IntKind.wrap_u64];omega
 rw[e1,e2];have hor:=bits_or_u64_nat A (B*4503599627370496) (by omega) (by omega);have h4:2^52*B+A=2^52*B ||| A:=Nat.two_pow_add_eq_or_of_lt (by omega) B;have h5:A ||| B*4503599627370496=4503599627370496*B+A:=by rw[Nat.or_comm,Nat.mul_comm B];exact h4.symm
 rw[h5]at hor;rw[hor]
 cases neg
 ·simp only[Bool.false_eq_true,if_false,Int.toNat_natCast]
  exact nnF_of (by omega) (by omega)
 ·simp only[if_true]
  have hor2:=bits_or_u64_nat (4503599627370496*B+A) 9223372036854775808 (by omega) (by decide);rw[show ((9223372036854775808:Nat):Int)=9223372036854775808 from rfl]at hor2;rw[hor2,Int.toNat_natCast];have h9:(4503599627370496*B+A) ||| 9223372036854775808<2^64:=Nat.or_lt_two_pow (by omega) (by omega);refine nnF_of ?_ (by omega);have h6:((4503599627370496*B+A) ||| 9223372036854775808)%2^63=((4503599627370496*B+A)%2^63) ||| (9223372036854775808%2^63):=Nat.or_mod_two_pow;rw[show 9223372036854775808%2^63=0 from by decide,Nat.or_zero]at h6;omega
theorem fbRes_nn {N:Nat}{dp:Int}(neg:Bool)(hN:N≠0)(h1:-60≤dp)(h2:dp≤15):nnF (fbRes N dp neg).toNat:=by
 have hpt0:potD N dp≤59:=by unfold potD;(repeat' split)<;>omega
 have hpt1:dp-potD N dp≥-60:=by
  by_cases h:0<dp
  ·omega
  ·have:potD N dp=0:=by unfold potD;rw[if_pos (by omega)]
   omega
 obtain⟨q1,q2,q3,q4⟩:=dn_bd 59 N dp 0 hN h2;unfold fbRes;generalize dnL 59 N dp 0=D at *;obtain⟨n,d,ex⟩:=D;simp only at q1 q2 q3 q4⊢;have hpu:=potU_le n (dp:=d) (by omega);obtain⟨r1,r2⟩:=up_bd 224 n d ex q3;generalize upL 224 n d ex=U at *;obtain⟨n',d',ex'⟩:=U;simp only at r1 r2⊢;generalize rintN _ _ _=M
 have key:∀(M:Nat) (E:Int),-300≤E→E≤100→nnF (fbFin M E neg).toNat:=fun M E e1 e2=>by
  unfold fbFin
  split
  ·exact fbBits_nn M _ neg (by omega) (by omega)
  ·exact fbBits_nn M _ neg (by omega) (by omega)
 unfold fbTail;apply key
 ·split<;>omega
 ·split<;>omega
theorem ref_a (pf:By→Nat)(W0 w:World)(hI:Init W0)(hpf:PFC pf W0)(hE:Env W0 w)(b:Nat)(s:ByteArray)(p l:By)(deep:Int)(odd ends:Bool)(hR:RdAt w b s p l 0 deep odd ends)(hs:s.size≤140737488351240)
  (hW0:W0.heap.size≤b)(n:Int)(text:ByteArray)(tl:By)(htl:text.data.toList=tl)(hnum:numF pf tl=(2,n,0,0))
  {la:By}{oa:Bool}{gk gn st:Int}{gx:Nat}(hP1:passM false l odd=(la,oa))(hN:numF pf (wordT la)=(gk,gn,gx,st))(hst:(st==1)=true) :
  Calls Tryz.prog 64 #[.pointer (some ⟨b,0,none⟩),numV 2 n 0,.string text] w fun e w'=>RefPost w w' b s deep ends e (refF pf n tl l odd):=by
 have HR:=xhd hR;have hbB:=hR.lt;obtain⟨c0,c1,c2,c3,c4,c5,cf⟩:=hR.cells;obtain⟨HI,Hpf,HE,Htl,Hnum⟩:=xh5 hI hpf hE htl hnum;clear hI hpf hE htl hnum
 clear hR;unfold numV;go_enter Tryz.func64,Tryz.ntmps64;go_wp2_with fail
 have hal:=alloc3 w (NB n) (.cells #[.int .i64 0,.int .i64 0,.int .i64 0,.float .f64 0,.string ⟨#[]⟩,.slice none 0 0,.slice none 0 0] 30 (0,0)) (.cells #[.string s,.int .i64 p.length,.int .i64 0,.int .i64 deep,.bool odd,.bool ends] 57 (0,0));refine(pass_any _ (w.heap.size+1+1) s p l 0 deep odd ends (by exact⟨HR.out.1,hal.2.2.1⟩) (by omega)).mono ?_;rintro e w1⟨rfl,⟨p1,hA1⟩,hg1⟩;have hI0:RefI w _ b s p l deep odd ends n p l odd:=⟨hal.2.2.2.2.but _,HR.out.grown hal.2.2.2.2 (by simp),⟨HR.out.1,hal.2.2.1⟩,hal.1,hal.2.1,hbB⟩;have HJ:=xhd (hI0.call hg1 hA1);clear hI0 hg1 hA1 hal c0 c1 c2 c3 c4 c5 cf;rw[hP1]at HJ;go_wp2_with fail
 refine(word_any _ (w.heap.size+1+1) s p1 la 0 deep oa ends (by exact HJ.out.hA) (by omega)).mono ?_;rintro e w2⟨rfl,hA2,hg2⟩;have HJ2:=xhd (HJ.out.call hg2 hA2);clear hg2 hA2 HJ
 have hsz2:(wordT la).length≤140737488351240:=by
  have:=HJ2.out.hA.size;simp at this;omega
 generalize hsec:(⟨(wordT la).toArray⟩:ByteArray)=sec;have hsz3:sec.size≤140737488351240:=by rw[←hsec];show (List.toArray (wordT la)).size≤140737488351240;simpa using hsz2
 have hsl:sec.data.toList=wordT la:=by rw[←hsec]
 obtain⟨Hsec,Hsl⟩:=xh2 hsec hsl;clear hsec hsl
 go_wp2_with fail
 refine(number_any pf W0 _ HI.out Hpf.out (by exact HE.out.grown HJ2.out.hG (fun k hk=>by injection hk with hk;omega)) sec (wordT la) Hsl.out hsz3).mono ?_;rintro e w3⟨rfl,hg3⟩;have HJ3:=xhd (HJ2.out.call0 hg3);clear hg3 HJ2;rw[hN];obtain⟨HP1,HN⟩:=xh2 hP1 hN;clear hP1 hN
 unfold numRet numV;obtain⟨c0,c1,c2,c3,c4,c5,cf⟩:=HJ3.out.hR.cells;obtain⟨a0,a1,a2,a3,a4,a5,af⟩:=HJ3.out.hA.cells;obtain⟨v0,v1,v2,v3,v4,v5,v6,vf⟩:=cells7 HJ3.out.hV;obtain⟨z0,z1,z2,z3,z4,z5,z6,zf⟩:=zb_cells HJ3.out.hZ;have hb3:w.heap.size+1+1<w3.heap.size:=HJ3.out.hA.lt;have hb4:b<w3.heap.size:=by omega
 have hb5:w.heap.size<w3.heap.size:=by omega
 have hb6:w.heap.size+1<w3.heap.size:=by omega
 have hres:refF pf n tl l odd=some (.int n,l,odd||wordO la oa):=by
  simp only[refF,HP1.out,HN.out,hst,if_true]
 have hn1:¬w.heap.size+1=b:=by omega
 cases odd
 all_goals
  simp only[Bool.false_or,Bool.true_or]at hres;go_wp2_with fail
  obtain⟨Hres,HG⟩:=xh2 hres HJ3.out.hG;clear hres
  refine bodyPost_ret (v:=valOf (.int n) nilS nilS) (by simp[results,Tryz.results64,go_sem,valOf,nilS,pvKind,pvInt,pvGen,pvReal,pvText,z0,z1,z2,z3,z4,z5,z6,hb3,hb4,hb5,hb6,hn1]) rfl ?_;rw[Hres.out];refine⟨rfl,⟨p,(by repeat (first|with_reducible exact HJ3.out.hR|with_reducible apply RdAt.alloc|with_reducible apply RdAt.set4|((with_reducible refine RdAt.setO ?_ ?_ _ _);rotate_left;(first|omega|(simp;omega)))))⟩,(by repeat (first|with_reducible exact HJ3.out.hG|with_reducible apply gr_alloc|with_reducible apply gr_drewN|with_reducible apply gr_drew|with_reducible apply gr_set|((with_reducible refine gr_setM ?_ ?_ _ _);rotate_left;(first|omega|(simp;omega)))))⟩
theorem ref_b (pf:By→Nat)(W0 w:World)(hI:Init W0)(hpf:PFC pf W0)(hE:Env W0 w)(b:Nat)(s:ByteArray)(p l:By)(deep:Int)(odd ends:Bool)(hR:RdAt w b s p l 0 deep odd ends)(hs:s.size≤140737488351240)
  (hW0:W0.heap.size≤b)(n:Int)(text:ByteArray)(tl:By)(htl:text.data.toList=tl)(hnum:numF pf tl=(2,n,0,0))
  {la:By}{oa:Bool}{gk gn st:Int}{gx:Nat}(hP1:passM false l odd=(la,oa))(hN:numF pf (wordT la)=(gk,gn,gx,st))
  {lc:By}{oc:Bool}(hP5:passM false (wordR la) (wordO la oa)=(lc,oc))(hW:wordT lc=[]){O:Bool}(hO:wordO lc oc=O)(hst:(st==1)=false) :
  Calls Tryz.prog 64 #[.pointer (some ⟨b,0,none⟩),numV 2 n 0,.string text] w fun e w'=>RefPost w w' b s deep ends e (refF pf n tl l odd):=by
 have HR:=xhd hR;have hbB:=hR.lt;obtain⟨c0,c1,c2,c3,c4,c5,cf⟩:=hR.cells;obtain⟨HI,Hpf,HE,Htl,Hnum⟩:=xh5 hI hpf hE htl hnum;clear hI hpf hE htl hnum
 clear hR;unfold numV;go_enter Tryz.func64,Tryz.ntmps64;go_wp2_with fail
 have hal:=alloc3 w (NB n) (.cells #[.int .i64 0,.int .i64 0,.int .i64 0,.float .f64 0,.string ⟨#[]⟩,.slice none 0 0,.slice none 0 0] 30 (0,0)) (.cells #[.string s,.int .i64 p.length,.int .i64 0,.int .i64 deep,.bool odd,.bool ends] 57 (0,0));refine(pass_any _ (w.heap.size+1+1) s p l 0 deep odd ends (by exact⟨HR.out.1,hal.2.2.1⟩) (by omega)).mono ?_;rintro e w1⟨rfl,⟨p1,hA1⟩,hg1⟩;have hI0:RefI w _ b s p l deep odd ends n p l odd:=⟨hal.2.2.2.2.but _,HR.out.grown hal.2.2.2.2 (by simp),⟨HR.out.1,hal.2.2.1⟩,hal.1,hal.2.1,hbB⟩;have HJ:=xhd (hI0.call hg1 hA1);clear hI0 hg1 hA1 hal c0 c1 c2 c3 c4 c5 cf;rw[hP1]at HJ;go_wp2_with fail
 refine(word_any _ (w.heap.size+1+1) s p1 la 0 deep oa ends (by exact HJ.out.hA) (by omega)).mono ?_;rintro e w2⟨rfl,hA2,hg2⟩;have HJ2:=xhd (HJ.out.call hg2 hA2);clear hg2 hA2 HJ
 have hsz2:(wordT la).length≤140737488351240:=by
  have:=HJ2.out.hA.size;simp at this;omega
 generalize hsec:(⟨(wordT la).toArray⟩:ByteArray)=sec;have hsz3:sec.size≤140737488351240:=by rw[←hsec];show (List.toArray (wordT la)).size≤140737488351240;simpa using hsz2
 have hsl:sec.data.toList=wordT la:=by rw[←hsec]
 obtain⟨Hsec,Hsl⟩:=xh2 hsec hsl;clear hsec hsl
 go_wp2_with fail
 refine(number_any pf W0 _ HI.out Hpf.out (by exact HE.out.grown HJ2.out.hG (fun k hk=>by injection hk with hk;omega)) sec (wordT la) Hsl.out hsz3).mono ?_;rintro e w3⟨rfl,hg3⟩;have HJ3:=xhd (HJ2.out.call0 hg3);clear hg3 HJ2;rw[hN];obtain⟨HP1,HN⟩:=xh2 hP1 hN;clear hP1 hN
 unfold numRet numV;have hc9:w.heap.size+1+1<w3.heap.size:=HJ3.out.hA.lt;have HJ4:=xhd (HJ3.out.call0 (gr_alloc (xgr w3 none) (NG gk gn gx)));have HN4:=xhd (heap_alloc_new w3 (NG gk gn gx));clear HJ3;go_wp2_with fail
 refine(pass_any _ (w.heap.size+1+1) s _ _ 0 deep _ ends (by exact HJ4.out.hA) (by omega)).mono ?_;rintro e w5⟨rfl,⟨p5,hA5⟩,hg5⟩;have HJ5:=xhd (HJ4.out.call hg5 hA5);have HN5:=xhd (keep hg5 HN4.out (by simp;omega));clear HJ4 HN4 hA5 hg5;rw[hP5]at HJ5;go_wp2_with fail
 refine(word_any _ (w.heap.size+1+1) s p5 lc 0 deep oc ends (by exact HJ5.out.hA) (by omega)).mono ?_;rintro e w6⟨rfl,hA6,hg6⟩;have HJ6:=xhd (HJ5.out.call hg6 hA6);have HN6:=xhd (keep hg6 HN5.out (by simp;omega));clear HJ5 HN5 hA6 hg6;have HP5:=xhd hP5;clear hP5
 obtain⟨c0,c1,c2,c3,c4,c5,cf⟩:=HJ6.out.hR.cells;obtain⟨a0,a1,a2,a3,a4,a5,af⟩:=HJ6.out.hA.cells;obtain⟨v0,v1,v2,v3,v4,v5,v6,vf⟩:=cells7 HJ6.out.hV;obtain⟨z0,z1,z2,z3,z4,z5,z6,zf⟩:=zb_cells HJ6.out.hZ;obtain⟨n0,n1,n2,n3,n4,n5,n6,nf⟩:=cells7 HN6.out;have hb3:w.heap.size+1+1<w6.heap.size:=HJ6.out.hA.lt;have hb4:b<w6.heap.size:=by omega
 have hb5:w.heap.size<w6.heap.size:=by omega
 have hb6:w.heap.size+1<w6.heap.size:=by omega
 have hn1:¬w.heap.size+1=b:=by omega
 rw[hO]at a4 HJ6;generalize hwd:(⟨(wordT lc).toArray⟩:ByteArray)=wd;have hwl:wd.data.toList=wordT lc:=by rw[←hwd]
 obtain⟨Hwd,Hwl⟩:=xh2 hwd hwl;clear hwd hwl
 rw[hW]at Hwl;obtain⟨HW,HO⟩:=xh2 hW hO;clear hW hO
 have hwe:wd.toList=[]:=by rw[ByteArray.toList_eq];exact Hwl.out
 have hw1:¬wd.toList=[82]:=by rw[hwe];decide
 have hres:=ref_1 (n:=n) (tl:=tl) HP1.out HN.out hst HP5.out HW.out HO.out (.inl (by decide))
 cases odd<;>cases O
 all_goals
  simp only[Bool.false_or,Bool.true_or,Bool.or_false,Bool.or_true,Bool.or_self,headIs]at hres;go_wp2_with fail
  have Hres:=xhd hres;clear hres
  refine bodyPost_ret (v:=valOf (.int n) nilS nilS) (by simp[results,Tryz.results64,go_sem,valOf,nilS,pvKind,pvInt,pvGen,pvReal,pvText,z0,z1,z2,z3,z4,z5,z6,hb3,hb4,hb5,hb6,hn1]) rfl ?_;rw[Hres.out];refine⟨rfl,⟨p,(by repeat (first|with_reducible exact HJ6.out.hR|with_reducible apply RdAt.alloc|with_reducible apply RdAt.set4|((with_reducible refine RdAt.setO ?_ ?_ _ _);rotate_left;(first|omega|(simp;omega)))))⟩,(by repeat (first|with_reducible exact HJ6.out.hG|with_reducible apply gr_alloc|with_reducible apply gr_drewN|with_reducible apply gr_drew|with_reducible apply gr_set|((with_reducible refine gr_setM ?_ ?_ _ _);rotate_left;(first|omega|(simp;omega)))))⟩
theorem ref_c (pf:By→Nat)(W0 w:World)(hI:Init W0)(hpf:PFC pf W0)(hE:Env W0 w)(b:Nat)(s:ByteArray)(p l:By)(deep:Int)(odd ends:Bool)(hR:RdAt w b s p l 0 deep odd ends)(hs:s.size≤140737488351240)
  (hW0:W0.heap.size≤b)(n:Int)(text:ByteArray)(tl:By)(htl:text.data.toList=tl)(hnum:numF pf tl=(2,n,0,0))
  {la:By}{oa:Bool}{gk gn st:Int}{gx:Nat}(hP1:passM false l odd=(la,oa))(hN:numF pf (wordT la)=(gk,gn,gx,st))
  {lc:By}{oc:Bool}(hP5:passM false (wordR la) (wordO la oa)=(lc,oc)){c:UInt8}{W:By}(hW:wordT lc=c::W){O:Bool}(hO:wordO lc oc=O)(hst:(st==1)=false)(hw:¬c::W=[82])(h82:((c.toNat:Int)==82)=true) :
  Calls Tryz.prog 64 #[.pointer (some ⟨b,0,none⟩),numV 2 n 0,.string text] w fun e w'=>RefPost w w' b s deep ends e (refF pf n tl l odd):=by
 have HR:=xhd hR;have hbB:=hR.lt;obtain⟨c0,c1,c2,c3,c4,c5,cf⟩:=hR.cells;obtain⟨HI,Hpf,HE,Htl,Hnum⟩:=xh5 hI hpf hE htl hnum;clear hI hpf hE htl hnum
 clear hR;unfold numV;go_enter Tryz.func64,Tryz.ntmps64;go_wp2_with fail
 have hal:=alloc3 w (NB n) (.cells #[.int .i64 0,.int .i64 0,.int .i64 0,.float .f64 0,.string ⟨#[]⟩,.slice none 0 0,.slice none 0 0] 30 (0,0)) (.cells #[.string s,.int .i64 p.length,.int .i64 0,.int .i64 deep,.bool odd,.bool ends] 57 (0,0));refine(pass_any _ (w.heap.size+1+1) s p l 0 deep odd ends (by exact⟨HR.out.1,hal.2.2.1⟩) (by omega)).mono ?_;rintro e w1⟨rfl,⟨p1,hA1⟩,hg1⟩;have hI0:RefI w _ b s p l deep odd ends n p l odd:=⟨hal.2.2.2.2.but _,HR.out.grown hal.2.2.2.2 (by simp),⟨HR.out.1,hal.2.2.1⟩,hal.1,hal.2.1,hbB⟩;have HJ:=xhd (hI0.call hg1 hA1);clear hI0 hg1 hA1 hal c0 c1 c2 c3 c4 c5 cf;rw[hP1]at HJ;go_wp2_with fail
 refine(word_any _ (w.heap.size+1+1) s p1 la 0 deep oa ends (by exact HJ.out.hA) (by omega)).mono ?_;rintro e w2⟨rfl,hA2,hg2⟩;have HJ2:=xhd (HJ.out.call hg2 hA2);clear hg2 hA2 HJ
 have hsz2:(wordT la).length≤140737488351240:=by
  have:=HJ2.out.hA.size;simp at this;omega
 generalize hsec:(⟨(wordT la).toArray⟩:ByteArray)=sec;have hsz3:sec.size≤140737488351240:=by rw[←hsec];show (List.toArray (wordT la)).size≤140737488351240;simpa using hsz2
 have hsl:sec.data.toList=wordT la:=by rw[←hsec]
 obtain⟨Hsec,Hsl⟩:=xh2 hsec hsl;clear hsec hsl
 go_wp2_with fail
 refine(number_any pf W0 _ HI.out Hpf.out (by exact HE.out.grown HJ2.out.hG (fun k hk=>by injection hk with hk;omega)) sec (wordT la) Hsl.out hsz3).mono ?_;rintro e w3⟨rfl,hg3⟩;have HJ3:=xhd (HJ2.out.call0 hg3);clear hg3 HJ2;rw[hN];obtain⟨HP1,HN⟩:=xh2 hP1 hN;clear hP1 hN
 unfold numRet numV;have hc9:w.heap.size+1+1<w3.heap.size:=HJ3.out.hA.lt;have HJ4:=xhd (HJ3.out.call0 (gr_alloc (xgr w3 none) (NG gk gn gx)));have HN4:=xhd (heap_alloc_new w3 (NG gk gn gx));clear HJ3;go_wp2_with fail
 refine(pass_any _ (w.heap.size+1+1) s _ _ 0 deep _ ends (by exact HJ4.out.hA) (by omega)).mono ?_;rintro e w5⟨rfl,⟨p5,hA5⟩,hg5⟩;have HJ5:=xhd (HJ4.out.call hg5 hA5);have HN5:=xhd (keep hg5 HN4.out (by simp;omega));clear HJ4 HN4 hA5 hg5;rw[hP5]at HJ5;go_wp2_with fail
 refine(word_any _ (w.heap.size+1+1) s p5 lc 0 deep oc ends (by exact HJ5.out.hA) (by omega)).mono ?_;rintro e w6⟨rfl,hA6,hg6⟩;have HJ6:=xhd (HJ5.out.call hg6 hA6);have HN6:=xhd (keep hg6 HN5.out (by simp;omega));clear HJ5 HN5 hA6 hg6;have HP5:=xhd hP5;clear hP5
 obtain⟨c0,c1,c2,c3,c4,c5,cf⟩:=HJ6.out.hR.cells;obtain⟨a0,a1,a2,a3,a4,a5,af⟩:=HJ6.out.hA.cells;obtain⟨v0,v1,v2,v3,v4,v5,v6,vf⟩:=cells7 HJ6.out.hV;obtain⟨z0,z1,z2,z3,z4,z5,z6,zf⟩:=zb_cells HJ6.out.hZ;obtain⟨n0,n1,n2,n3,n4,n5,n6,nf⟩:=cells7 HN6.out;have hb3:w.heap.size+1+1<w6.heap.size:=HJ6.out.hA.lt;have hb4:b<w6.heap.size:=by omega
 have hb5:w.heap.size<w6.heap.size:=by omega
 have hb6:w.heap.size+1<w6.heap.size:=by omega
 have hn1:¬w.heap.size+1=b:=by omega
 rw[hO]at a4 HJ6;generalize hwd:(⟨(wordT lc).toArray⟩:ByteArray)=wd;have hwl:wd.data.toList=wordT lc:=by rw[←hwd]
 obtain⟨Hwd,Hwl⟩:=xh2 hwd hwl;clear hwd hwl
 rw[hW]at Hwl;obtain⟨HW,HO⟩:=xh2 hW hO;clear hW hO
 obtain⟨hlt0,hc0,hd0,hr0,hr1⟩:=at_byte (pre:=[]) (by simpa using Hwl.out);simp only[List.length_nil]at hlt0 hc0 hd0;have hwe:¬wd.toList=[]:=by rw[ByteArray.toList_eq,Hwl.out];simp
 have hie:wd.toList.isEmpty=false:=by rw[ByteArray.toList_eq,Hwl.out];rfl
 have hw1:¬wd.toList=[82]:=by rw[ByteArray.toList_eq,Hwl.out];exact hw
 have hres:=ref_1 (n:=n) (tl:=tl) HP1.out HN.out hst HP5.out HW.out HO.out (.inl hw);have Hw:=xhd hw;clear hw
 cases odd<;>cases O
 all_goals
  simp only[Bool.false_or,Bool.true_or,Bool.or_false,Bool.or_true,Bool.or_self,headIs,h82]at hres;go_wp2_with fail
  have Hres:=xhd hres;clear hres
  refine bodyPost_ret (v:=valOf (.int n) nilS nilS) (by simp[results,Tryz.results64,go_sem,valOf,nilS,pvKind,pvInt,pvGen,pvReal,pvText,z0,z1,z2,z3,z4,z5,z6,hb3,hb4,hb5,hb6,hn1]) rfl ?_;rw[Hres.out];refine⟨rfl,⟨p,(by repeat (first|with_reducible exact HJ6.out.hR|with_reducible apply RdAt.alloc|with_reducible apply RdAt.set4|((with_reducible refine RdAt.setO ?_ ?_ _ _);rotate_left;(first|omega|(simp;omega)))))⟩,(by repeat (first|with_reducible exact HJ6.out.hG|with_reducible apply gr_alloc|with_reducible apply gr_drewN|with_reducible apply gr_drew|with_reducible apply gr_set|((with_reducible refine gr_setM ?_ ?_ _ _);rotate_left;(first|omega|(simp;omega)))))⟩
theorem ref_d (pf:By→Nat)(W0 w:World)(hI:Init W0)(hpf:PFC pf W0)(hE:Env W0 w)(b:Nat)(s:ByteArray)(p l:By)(deep:Int)(odd ends:Bool)(hR:RdAt w b s p l 0 deep odd ends)(hs:s.size≤140737488351240)
  (hW0:W0.heap.size≤b)(n:Int)(text:ByteArray)(tl:By)(htl:text.data.toList=tl)(hnum:numF pf tl=(2,n,0,0))
  {la:By}{oa:Bool}{gk gn st:Int}{gx:Nat}(hP1:passM false l odd=(la,oa))(hN:numF pf (wordT la)=(gk,gn,gx,st))
  {lc:By}{oc:Bool}(hP5:passM false (wordR la) (wordO la oa)=(lc,oc)){c:UInt8}{W:By}(hW:wordT lc=c::W){O:Bool}(hO:wordO lc oc=O)(hst:(st==1)=false)(hw:¬c::W=[82])(h82:((c.toNat:Int)==82)=false) :
  Calls Tryz.prog 64 #[.pointer (some ⟨b,0,none⟩),numV 2 n 0,.string text] w fun e w'=>RefPost w w' b s deep ends e (refF pf n tl l odd):=by
 have HR:=xhd hR;have hbB:=hR.lt;obtain⟨c0,c1,c2,c3,c4,c5,cf⟩:=hR.cells;obtain⟨HI,Hpf,HE,Htl,Hnum⟩:=xh5 hI hpf hE htl hnum;clear hI hpf hE htl hnum
 clear hR;unfold numV;go_enter Tryz.func64,Tryz.ntmps64;go_wp2_with fail
 have hal:=alloc3 w (NB n) (.cells #[.int .i64 0,.int .i64 0,.int .i64 0,.float .f64 0,.string ⟨#[]⟩,.slice none 0 0,.slice none 0 0] 30 (0,0)) (.cells #[.string s,.int .i64 p.length,.int .i64 0,.int .i64 deep,.bool odd,.bool ends] 57 (0,0));refine(pass_any _ (w.heap.size+1+1) s p l 0 deep odd ends (by exact⟨HR.out.1,hal.2.2.1⟩) (by omega)).mono ?_;rintro e w1⟨rfl,⟨p1,hA1⟩,hg1⟩;have hI0:RefI w _ b s p l deep odd ends n p l odd:=⟨hal.2.2.2.2.but _,HR.out.grown hal.2.2.2.2 (by simp),⟨HR.out.1,hal.2.2.1⟩,hal.1,hal.2.1,hbB⟩;have HJ:=xhd (hI0.call hg1 hA1);clear hI0 hg1 hA1 hal c0 c1 c2 c3 c4 c5 cf;rw[hP1]at HJ;go_wp2_with fail
 refine(word_any _ (w.heap.size+1+1) s p1 la 0 deep oa ends (by exact HJ.out.hA) (by omega)).mono ?_;rintro e w2⟨rfl,hA2,hg2⟩;have HJ2:=xhd (HJ.out.call hg2 hA2);clear hg2 hA2 HJ
 have hsz2:(wordT la).length≤140737488351240:=by
  have:=HJ2.out.hA.size;simp at this;omega
 generalize hsec:(⟨(wordT la).toArray⟩:ByteArray)=sec;have hsz3:sec.size≤140737488351240:=by rw[←hsec];show (List.toArray (wordT la)).size≤140737488351240;simpa using hsz2
 have hsl:sec.data.toList=wordT la:=by rw[←hsec]
 obtain⟨Hsec,Hsl⟩:=xh2 hsec hsl;clear hsec hsl
 go_wp2_with fail
 refine(number_any pf W0 _ HI.out Hpf.out (by exact HE.out.grown HJ2.out.hG (fun k hk=>by injection hk with hk;omega)) sec (wordT la) Hsl.out hsz3).mono ?_;rintro e w3⟨rfl,hg3⟩;have HJ3:=xhd (HJ2.out.call0 hg3);clear hg3 HJ2;rw[hN];obtain⟨HP1,HN⟩:=xh2 hP1 hN;clear hP1 hN
 unfold numRet numV;have hc9:w.heap.size+1+1<w3.heap.size:=HJ3.out.hA.lt;have HJ4:=xhd (HJ3.out.call0 (gr_alloc (xgr w3 none) (NG gk gn gx)));have HN4:=xhd (heap_alloc_new w3 (NG gk gn gx));clear HJ3;go_wp2_with fail
 refine(pass_any _ (w.heap.size+1+1) s _ _ 0 deep _ ends (by exact HJ4.out.hA) (by omega)).mono ?_;rintro e w5⟨rfl,⟨p5,hA5⟩,hg5⟩;have HJ5:=xhd (HJ4.out.call hg5 hA5);have HN5:=xhd (keep hg5 HN4.out (by simp;omega));clear HJ4 HN4 hA5 hg5;rw[hP5]at HJ5;go_wp2_with fail
 refine(word_any _ (w.heap.size+1+1) s p5 lc 0 deep oc ends (by exact HJ5.out.hA) (by omega)).mono ?_;rintro e w6⟨rfl,hA6,hg6⟩;have HJ6:=xhd (HJ5.out.call hg6 hA6);have HN6:=xhd (keep hg6 HN5.out (by simp;omega));clear HJ5 HN5 hA6 hg6;have HP5:=xhd hP5;clear hP5
 obtain⟨c0,c1,c2,c3,c4,c5,cf⟩:=HJ6.out.hR.cells;obtain⟨a0,a1,a2,a3,a4,a5,af⟩:=HJ6.out.hA.cells;obtain⟨v0,v1,v2,v3,v4,v5,v6,vf⟩:=cells7 HJ6.out.hV;obtain⟨z0,z1,z2,z3,z4,z5,z6,zf⟩:=zb_cells HJ6.out.hZ;obtain⟨n0,n1,n2,n3,n4,n5,n6,nf⟩:=cells7 HN6.out;have hb3:w.heap.size+1+1<w6.heap.size:=HJ6.out.hA.lt;have hb4:b<w6.heap.size:=by omega
 have hb5:w.heap.size<w6.heap.size:=by omega
 have hb6:w.heap.size+1<w6.heap.size:=by omega
 have hn1:¬w.heap.size+1=b:=by omega
 rw[hO]at a4 HJ6;generalize hwd:(⟨(wordT lc).toArray⟩:ByteArray)=wd;have hwl:wd.data.toList=wordT lc:=by rw[←hwd]
 obtain⟨Hwd,Hwl⟩:=xh2 hwd hwl;clear hwd hwl
 rw[hW]at Hwl;obtain⟨HW,HO⟩:=xh2 hW hO;clear hW hO
 obtain⟨hlt0,hc0,hd0,hr0,hr1⟩:=at_byte (pre:=[]) (by simpa using Hwl.out);simp only[List.length_nil]at hlt0 hc0 hd0;have hwe:¬wd.toList=[]:=by rw[ByteArray.toList_eq,Hwl.out];simp
 have hie:wd.toList.isEmpty=false:=by rw[ByteArray.toList_eq,Hwl.out];rfl
 have hw1:¬wd.toList=[82]:=by rw[ByteArray.toList_eq,Hwl.out];exact hw
 have hres:=ref_1 (n:=n) (tl:=tl) HP1.out HN.out hst HP5.out HW.out HO.out (.inl hw);have Hw:=xhd hw;clear hw
 cases odd<;>cases O
 all_goals
  simp only[Bool.false_or,Bool.true_or,Bool.or_false,Bool.or_true,Bool.or_self,headIs,h82]at hres;go_wp2_with fail
  have Hres:=xhd hres;clear hres
  refine bodyPost_ret (v:=valOf (.int n) nilS nilS) (by simp[results,Tryz.results64,go_sem,valOf,nilS,pvKind,pvInt,pvGen,pvReal,pvText,z0,z1,z2,z3,z4,z5,z6,hb3,hb4,hb5,hb6,hn1]) rfl ?_;rw[Hres.out];refine⟨rfl,⟨p,(by repeat (first|with_reducible exact HJ6.out.hR|with_reducible apply RdAt.alloc|with_reducible apply RdAt.set4|((with_reducible refine RdAt.setO ?_ ?_ _ _);rotate_left;(first|omega|(simp;omega)))))⟩,(by repeat (first|with_reducible exact HJ6.out.hG|with_reducible apply gr_alloc|with_reducible apply gr_drewN|with_reducible apply gr_drew|with_reducible apply gr_set|((with_reducible refine gr_setM ?_ ?_ _ _);rotate_left;(first|omega|(simp;omega)))))⟩
end Go.Proofs.YtfkecmlmnhbmoaaGreatDoor
namespace Go.Proofs.YtfkecmlmnhbmoaaGreatDoor
mutual
def lvV:PV→Nat
 | .arr kids=>lvVs kids+1
 | .dict _ kids=>lvVs kids+1
 | _=>1
def lvVs:List PV→Nat
 | []=>0
 | x::xs=>max (lvV x) (lvVs xs)
end
mutual
def szV:PV→Nat
 | .arr kids=>szVs kids+1
 | .dict _ kids=>szVs kids+1
 | _=>1
def szVs:List PV→Nat
 | []=>0
 | x::xs=>szV x+szVs xs
end
theorem lvVs_app (l:List PV)(x:PV):lvVs (l++[x])=max (lvVs l) (lvV x):=by
 induction l with
 | nil=>simp[lvVs]
 | cons y l ih=>simp only[List.cons_append,lvVs,ih];omega
theorem szVs_app (l:List PV)(x:PV):szVs (l++[x])=szVs l+szV x:=by
 induction l with
 | nil=>simp[szVs]
 | cons y l ih=>simp only[List.cons_append,szVs,ih];omega
theorem lvVs_take {l:List PV}{i:Nat}{p:PV}(h:l[i]?=some p):lvVs (l.take (i+1))=max (lvVs (l.take i)) (lvV p):=by
 rw[List.take_add_one,h];exact lvVs_app _ _
theorem szVs_take {l:List PV}{i:Nat}{p:PV}(h:l[i]?=some p):szVs (l.take (i+1))=szVs (l.take i)+szV p:=by
 rw[List.take_add_one,h];exact szVs_app _ _
theorem lvV_mem {l:List PV}{p:PV}(h:p∈l):lvV p≤lvVs l:=by
 induction l with
 | nil=>simp at h
 | cons y l ih =>
  simp only[lvVs];rcases List.mem_cons.1 h with rfl|h
  ·omega
  ·have:=ih h;omega
theorem lvV_pos (x:PV):1≤lvV x:=by cases x<;>simp[lvV]
theorem szV_pos (x:PV):1≤szV x:=by cases x<;>simp[szV]
open Go Go.RowKit
def dgs (N:Nat):By:=(List.range (numD N)).map fun i=>UInt8.ofNat (48+pdN N (i+1)%10)
theorem dgs_len (N:Nat):(dgs N).length=numD N:=by simp[dgs]
theorem dgs_ds (N:Nat):isDs (dgs N):=by
 intro c hc;obtain⟨i,_,rfl⟩:=List.mem_map.1 hc;rw[UInt8.toNat_ofNat'];omega
theorem dgs_get {N i:Nat}(h:i<numD N):(dgs N)[i]?=some (UInt8.ofNat (48+pdN N (i+1)%10)):=by
 simp[dgs,h]
theorem dgs_of {A:By}{N:Nat}(hl:numD N≤A.length)(hd:isDs (A.take (numD N)))(hv:dv (A.take (numD N))=N):A.take (numD N)=dgs N:=by
 apply List.ext_getElem?;intro i
 by_cases hi:i<numD N
 ·obtain⟨h1,h2,h3⟩:=pdN_digit hl hd hv hi
  rw[dgs_get hi,List.getElem?_take,if_pos hi,List.getElem?_eq_getElem (by omega)];have e:A.getD i 0=A[i]:=by rw[List.getD_eq_getElem?_getD,List.getElem?_eq_getElem (by omega)];rfl
  rw[e]at h1 h2 h3;congr 1;apply UInt8.toNat_inj.1;rw[UInt8.toNat_ofNat'];omega
 ·rw[List.getElem?_eq_none (by simp;omega),List.getElem?_eq_none (by rw[dgs_len];omega)]
theorem dec_digits {w:World}{b N:Nat}{dp:Int}{neg tr:Bool}(h:DecN w b N dp neg tr):∃A,DecAt w b A (numD N) dp neg tr∧A.take (numD N)=dgs N:=by
 obtain⟨h8,A,hA,hd,hv⟩:=h;exact⟨A,hA,dgs_of (by have:=hA.1;omega) hd hv⟩
def rdN (N r:Nat):Nat:=if r<numD N then strip (pdN N r+(if ruB N r false then 1 else 0)) else N
def rdP (N r:Nat)(dp:Int):Int:=if r<numD N then dp+numD (pdN N r+(if ruB N r false then 1 else 0))-numD (pdN N r) else dp
theorem p510_lt (k:Nat)(h1:13≤k)(h2:k≤33):10^(k-12)<5^k:=by
 have key:∀j:Nat,j<21→10^(j+1)<5^(j+13):=by decide
 have:=key (k-13) (by omega)
 rwa [show k-13+1=k-12 by omega,show k-13+13=k by omega]at this
theorem slow_dp {M k:Nat}(hM:M≠0)(hk1:6≤k)(hk2:k≤33)(hlo:2^k*10^5≤M)(hhi:M<10^14*2^k) :
  ∃r:Nat,rsP k (strip M) (numD M)+12=r∧r≤26∧1≤r∧rdP (rsN k (strip M)) r (rsP k (strip M) (numD M))≤14∧-100≤rdP (rsN k (strip M)) r (rsP k (strip M) (numD M))∧numD (rsN k (strip M))≤60∧rsN k (strip M)≠0∧numD (strip M)≤60∧strip M≠0:=by
 obtain⟨z,hz1,hz2,hz3,_⟩:=strip_spec M hM;generalize strip M=N at *;have h5:0<5^k:=Nat.pow_pos (by decide);have hN5:N*5^k≠0:=Nat.mul_ne_zero hz2 (by omega);obtain⟨y,hy1,hy2,hy3,_⟩:=strip_spec (N*5^k) hN5;have hrs:rsN k N=strip (N*5^k):=rfl;rw[hrs];generalize strip (N*5^k)=N2 at *;have e25:(10:Nat)^k=2^k*5^k:=by rw[←Nat.mul_pow]
 have hMk:M*5^k=N2*10^(y+z):=by rw[hz1,Nat.mul_right_comm,hy1,Nat.pow_add,Nat.mul_assoc]
 have hnd:numD (M*5^k)=numD N2+(y+z):=by rw[hMk];exact(strip_mul10 _ _ hy2).2
 have hup:M*5^k+5^k≤10^(14+k):=by
  have:(M+1)*5^k≤(10^14*2^k)*5^k:=Nat.mul_le_mul_right _ hhi;rw[Nat.mul_assoc,←e25,←Nat.pow_add]at this;rw[Nat.add_mul,Nat.one_mul]at this;exact this
 have hdn:10^(k+5)≤M*5^k:=by
  have:(2^k*10^5)*5^k≤M*5^k:=Nat.mul_le_mul_right _ hlo;rw[Nat.mul_right_comm,←e25,←Nat.pow_add]at this;exact this
 have hn1:numD (M*5^k)≤14+k:=numD_le_of (by omega);have hn2:k+6≤numD (M*5^k):=numD_ge_of hdn
 have hP:rsP k N (numD M)=((numD (M*5^k):Nat):Int)-k:=by
  unfold rsP;rw[hz3,hy3,hnd];omega
 have hN60:numD N2≤60:=by omega
 have hN1:numD N≤60:=by
  have:numD N≤numD (N*5^k):=numD_mono (Nat.le_mul_of_pos_right _ h5);omega
 refine⟨numD (M*5^k)-k+12,by rw[hP];omega,by omega,by omega,?_,?_,hN60,hy2,hN1,hz2⟩
 rotate_left
 ·rw[hP]
  unfold rdP;obtain⟨r,hr⟩:∃r,r=numD (M*5^k)-k+12:=⟨_,rfl⟩;rw[←hr]
  by_cases hlt:r<numD N2
  ·rw[if_pos hlt]
   have hb:=pdN_small (N:=N2) (r:=r);have:=numD_le_of hb;omega
  ·rw[if_neg hlt];omega
 rw[hP];unfold rdP;obtain⟨r,hr⟩:∃r,r=numD (M*5^k)-k+12:=⟨_,rfl⟩;rw[←hr]
 by_cases hlt:r<numD N2
 ·rw[if_pos hlt]
  have hpd:=pdN_small (N:=N2) (r:=r);obtain⟨c,hc⟩:∃c,c=(if ruB N2 r false then 1 else 0):=⟨_,rfl⟩;rw[←hc];have hc1:c≤1:=by rw[hc];split<;>omega
  have hle:10^(r-1)≤pdN N2 r:=by
   unfold pdN;rw[if_pos (by omega)];rw[Nat.le_div_iff_mul_le (Nat.pow_pos (by decide)),←Nat.pow_add];have:=numD_le N2 hy2
   rwa [show r-1+(numD N2-r)=numD N2-1 by omega]
  have hnp:numD (pdN N2 r)=r:=by
   have:=numD_eq (m:=r-1) hle (by rwa [show r-1+1=r by omega]);omega
  rw[hnp]
  by_cases hfull:pdN N2 r+c<10^r
  ·have:numD (pdN N2 r+c)≤r:=numD_le_of hfull
   omega
  ·have h9:pdN N2 r+1=10^r:=by omega
   have hnr:numD (pdN N2 r+c)≤r+1:=numD_le_of (by rw[Nat.pow_succ];have:=Nat.pow_pos (n:=r) (show 0<10 by decide);omega)
   by_cases h14:r≤25
   ·omega
   ·exfalso
    have hr26:r=26:=by omega
    have hk13:13≤k:=by omega
    have hge:(10^r-1)*10^(numD N2-r)≤N2:=by
     have:pdN N2 r*10^(numD N2-r)≤N2:=by
      unfold pdN;rw[if_pos (by omega)];exact Nat.div_mul_le_self _ _
     rwa [show pdN N2 r=10^r-1 by omega]at this
    have hge2:(10^r-1)*10^(numD N2-r)*10^(y+z)≤M*5^k:=by
     rw[hMk];exact Nat.mul_le_mul_right _ hge
    rw[Nat.mul_assoc,←Nat.pow_add,show numD N2-r+(y+z)=k-12 by omega,Nat.sub_mul,←Nat.pow_add,Nat.one_mul,show r+(k-12)=14+k by omega]at hge2;have h6:=p510_lt k hk13 hk2;have h7:10^(k-12)≤10^(14+k):=Nat.pow_le_pow_right (by decide) (by omega);omega
 ·rw[if_neg hlt];omega
end Go.Proofs.YtfkecmlmnhbmoaaGreatDoor
