/- Parts F17p F17 F18 G26 G27 G28 J11. -/
import Derived.Deep.CutRange
import Derived.Test.YtfkecmlmnhbmoaaGreatDoorW26
import Derived.Test.YtfkecmlmnhbmoaaGreatDoorW27
import Derived.Test.YtfkecmlmnhbmoaaGreatDoorW28
set_option linter.unusedVariables false
set_option linter.unusedSimpArgs false
set_option maxRecDepth 100000
set_option maxHeartbeats 40000000
namespace Go.Proofs.YtfkecmlmnhbmoaaGreatDoor
open Go Go.RowKit
def isNumF (x:Nat):Prop:=∃s m j,FloatKind.f64.format.read x=.number s m j
theorem isNumF_of {x:Nat}(h:x%9223372036854775808<9218868437227405312):isNumF x:=by
 unfold isNumF;have e1:FloatKind.f64.format=Ieee.double:=rfl;have e2:Ieee.double.signWeight=9223372036854775808:=by decide
 have e3:Ieee.double.infRung=9218868437227405312:=by decide
 rw[e1];unfold Ieee.Format.read;simp only[e2,e3]
 split
 ·exact⟨_,_,_,rfl⟩
 ·first|exact⟨_,_,_,rfl⟩|(rw[if_pos h];exact⟨_,_,_,rfl⟩)
theorem ofInt_lt {M:Nat}(h:M<9007199254740992):floatOfInt .f64 (M:Int)<9218868437227405312:=by
 have e1:floatOfInt .f64 (M:Int)=Ieee.double.nearest false M 0:=by
  show Ieee.double.write (.number (decide ((M:Int)<0)) (M:Int).natAbs 0)=_
  rw[decide_eq_false (by omega),Int.natAbs_natCast];rfl
 rw[e1];unfold Ieee.Format.nearest
 by_cases h0:M=0
 ·rw[if_pos h0];decide
 ·rw[if_neg h0]
  have hL:M.log2<53:=(Nat.log2_lt h0).2 (by omega);have hlt:M<2^(M.log2+1):=Nat.lt_log2_self;generalize M.log2=L at *;have e2:Ieee.double.leastPlace=-1074:=by decide
  have e3:Ieee.double.binade=4503599627370496:=by decide
  have e4:Ieee.double.infRung=9218868437227405312:=by decide
  have e5:(Ieee.double.fractionBits:Int)=52:=by decide
  simp only[e2,e3,e4,e5];rw[show max ((0:Int)+(L:Nat)-52) (-1074)=(L:Int)-52 by omega];rw[show ((0:Int)-((L:Int)-52)).toNat=52-L by omega,show (((L:Int)-52)-0).toNat=0 by omega,show (((L:Int)-52)-(-1074)).toNat=L+1022 by omega]
  have ek:Ieee.Toward.even.cut false (M <<< (52-L)) 0=M*2^(52-L):=by
   unfold Ieee.Toward.cut;simp[Nat.shiftLeft_eq,Nat.mod_one]
  rw[ek];unfold Ieee.Format.word
  have hk:M*2^(52-L)<9007199254740992:=by
   calc M*2^(52-L)<2^(L+1)*2^(52-L):=Nat.mul_lt_mul_of_pos_right hlt (Nat.pow_pos (by decide))
    _=2^53:=by rw[←Nat.pow_add];congr 1;omega
    _=_:=by decide
  simp only[Bool.false_eq_true,if_false];refine Nat.lt_of_le_of_lt (Nat.min_le_left _ _) ?_;have h5:(L+1022)*4503599627370496≤1074*4503599627370496:=Nat.mul_le_mul_right _ (by omega);have h6:=Nat.add_lt_add_of_le_of_lt h5 hk;exact Nat.lt_of_lt_of_le h6 (by decide)
theorem isNumF_ofInt {M:Nat}(h:M<9007199254740992):isNumF (floatOfInt .f64 (M:Int)):=isNumF_of (Nat.lt_of_le_of_lt (Nat.mod_le _ _) (ofInt_lt h))
theorem isNumF_neg {x:Nat}(h:x<9218868437227405312):isNumF (Op.negFloat .f64 x):=by
 apply isNumF_of;have e63:FloatKind.f64.format.exponentBits+FloatKind.f64.format.fractionBits=63:=by decide
 have e:Op.negFloat .f64 x=x ^^^ 2^63:=by unfold Op.negFloat;rw[e63]
 rw[e,show (9223372036854775808:Nat)=2^63 by decide,Nat.xor_mod_two_pow,Nat.mod_self,Nat.xor_zero];exact Nat.lt_of_le_of_lt (Nat.mod_le _ _) h
theorem nnF_ofInt {M:Nat}(h:M<9007199254740992):nnF (floatOfInt .f64 (M:Int)):=nnF_num (isNumF_ofInt h) (Nat.lt_trans (ofInt_lt h) (by decide))
theorem nnF_neg {x:Nat}(h:x<9218868437227405312):nnF (Op.negFloat .f64 x):=by
 refine nnF_num (isNumF_neg h) ?_;have e63:FloatKind.f64.format.exponentBits+FloatKind.f64.format.fractionBits=63:=by decide
 have e:Op.negFloat .f64 x=x ^^^ 2^63:=by unfold Op.negFloat;rw[e63]
 rw[e];exact Nat.xor_lt_two_pow (n:=64) (Nat.lt_trans h (by decide)) (by decide)
theorem mul_some {x y:Nat}(hx:isNumF x)(hy:isNumF y):∃r,floatBits .mul .f64 x y=some r∧nnF r:=by
 obtain⟨s,m,i,h1⟩:=hx;obtain⟨t,n,j,h2⟩:=hy;unfold floatBits Ieee.Format.mul;simp only[h1,h2,Ieee.Datum.product,Option.map_some];exact⟨_,rfl,nnF_nearest _ _ _⟩
theorem div_some {x y:Nat}(hx:isNumF x)(hy:∃s m j,FloatKind.f64.format.read y=.number s m j∧m≠0):∃r,floatBits .quo .f64 x y=some r∧nnF r:=by
 obtain⟨s,m,i,h1⟩:=hx;obtain⟨t,n,j,h2,h3⟩:=hy;unfold floatBits Ieee.Format.div;simp only[h1,h2,Ieee.Datum.quotient,if_neg h3,Option.map_some];exact⟨_,rfl,nnF_nearest _ _ _⟩
theorem ex_any (W0:World)(hF:FInit2 W0)(hF3:∀fb fo (i:Nat) x,(∃fc,W0.cell? ⟨20,0,Option.none⟩=some (.slice (some ⟨fb,fo,Option.none⟩) 23 fc))→i<23→W0.cell? ⟨fb,fo+i,Option.none⟩=some (.float .f64 x)→∃s m j,FloatKind.f64.format.read x=.number s m j∧m≠0)(M:Nat)(hM:M<18446744073709551616)(p:Int)(hp1:-100≤p)(hp2:p≤20)(ng:Bool):∃(x:Nat) (ok:Bool),(ok=true→nnF x)∧∀w:World,Env W0 w→Calls Tryz.prog 153 #[.int .u64 M,.int .i64 p,.bool ng] w fun e w'=>e=.returned (.tuple #[.float .f64 x,.bool ok])∧w'=w:=by
 obtain⟨fb,fo,fc,f0,f1⟩:=hF.p64;have hf0:=hF.f0;rcases xbt ((M:Int)/4503599627370496 != 0) with hm|hm
 ·refine⟨0,false,by simp,fun w hE=>?_⟩
  have e0:=hE.cell hf0;go_enter Tryz.func153,Tryz.ntmps153;go_wp2_with fail
  go_ret2;exact⟨rfl,rfl⟩
 ·have hM53 : M < 9007199254740992 := by have h1 := hm; rw[bne_eq_false_iff_eq]at h1; omega
  have hNF:=isNumF_ofInt hM53;have hNG:=isNumF_neg (ofInt_lt hM53);have HF9:=xhd (nnF_ofInt hM53);have HG9:=xhd (nnF_neg (ofInt_lt hM53));obtain⟨F,hFF⟩:∃F,floatOfInt .f64 (M:Int)=F:=⟨_,rfl⟩;rw[hFF]at hNF hNG HF9 HG9;obtain⟨G,hG⟩:∃G,G=Op.negFloat .f64 F:=⟨_,rfl⟩;rw[←hG]at hNG HG9;have hneg:∀w:World,(Op.unary .neg (.float .f64 F)).run Tryz.prog w=.ok (.float .f64 G) w:=by intro w;rw[hG];rfl
  clear hG
  by_cases hp0:p=0
  ·subst hp0
   cases ng
   all_goals
    apply Exists.intro;refine⟨true,?_,fun w hE=>?_⟩
    rotate_left
    have e0:=hE.cell hf0;go_enter Tryz.func153,Tryz.ntmps153;go_wp2_with fail
    go_ret2;exact⟨rfl,rfl⟩
    first|exact HF9.out|exact HG9.out|(intro _;first|exact HF9.out|exact HG9.out)
  ·have hpb:(p==0)=false:=by simpa using hp0
   by_cases hpos:0<p
   ·obtain⟨i,rfl⟩:∃i:Nat,p=i:=⟨p.toNat,by omega⟩
    obtain⟨y,hy⟩:=f1 i (by omega);obtain⟨ys,ym,yj,hy2,hy3⟩:=hF3 fb fo i y ⟨fc,f0⟩ (by omega) hy
    cases ng
    ·obtain⟨r,hr,hrn⟩:=mul_some hNF ⟨_,_,_,hy2⟩
     have hmul:∀w:World,(binOp .mul 22 (.float .f64 (F)) (.float .f64 y)).run Tryz.prog w=.ok (.float .f64 r) w:=fun w=>run_float_arith w .mul 22 .f64 _ _ r hr
     have hok9:∀a b:Bool,(((if FloatKind.f64.format.order (F) 4831355200913801216=some Ordering.gt then false else if FloatKind.f64.format.order (F) 14054727237768577024=some Ordering.lt then false else true):Bool)=true)→nnF (if FloatKind.f64.format.order (F) 4831355200913801216=some Ordering.gt then F else if FloatKind.f64.format.order (F) 14054727237768577024=some Ordering.lt then F else r):=fun _ _ h=>by
      split at h
      ·exact absurd h (by simp)
      ·rename_i g1
       split at h
       ·exact absurd h (by simp)
       ·rename_i g2
        rw[if_neg g1,if_neg g2];exact hrn
     clear hr hNF hNG hy2;refine⟨if FloatKind.f64.format.order (F) 4831355200913801216=some Ordering.gt then F else if FloatKind.f64.format.order (F) 14054727237768577024=some Ordering.lt then F else r,if FloatKind.f64.format.order (F) 4831355200913801216=some Ordering.gt then false else if FloatKind.f64.format.order (F) 14054727237768577024=some Ordering.lt then false else true,hok9 true true,fun w hE=>?_⟩;clear hok9 hrn;have e0:=hE.cell hf0;have e1:=hE.cell f0;have e2:=hE.cell hy;generalize hX:(if FloatKind.f64.format.order (F) 4831355200913801216=some Ordering.gt then F else if FloatKind.f64.format.order (F) 14054727237768577024=some Ordering.lt then F else r)=X;generalize hO:(if FloatKind.f64.format.order (F) 4831355200913801216=some Ordering.gt then false else if FloatKind.f64.format.order (F) 14054727237768577024=some Ordering.lt then false else true)=O;obtain⟨HX,HO⟩:=xh2 hX hO;clear hX hO
     go_enter Tryz.func153,Tryz.ntmps153;go_wp2_with fail
     ·go_ret2
      rename_i h9;rw[←HX.out,←HO.out,if_pos h9,if_pos h9];exact⟨rfl,rfl⟩
     ·go_ret2
      rename_i h9 h8;clear hneg hmul e0 e1 e2;rw[←HX.out,←HO.out];simp[h9]at h8;simp[h8,h9]
     ·go_ret2
      rename_i h9 h8;clear hneg hmul e0 e1 e2;rw[←HX.out,←HO.out];simp[h9]at h8;simp[h8,h9]
    ·obtain⟨r,hr,hrn⟩:=mul_some hNG ⟨_,_,_,hy2⟩
     have hmul:∀w:World,(binOp .mul 22 (.float .f64 (G)) (.float .f64 y)).run Tryz.prog w=.ok (.float .f64 r) w:=fun w=>run_float_arith w .mul 22 .f64 _ _ r hr
     have hok9:∀a b:Bool,(((if FloatKind.f64.format.order (G) 4831355200913801216=some Ordering.gt then false else if FloatKind.f64.format.order (G) 14054727237768577024=some Ordering.lt then false else true):Bool)=true)→nnF (if FloatKind.f64.format.order (G) 4831355200913801216=some Ordering.gt then G else if FloatKind.f64.format.order (G) 14054727237768577024=some Ordering.lt then G else r):=fun _ _ h=>by
      split at h
      ·exact absurd h (by simp)
      ·rename_i g1
       split at h
       ·exact absurd h (by simp)
       ·rename_i g2
        rw[if_neg g1,if_neg g2];exact hrn
     clear hr hNF hNG hy2;refine⟨if FloatKind.f64.format.order (G) 4831355200913801216=some Ordering.gt then G else if FloatKind.f64.format.order (G) 14054727237768577024=some Ordering.lt then G else r,if FloatKind.f64.format.order (G) 4831355200913801216=some Ordering.gt then false else if FloatKind.f64.format.order (G) 14054727237768577024=some Ordering.lt then false else true,hok9 true true,fun w hE=>?_⟩;clear hok9 hrn;have e0:=hE.cell hf0;have e1:=hE.cell f0;have e2:=hE.cell hy;generalize hX:(if FloatKind.f64.format.order (G) 4831355200913801216=some Ordering.gt then G else if FloatKind.f64.format.order (G) 14054727237768577024=some Ordering.lt then G else r)=X;generalize hO:(if FloatKind.f64.format.order (G) 4831355200913801216=some Ordering.gt then false else if FloatKind.f64.format.order (G) 14054727237768577024=some Ordering.lt then false else true)=O;obtain⟨HX,HO⟩:=xh2 hX hO;clear hX hO
     go_enter Tryz.func153,Tryz.ntmps153;go_wp2_with fail
     ·go_ret2
      rename_i h9;rw[←HX.out,←HO.out,if_pos h9,if_pos h9];exact⟨rfl,rfl⟩
     ·go_ret2
      rename_i h9 h8;clear hneg hmul e0 e1 e2;rw[←HX.out,←HO.out];simp[h9]at h8;simp[h8,h9]
     ·go_ret2
      rename_i h9 h8;clear hneg hmul e0 e1 e2;rw[←HX.out,←HO.out];simp[h9]at h8;simp[h8,h9]
   ·by_cases h22:-22≤p
    ·obtain⟨i,hi⟩:∃i:Nat,-p=i:=⟨(-p).toNat,by omega⟩
     obtain⟨y,hy⟩:=f1 i (by omega);have hpn:p<0:=by omega
     have hy9:=hF3 fb fo i y ⟨fc,f0⟩ (by omega) hy;clear hpos
     cases ng
     ·obtain⟨r,hr,hrn⟩:=div_some hNF hy9
      have hmul:∀w:World,(binOp .quo 22 (.float .f64 (F)) (.float .f64 y)).run Tryz.prog w=.ok (.float .f64 r) w:=fun w=>run_float_arith w .quo 22 .f64 _ _ r hr;clear hr hNF hNG hy9;refine⟨r,true,fun _=>hrn,fun w hE=>?_⟩;clear hrn;have e0:=hE.cell hf0;have e1:=hE.cell f0;have e2:=hE.cell hy;go_enter Tryz.func153,Tryz.ntmps153;go_wp2_with fail
      go_ret2;exact⟨rfl,rfl⟩
     ·obtain⟨r,hr,hrn⟩:=div_some hNG hy9
      have hmul:∀w:World,(binOp .quo 22 (.float .f64 (G)) (.float .f64 y)).run Tryz.prog w=.ok (.float .f64 r) w:=fun w=>run_float_arith w .quo 22 .f64 _ _ r hr;clear hr hNF hNG hy9;refine⟨r,true,fun _=>hrn,fun w hE=>?_⟩;clear hrn;have e0:=hE.cell hf0;have e1:=hE.cell f0;have e2:=hE.cell hy;go_enter Tryz.func153,Tryz.ntmps153;go_wp2_with fail
      go_ret2;exact⟨rfl,rfl⟩
    ·have hpn:p<0:=by omega
     have h22':p < -22:=by omega
     clear h22 hpos
     cases ng
     ·refine⟨F,false,by simp,fun w hE=>?_⟩
      have e0:=hE.cell hf0;go_enter Tryz.func153,Tryz.ntmps153;go_wp2_with fail
      go_ret2;exact⟨rfl,rfl⟩
     ·refine⟨G,false,by simp,fun w hE=>?_⟩
      have e0:=hE.cell hf0;go_enter Tryz.func153,Tryz.ntmps153;go_wp2_with fail
      go_ret2;exact⟨rfl,rfl⟩
structure FInit3 (W0:World):Prop extends FInit2 W0 where
 nz:∀fb fo (i:Nat) x,(∃fc,W0.cell? ⟨20,0,Option.none⟩=some (.slice (some ⟨fb,fo,Option.none⟩) 23 fc))→i<23→W0.cell? ⟨fb,fo+i,Option.none⟩=some (.float .f64 x)→∃s m j,FloatKind.f64.format.read x=.number s m j∧m≠0
theorem b2_tv {o:Int}(ho:o=1)(w:World):Calls Tryz.prog 151 #[.bool true] w fun e w'=>e=.returned (.int .u64 o)∧w'=w:=by subst ho;exact b2_t w
theorem rf_facts {l:By}(h:numOk l):∃M nd dp tr,rfF (numStrip l) 0 0 0 false=(M,nd,dp,tr)∧M<10000000000000000000∧-60≤dp∧dp≤14∧nd≤60∧(nd:Int)-dp≤60∧(M=0↔nd=0)∧(tr=true→20≤nd):=by
 obtain⟨pre,c,l1,d,a,_,_,hst,hsc,h1,h2,h3⟩:=numOk_parts h;have hI:=rf_end _ 0 0 0 false 0 0 0 d a hsc RfI.start;rw[hst];generalize rfF (c::l1) 0 0 0 false=R at hI⊢;obtain⟨M,nd,dp,tr⟩:=R;simp only at hI;have hm:=hI.m;have hm2:10^min nd 19≤10^19:=pow10_le (by omega);have hm3:(10:Nat)^19=10000000000000000000:=by decide
 refine⟨M,nd,dp,tr,rfl,by omega,?_,?_,?_,?_,hI.m0,hI.t⟩
 ·have h1:=hI.lo;have h2:=hI.nd_d;omega
 ·have:=hI.hi;omega
 ·have:=hI.nd_d;omega
 ·have:=hI.lo;omega
def A64 (W0:World)(l:By)(s:ByteArray)(x:Nat):Prop:=∀w:World,Env W0 w→Calls Tryz.prog 107 #[.string s] w fun e w'=>e=.returned (.tuple #[.float .f64 x,.int .i64 s.size,.nilIface])∧w.grownBy w' none
theorem a64_zero (W0:World)(hF:FInit3 W0)(l:By)(hok:numOk l)(s:ByteArray)(hs:s.data.toList=l)(hs2:s.size≤1000)(hM:(rfF (numStrip l) 0 0 0 false).1=0):∃x,(nnF x∧∀b,headIs l (· == 45)=b→x=if b then 9223372036854775808 else 0)∧A64 W0 l s x:=by
 have hopt:=hF.opt;have hfb:=run_frombits;obtain⟨M,nd,dp,tr,hR,_⟩:=rf_facts hok;rw[hR]at hM;simp only at hM;subst hM;obtain⟨ng,hng⟩:∃ng,headIs l (· == 45)=ng:=⟨_,rfl⟩;have hrf:=fun w=>rf_any w s l hs hok hs2;have hsp:=fun w=>special_any w s l hs hok hs2;unfold rfRet at hrf;simp only[hR,hng,if_true]at hrf;obtain⟨Hrf,Hsp,Hng,HR,Hs⟩:=xh5 hrf hsp hng hR hs;clear hrf hsp hng hR hs
 clear hok;have y30:∀(a b c:Value),([a,b,c]:List Value)[0]?=some a:=fun _ _ _=>rfl;have y31:∀(a b c:Value),([a,b,c]:List Value)[1]?=some b:=fun _ _ _=>rfl;have y32:∀(a b c:Value),([a,b,c]:List Value)[2]?=some c:=fun _ _ _=>rfl;have y70:∀(a b c d e f g:Value),([a,b,c,d,e,f,g]:List Value)[0]?=some a:=fun _ _ _ _ _ _ _=>rfl;have y71:∀(a b c d e f g:Value),([a,b,c,d,e,f,g]:List Value)[1]?=some b:=fun _ _ _ _ _ _ _=>rfl;have y72:∀(a b c d e f g:Value),([a,b,c,d,e,f,g]:List Value)[2]?=some c:=fun _ _ _ _ _ _ _=>rfl;have y73:∀(a b c d e f g:Value),([a,b,c,d,e,f,g]:List Value)[3]?=some d:=fun _ _ _ _ _ _ _=>rfl;have y74:∀(a b c d e f g:Value),([a,b,c,d,e,f,g]:List Value)[4]?=some e:=fun _ _ _ _ _ _ _=>rfl;have y75:∀(a b c d e f g:Value),([a,b,c,d,e,f,g]:List Value)[5]?=some f:=fun _ _ _ _ _ _ _=>rfl;have y76:∀(a b c d e f g:Value),([a,b,c,d,e,f,g]:List Value)[6]?=some g:=fun _ _ _ _ _ _ _=>rfl;have sh0:∀w:World,(Op.shift BinOp.shl IntKind.u64 0 IntKind.u64 63).run Tryz.prog w=.ok (.int .u64 0) w:=fun _=>by kernel_rfl
 obtain⟨S63,hS63⟩:∃S63:Int,S63=9223372036854775808:=⟨_,rfl⟩;obtain⟨o1,ho1⟩:∃o1:Int,o1=1:=⟨_,rfl⟩;have sh1:∀w:World,(Op.shift BinOp.shl IntKind.u64 o1 IntKind.u64 63).run Tryz.prog w=.ok (.int .u64 S63) w:=fun _=>by rw[hS63,ho1];kernel_rfl
 have sh2:IntKind.u64.wrap (o1*9223372036854775808)=S63:=by rw[ho1,hS63];decide
 have Ho1:=xhd ho1;clear ho1
 have hS0:0≤S63:=by omega
 have hS1:S63≤18446744073709551615:=by omega
 have HS63:=xhd hS63;clear hS63
 obtain⟨Z0,hZ0⟩:∃Z0,bits BinOp.or IntKind.u64 0 0=Z0:=⟨_,rfl⟩;obtain⟨Z1,hZ1⟩:∃Z1,bits BinOp.or IntKind.u64 S63 0=Z1:=⟨_,rfl⟩;obtain⟨x0,hx0⟩:∃x:Nat,x=Z0.toNat:=⟨_,rfl⟩;obtain⟨x1,hx1⟩:∃x:Nat,x=Z1.toNat:=⟨_,rfl⟩;have hfb0:∀w:World,(callFunc 152 #[.int .u64 Z0]).run Tryz.prog w=.ok (.value (.float .f64 x0)) w:=fun w=>by rw[hx0];exact hfb Z0 w
 have hfb1:∀w:World,(callFunc 152 #[.int .u64 Z1]).run Tryz.prog w=.ok (.value (.float .f64 x1)) w:=fun w=>by rw[hx1];exact hfb Z1 w
 have n0:=xhd (show nnF x0∧x0=0 by rw[hx0,←hZ0];exact⟨nnF_of (by decide) (by decide),by decide⟩);have n1:=xhd (show nnF x1∧x1=9223372036854775808 by rw[hx1,←hZ1,HS63.out];exact⟨nnF_of (by decide) (by decide),by decide⟩);clear hx0 hx1 hfb
 cases ng
 ·refine⟨x0,⟨n0.out.1,fun b hb=>by rw[Hng.out]at hb;subst hb;simpa using n0.out.2⟩,fun w hE=>?_⟩
  have e0:=hE.cell hopt;go_enter Tryz.func107,Tryz.ntmps107;go_wp2_with fail
  refine(Hsp.out _).mono ?_;rintro e w1⟨rfl,hw⟩;subst w1;go_wp2_with fail
  refine(Hrf.out _).mono ?_;rintro e w1⟨rfl,hw⟩;subst w1;go_wp2_with fail
  refine(b2_f _).mono ?_;rintro e w1⟨rfl,hw⟩;subst w1;go_wp2_with fail
  go_ret3;exact⟨rfl,xgr _ _⟩
 ·refine⟨x1,⟨n1.out.1,fun b hb=>by rw[Hng.out]at hb;subst hb;simpa using n1.out.2⟩,fun w hE=>?_⟩
  have e0:=hE.cell hopt;go_enter Tryz.func107,Tryz.ntmps107;go_wp2_with fail
  refine(Hsp.out _).mono ?_;rintro e w1⟨rfl,hw⟩;subst w1;go_wp2_with fail
  refine(Hrf.out _).mono ?_;rintro e w1⟨rfl,hw⟩;subst w1;go_wp2_with fail
  refine(b2_tv Ho1.out _).mono ?_;rintro e w1⟨rfl,hw⟩;subst w1;go_wp2_with fail
  go_ret3;exact⟨rfl,xgr _ _⟩
open Go.Maps
theorem Tryz.info50':(Tryz.prog.info? 50).map (fun i=>(i.zero,i.size,i.bytes))=some (some .nilIface,1,16):=by kernel_rfl
theorem cells1_set {w:World}{b:Nat}{v:Value}{t:TypeId}(h:w.heap[b]?=some (.cells #[v] t (0,0)))(u:Value):(w.setCell ⟨b,0,none⟩ u).heap[b]?=some (.cells #[u] t (0,0)):=by
 simp[World.setCell,Array.getElem?_modify,h]
end Go.Proofs.YtfkecmlmnhbmoaaGreatDoor
namespace Go.Proofs.YtfkecmlmnhbmoaaGreatDoor
open Go Go.RowKit
theorem fmt_zero (w:World)(B:Nat)(v0:Value)(neg:Bool)(hown:OwnB B w v0 [])(hB:B≤w.heap.size)(sh:Bool) :
  Calls Tryz.prog 115 #[v0,.bool neg,.slice none 0 0,.int .i64 0,.int .i64 0,.int .i64 12,.int .u8 102,.bool sh] w fun e w'=>∃v',e=.returned v'∧DstAt w w' v0 v' B (ftxt neg [] 0):=by
 obtain⟨L,hL⟩:∃L:By,L=[]:=⟨_,rfl⟩;obtain⟨z1,hz1⟩:∃z:Nat,z=0:=⟨_,rfl⟩;obtain⟨offn,hoffn⟩:∃z:Nat,z=0:=⟨_,rfl⟩;obtain⟨md,hmd⟩:∃z:Nat,z=0:=⟨_,rfl⟩;obtain⟨tz,htz⟩:∃z:Nat,z=12:=⟨_,rfl⟩;have hz12:z1≤12:=by omega
 have hmd0:md≤0:=by omega
 have hmd12:z1+md+tz=12:=by omega
 have Hfin:=xhd (show ftxt neg [] 0=((if neg then [45] else [])++[48])++46::(List.replicate z1 48++((L.drop offn).take md++List.replicate tz 48)) from by
  rw[hL,hz1,hoffn,hmd,htz];cases neg<;>rfl)
 have HD:=xhd (DstAt.start hown hB);have HZ:=xhd (And.intro hz1 (And.intro hoffn (And.intro hmd htz)));clear hown hB hz1 hoffn hmd htz hL
 cases neg
 ·replace Hfin:=xhd (show _=([48]:By)++46::(List.replicate z1 48++((L.drop offn).take md++List.replicate tz 48)) from Hfin.out)
  have HLn:=xhd (show ([]:By).length≤20 by simp);have HPl:=xhd (show ([48]:By).length≤20 by simp);go_enter Tryz.func115,Tryz.ntmps115
  go_upto_region 67 with ((at_builtin;(refine wpList_pushD rfl (.tmp 209) (.tmp 210) rfl B _ ([]:By) 48 _ rfl (OwnB.alloc HD.out.own _) _ rfl (by rw[World.cell?_alloc_at _ _ _ _ (by simp)];rfl) rfl (by have:=HLn.out;omega) (by have:=HD.out.base;have:=HD.out.gr.size;simp;omega) ?_));intro v1 w1 hown1 hgr1 hat1;have HD1:=xhd (HD.out.push hown1 hgr1 hat1);clear hown1 hgr1 hat1)
  replace HD:=xhd (show DstAt w w1 v0 v1 B [48] from HD1.out);clear HD1;replace HLn:=HPl;obtain⟨P,hP⟩:∃P:By,P=[48]:=⟨_,rfl⟩;rw[←hP]at Hfin HPl HLn HD;clear hP
  go_upto_region 69 with ((at_builtin;(refine wpList_pushD rfl (.tmp 214) (.tmp 215) rfl B _ P 46 _ rfl (OwnB.alloc HD.out.own _) _ rfl (by rw[World.cell?_alloc_at _ _ _ _ (by simp)];rfl) rfl (by have:=HLn.out;omega) (by have:=HD.out.base;have:=HD.out.gr.size;simp;omega) ?_));intro v1 w1 hown1 hgr1 hat1;have HD1:=xhd (HD.out.push hown1 hgr1 hat1);clear hown1 hgr1 hat1)
  clear HD
  go_cut [26] from 217 to 221 (fun tt wr=>tt=.int .i64 (z1:Nat)∧w1=wr)
  case first =>
   go_wp2_with fail
   all_goals
    go_meet
    case rel =>
     obtain⟨q1,q2,q3,q4⟩:=HZ.out;exact⟨congrArg (Value.int .i64) (by omega),rfl⟩
  obtain⟨rfl,rfl⟩:=hcut
  go_upto_region 71 with (fail)
  go_cut [28] from 225 to 232 (fun tt wr=>tt=.int .i64 (md:Nat)∧w1=wr)
  case first =>
   go_wp2_with fail
   all_goals
    go_meet
    case rel =>
     obtain⟨q1,q2,q3,q4⟩:=HZ.out;exact⟨congrArg (Value.int .i64) (by omega),rfl⟩
  obtain⟨rfl,rfl⟩:=hcut
  go_upto_region 72 with (fail)
  go_cut [29] from 233 to 238 (fun tt wr=>tt=.int .i64 (tz:Nat)∧w1=wr)
  case first =>
   go_wp2_with fail
   all_goals
    go_meet
    case rel =>
     obtain⟨q1,q2,q3,q4⟩:=HZ.out;exact⟨congrArg (Value.int .i64) (by omega),rfl⟩
  obtain⟨rfl,rfl⟩:=hcut;go_wp2_with fail
  go_loopg [0,240] z1 (fun g t0 t240 wr=>∃i v l,t240=.int .i64 (i:Nat)∧t0=v∧i≤z1∧g=z1-i∧l=P++46::List.replicate i 48∧l.length≤100∧DstAt w wr v0 v B l)
  case atStart=>exact⟨0,_,_,rfl,rfl,Nat.zero_le _,rfl,rfl,by have:=HPl.out;simp;omega,HD1.out⟩
  case round =>
   clear HD1;obtain⟨i,v,l,rfl,rfl,hi,hg,hl,hln,hD⟩:=hrel;obtain⟨Hg,Hl,HLn,HD⟩:=xh4 hg hl hln hD;clear hg hl hln hD
   by_cases hiz:i<z1
   ·have hnm:(i:Int)<z1:=by omega
    go_wp2_with ((at_builtin;(refine wpList_pushD rfl (.tmp 242) (.tmp 243) rfl B _ l 48 _ rfl (OwnB.alloc HD.out.own _) _ rfl (by rw[World.cell?_alloc_at _ _ _ _ (by simp)];rfl) rfl (by have:=HLn.out;omega) (by have:=HD.out.base;have:=HD.out.gr.size;simp;omega) ?_));intro v1 w1 hown1 hgr1 hat1;have HD1:=xhd (HD.out.push hown1 hgr1 hat1);clear hown1 hgr1 hat1)
    go_wp2_with fail
    go_roundg (z1-(i+1))
    case measure=>rw[Hg.out];omega
    case rel=>exact⟨i+1,_,_,by simp,rfl,by omega,rfl,by rw[Hl.out,List.replicate_succ'];simp,by have:=HPl.out;have:=hz12;rw[Hl.out];simp;omega,HD1.out⟩
   ·obtain rfl:i=z1:=by omega
    have hnm:¬(i:Int)<i:=by omega
    go_wp2_with fail
    go_loopg [0,247] md (fun g t0 t247 wr=>∃j v l,t247=.int .i64 (j:Nat)∧t0=v∧j≤md∧g=md-j∧l=P++46::(List.replicate i 48++(L.drop offn).take j)∧l.length≤100∧DstAt w wr v0 v B l)
    case atStart=>exact⟨0,_,_,rfl,rfl,Nat.zero_le _,rfl,by rw[Hl.out];simp,HLn.out,HD.out⟩
    case round =>
     clear HD HLn Hl Hg;obtain⟨j,v,l,rfl,rfl,hj,hg,hl,hln,hD⟩:=hrel;obtain⟨Hg,Hl,HLn,HD⟩:=xh4 hg hl hln hD;clear hg hl hln hD
     by_cases hjm:j<md
     ·exfalso;omega
     ·obtain rfl:j=md:=by omega
      have hnm2:¬(j:Int)<j:=by omega
      go_wp2_with fail
      go_loopg [0,261] tz (fun g t0 t261 wr=>∃k v l,t261=.int .i64 (k:Nat)∧t0=v∧k≤tz∧g=tz-k∧l=P++46::(List.replicate i 48++((L.drop offn).take j++List.replicate k 48))∧l.length≤100∧DstAt w wr v0 v B l)
      case atStart=>exact⟨0,_,_,rfl,rfl,Nat.zero_le _,rfl,by rw[Hl.out];simp,HLn.out,HD.out⟩
      case round =>
       clear HD HLn Hl Hg;obtain⟨k,v,l,rfl,rfl,hk,hg,hl,hln,hD⟩:=hrel;obtain⟨Hg,Hl,HLn,HD⟩:=xh4 hg hl hln hD;clear hg hl hln hD
       by_cases hkt:k<tz
       ·have hnm3:(k:Int)<tz:=by omega
        go_wp2_with ((at_builtin;(refine wpList_pushD rfl (.tmp 263) (.tmp 264) rfl B _ l 48 _ rfl (OwnB.alloc HD.out.own _) _ rfl (by rw[World.cell?_alloc_at _ _ _ _ (by simp)];rfl) rfl (by have:=HLn.out;omega) (by have:=HD.out.base;have:=HD.out.gr.size;simp;omega) ?_));intro v1 w1 hown1 hgr1 hat1;have HD1:=xhd (HD.out.push hown1 hgr1 hat1);clear hown1 hgr1 hat1)
        go_wp2_with fail
        go_roundg (tz-(k+1))
        case measure=>rw[Hg.out];omega
        case rel=>exact⟨k+1,_,_,by simp,rfl,by omega,rfl,by rw[Hl.out,List.replicate_succ'];simp,by have:=HPl.out;have:=hmd12;rw[Hl.out];simp;omega,HD1.out⟩
       ·obtain rfl:k=tz:=by omega
        have hnm3:¬(k:Int)<k:=by omega
        go_wp2_with fail
        go_ret;refine⟨_,rfl,?_⟩;rw[Hfin.out,←Hl.out];exact HD.out
 ·replace Hfin:=xhd (show _=([45,48]:By)++46::(List.replicate z1 48++((L.drop offn).take md++List.replicate tz 48)) from Hfin.out)
  have HLn:=xhd (show ([]:By).length≤20 by simp);have HPl:=xhd (show ([45,48]:By).length≤20 by simp);go_enter Tryz.func115,Tryz.ntmps115
  go_upto_region 55 with ((at_builtin;(refine wpList_pushD rfl (.tmp 179) (.tmp 180) rfl B _ ([]:By) 45 _ rfl (OwnB.alloc HD.out.own _) _ rfl (by rw[World.cell?_alloc_at _ _ _ _ (by simp)];rfl) rfl (by have:=HLn.out;omega) (by have:=HD.out.base;have:=HD.out.gr.size;simp;omega) ?_));intro v1 w1 hown1 hgr1 hat1;have HD1:=xhd (HD.out.push hown1 hgr1 hat1);clear hown1 hgr1 hat1)
  replace HD:=xhd (show DstAt w w1 v0 v1 B [45] from HD1.out);clear HD1;replace HLn:=xhd (show ([45]:By).length≤20 by simp)
  go_upto_region 67 with ((at_builtin;(refine wpList_pushD rfl (.tmp 209) (.tmp 210) rfl B _ ([45]:By) 48 _ rfl (OwnB.alloc HD.out.own _) _ rfl (by rw[World.cell?_alloc_at _ _ _ _ (by simp)];rfl) rfl (by have:=HLn.out;omega) (by have:=HD.out.base;have:=HD.out.gr.size;simp;omega) ?_));intro v1 w1 hown1 hgr1 hat1;have HD1:=xhd (HD.out.push hown1 hgr1 hat1);clear hown1 hgr1 hat1)
  replace HD:=xhd (show DstAt w _ v0 _ B [45,48] from HD1.out);clear HD1;replace HLn:=HPl;obtain⟨P,hP⟩:∃P:By,P=[45,48]:=⟨_,rfl⟩;rw[←hP]at Hfin HPl HLn HD;clear hP
  go_upto_region 69 with ((at_builtin;(refine wpList_pushD rfl (.tmp 214) (.tmp 215) rfl B _ P 46 _ rfl (OwnB.alloc HD.out.own _) _ rfl (by rw[World.cell?_alloc_at _ _ _ _ (by simp)];rfl) rfl (by have:=HLn.out;omega) (by have:=HD.out.base;have:=HD.out.gr.size;simp;omega) ?_));intro v1 w1 hown1 hgr1 hat1;have HD1:=xhd (HD.out.push hown1 hgr1 hat1);clear hown1 hgr1 hat1)
  clear HD
  go_cut [26] from 217 to 221 (fun tt wr=>tt=.int .i64 (z1:Nat)∧w1=wr)
  case first =>
   go_wp2_with fail
   all_goals
    go_meet
    case rel =>
     obtain⟨q1,q2,q3,q4⟩:=HZ.out;exact⟨congrArg (Value.int .i64) (by omega),rfl⟩
  obtain⟨rfl,rfl⟩:=hcut
  go_upto_region 71 with (fail)
  go_cut [28] from 225 to 232 (fun tt wr=>tt=.int .i64 (md:Nat)∧w1=wr)
  case first =>
   go_wp2_with fail
   all_goals
    go_meet
    case rel =>
     obtain⟨q1,q2,q3,q4⟩:=HZ.out;exact⟨congrArg (Value.int .i64) (by omega),rfl⟩
  obtain⟨rfl,rfl⟩:=hcut
  go_upto_region 72 with (fail)
  go_cut [29] from 233 to 238 (fun tt wr=>tt=.int .i64 (tz:Nat)∧w1=wr)
  case first =>
   go_wp2_with fail
   all_goals
    go_meet
    case rel =>
     obtain⟨q1,q2,q3,q4⟩:=HZ.out;exact⟨congrArg (Value.int .i64) (by omega),rfl⟩
  obtain⟨rfl,rfl⟩:=hcut;go_wp2_with fail
  go_loopg [0,240] z1 (fun g t0 t240 wr=>∃i v l,t240=.int .i64 (i:Nat)∧t0=v∧i≤z1∧g=z1-i∧l=P++46::List.replicate i 48∧l.length≤100∧DstAt w wr v0 v B l)
  case atStart=>exact⟨0,_,_,rfl,rfl,Nat.zero_le _,rfl,rfl,by have:=HPl.out;simp;omega,HD1.out⟩
  case round =>
   clear HD1;obtain⟨i,v,l,rfl,rfl,hi,hg,hl,hln,hD⟩:=hrel;obtain⟨Hg,Hl,HLn,HD⟩:=xh4 hg hl hln hD;clear hg hl hln hD
   by_cases hiz:i<z1
   ·have hnm:(i:Int)<z1:=by omega
    go_wp2_with ((at_builtin;(refine wpList_pushD rfl (.tmp 242) (.tmp 243) rfl B _ l 48 _ rfl (OwnB.alloc HD.out.own _) _ rfl (by rw[World.cell?_alloc_at _ _ _ _ (by simp)];rfl) rfl (by have:=HLn.out;omega) (by have:=HD.out.base;have:=HD.out.gr.size;simp;omega) ?_));intro v1 w1 hown1 hgr1 hat1;have HD1:=xhd (HD.out.push hown1 hgr1 hat1);clear hown1 hgr1 hat1)
    go_wp2_with fail
    go_roundg (z1-(i+1))
    case measure=>rw[Hg.out];omega
    case rel=>exact⟨i+1,_,_,by simp,rfl,by omega,rfl,by rw[Hl.out,List.replicate_succ'];simp,by have:=HPl.out;have:=hz12;rw[Hl.out];simp;omega,HD1.out⟩
   ·obtain rfl:i=z1:=by omega
    have hnm:¬(i:Int)<i:=by omega
    go_wp2_with fail
    go_loopg [0,247] md (fun g t0 t247 wr=>∃j v l,t247=.int .i64 (j:Nat)∧t0=v∧j≤md∧g=md-j∧l=P++46::(List.replicate i 48++(L.drop offn).take j)∧l.length≤100∧DstAt w wr v0 v B l)
    case atStart=>exact⟨0,_,_,rfl,rfl,Nat.zero_le _,rfl,by rw[Hl.out];simp,HLn.out,HD.out⟩
    case round =>
     clear HD HLn Hl Hg;obtain⟨j,v,l,rfl,rfl,hj,hg,hl,hln,hD⟩:=hrel;obtain⟨Hg,Hl,HLn,HD⟩:=xh4 hg hl hln hD;clear hg hl hln hD
     by_cases hjm:j<md
     ·exfalso;omega
     ·obtain rfl:j=md:=by omega
      have hnm2:¬(j:Int)<j:=by omega
      go_wp2_with fail
      go_loopg [0,261] tz (fun g t0 t261 wr=>∃k v l,t261=.int .i64 (k:Nat)∧t0=v∧k≤tz∧g=tz-k∧l=P++46::(List.replicate i 48++((L.drop offn).take j++List.replicate k 48))∧l.length≤100∧DstAt w wr v0 v B l)
      case atStart=>exact⟨0,_,_,rfl,rfl,Nat.zero_le _,rfl,by rw[Hl.out];simp,HLn.out,HD.out⟩
      case round =>
       clear HD HLn Hl Hg;obtain⟨k,v,l,rfl,rfl,hk,hg,hl,hln,hD⟩:=hrel;obtain⟨Hg,Hl,HLn,HD⟩:=xh4 hg hl hln hD;clear hg hl hln hD
       by_cases hkt:k<tz
       ·have hnm3:(k:Int)<tz:=by omega
        go_wp2_with ((at_builtin;(refine wpList_pushD rfl (.tmp 263) (.tmp 264) rfl B _ l 48 _ rfl (OwnB.alloc HD.out.own _) _ rfl (by rw[World.cell?_alloc_at _ _ _ _ (by simp)];rfl) rfl (by have:=HLn.out;omega) (by have:=HD.out.base;have:=HD.out.gr.size;simp;omega) ?_));intro v1 w1 hown1 hgr1 hat1;have HD1:=xhd (HD.out.push hown1 hgr1 hat1);clear hown1 hgr1 hat1)
        go_wp2_with fail
        go_roundg (tz-(k+1))
        case measure=>rw[Hg.out];omega
        case rel=>exact⟨k+1,_,_,by simp,rfl,by omega,rfl,by rw[Hl.out,List.replicate_succ'];simp,by have:=HPl.out;have:=hmd12;rw[Hl.out];simp;omega,HD1.out⟩
       ·obtain rfl:k=tz:=by omega
        have hnm3:¬(k:Int)<k:=by omega
        go_wp2_with fail
        go_ret;refine⟨_,rfl,?_⟩;rw[Hfin.out,←Hl.out];exact HD.out
end Go.Proofs.YtfkecmlmnhbmoaaGreatDoor
