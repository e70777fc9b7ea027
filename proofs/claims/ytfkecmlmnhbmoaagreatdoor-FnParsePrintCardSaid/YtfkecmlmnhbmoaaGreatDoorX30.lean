/- Parts F17p F17 F18 G26 G27 G28 J11. -/
import Derived.Deep.CutRange
import Derived.Test.YtfkecmlmnhbmoaaGreatDoorX27
import Derived.Test.YtfkecmlmnhbmoaaGreatDoorX28
import Derived.Test.YtfkecmlmnhbmoaaGreatDoorX29
set_option linter.unusedVariables false
set_option linter.unusedSimpArgs false
set_option maxRecDepth 100000
set_option maxHeartbeats 40000000
namespace Go.Proofs.YtfkecmlmnhbmoaaGreatDoor
open Go Go.RowKit
def a5G (x:Nat):Prop:=∃s m j,FloatKind.f64.format.read x=.number s m j
theorem a5H {x:Nat}(h:x%9223372036854775808<9218868437227405312):a5G x:=by
 unfold a5G;have e1:FloatKind.f64.format=Ieee.double:=rfl;have e2:Ieee.double.signWeight=9223372036854775808:=by decide
 have e3:Ieee.double.infRung=9218868437227405312:=by decide
 rw[e1];unfold Ieee.Format.read;simp only[e2,e3]
 split
 ·exact⟨_,_,_,rfl⟩
 ·first|exact⟨_,_,_,rfl⟩|(rw[if_pos h];exact⟨_,_,_,rfl⟩)
theorem a5g {M:Nat}(h:M<9007199254740992):floatOfInt .f64 (M:Int)<9218868437227405312:=by
 have e1:floatOfInt .f64 (M:Int)=Ieee.double.nearest false M 0:=by
  show Ieee.double.write (.number (decide ((M:Int)<0)) (M:Int).natAbs 0)=_
  rw[decide_eq_false (by omega),Int.natAbs_natCast];rfl
 rw[e1];unfold Ieee.Format.nearest
 by_cases h0:M=0
 ·rw[if_pos h0];decide
 ·rw[if_neg h0]
  have hL:M.log2<53:=(Nat.log2_lt h0).2 (by omega);have hlt:M<2^(M.log2+1):=Nat.lt_log2_self;generalize M.log2=L at *;have e2:Ieee.double.leastPlace=-1074:=by decide
  have e3:Ieee.double.binade=4503599627370496:=by decide
  have e4:Ieee.double.infRung=9218868437227405312:=by decide
  have e5:(Ieee.double.fractionBits:Int)=52:=by decide
  simp only[e2,e3,e4,e5];rw[show max ((0:Int)+(L:Nat)-52) (-1074)=(L:Int)-52 by omega];rw[show ((0:Int)-((L:Int)-52)).toNat=52-L by omega,show (((L:Int)-52)-0).toNat=0 by omega,show (((L:Int)-52)-(-1074)).toNat=L+1022 by omega]
  have ek:Ieee.Toward.even.cut false (M <<< (52-L)) 0=M*2^(52-L):=by
   unfold Ieee.Toward.cut;simp[Nat.shiftLeft_eq,Nat.mod_one]
  rw[ek];unfold Ieee.Format.word
  have hk:M*2^(52-L)<9007199254740992:=by
   calc M*2^(52-L)<2^(L+1)*2^(52-L):=Nat.mul_lt_mul_of_pos_right hlt (Nat.pow_pos (by decide))
    _=2^53:=by rw[←Nat.pow_add];congr 1;omega
    _=_:=by decide
  simp only[Bool.false_eq_true,if_false];refine Nat.lt_of_le_of_lt (Nat.min_le_left _ _) ?_;have h5:(L+1022)*4503599627370496≤1074*4503599627370496:=Nat.mul_le_mul_right _ (by omega);have h6:=Nat.add_lt_add_of_le_of_lt h5 hk;exact Nat.lt_of_lt_of_le h6 (by decide)
theorem a4Q {M:Nat}(h:M<9007199254740992):a5G (floatOfInt .f64 (M:Int)):=a5H (Nat.lt_of_le_of_lt (Nat.mod_le _ _) (a5g h))
theorem a6x {x:Nat}(h:x<9218868437227405312):a5G (Op.negFloat .f64 x):=by
 apply a5H;have e63:FloatKind.f64.format.exponentBits+FloatKind.f64.format.fractionBits=63:=by decide
 have e:Op.negFloat .f64 x=x ^^^ 2^63:=by unfold Op.negFloat;rw[e63]
 rw[e,show (9223372036854775808:Nat)=2^63 by decide,Nat.xor_mod_two_pow,Nat.mod_self,Nat.xor_zero];exact Nat.lt_of_le_of_lt (Nat.mod_le _ _) h
theorem b2d {M:Nat}(h:M<9007199254740992):nnF (floatOfInt .f64 (M:Int)):=b2c (a4Q h) (Nat.lt_trans (a5g h) (by decide))
theorem b7f {x:Nat}(h:x<9218868437227405312):nnF (Op.negFloat .f64 x):=by
 refine b2c (a6x h) ?_;have e63:FloatKind.f64.format.exponentBits+FloatKind.f64.format.fractionBits=63:=by decide
 have e:Op.negFloat .f64 x=x ^^^ 2^63:=by unfold Op.negFloat;rw[e63]
 rw[e];exact Nat.xor_lt_two_pow (n:=64) (Nat.lt_trans h (by decide)) (by decide)
theorem a9I {x y:Nat}(hx:a5G x)(hy:a5G y):∃r,floatBits .mul .f64 x y=some r∧nnF r:=by
 obtain⟨s,m,i,h1⟩:=hx;obtain⟨t,n,j,h2⟩:=hy;unfold floatBits Ieee.Format.mul;simp only[h1,h2,Ieee.Datum.product,Option.map_some];exact⟨_,rfl,a5P _ _ _⟩
theorem a9u {x y:Nat}(hx:a5G x)(hy:∃s m j,FloatKind.f64.format.read y=.number s m j∧m≠0):∃r,floatBits .quo .f64 x y=some r∧nnF r:=by
 obtain⟨s,m,i,h1⟩:=hx;obtain⟨t,n,j,h2,h3⟩:=hy;unfold floatBits Ieee.Format.div;simp only[h1,h2,Ieee.Datum.quotient,if_neg h3,Option.map_some];exact⟨_,rfl,a5P _ _ _⟩
theorem b8G (W0:World)(hF:a5t W0)(hF3:∀fb fo (i:Nat) x,(∃fc,W0.cell? ⟨20,0,Option.none⟩=some (.slice (some ⟨fb,fo,Option.none⟩) 23 fc))→i<23→W0.cell? ⟨fb,fo+i,Option.none⟩=some (.float .f64 x)→∃s m j,FloatKind.f64.format.read x=.number s m j∧m≠0)(M:Nat)(hM:M<18446744073709551616)(p:Int)(hp1:-100≤p)(hp2:p≤20)(ng:Bool):∃(x:Nat) (ok:Bool),(ok=true→nnF x)∧∀w:World,Env W0 w→Calls Tryz.prog 153 #[.int .u64 M,.int .i64 p,.bool ng] w fun e w'=>e=.returned (.tuple #[.float .f64 x,.bool ok])∧w'=w:=by
 obtain⟨fb,fo,fc,f0,f1⟩:=hF.p64;have hf0:=hF.f0;rcases xbt ((M:Int)/4503599627370496 != 0) with hm|hm
 ·refine⟨0,false,by simp,fun w hE=>?_⟩
  have e0:=hE.cell hf0;go_enter Tryz.func153,Tryz.ntmps153;go_wp2_with fail
  go_ret2;exact⟨rfl,rfl⟩
 ·have hM53 : M < 9007199254740992 := by have h1 := hm; rw[bne_eq_false_iff_eq]at h1; omega
  have hNF:=a4Q hM53;have hNG:=a6x (a5g hM53);have HF9:=xhd (b2d hM53);have HG9:=xhd (b7f (a5g hM53));obtain⟨F,hFF⟩:∃F,floatOfInt .f64 (M:Int)=F:=⟨_,rfl⟩;rw[hFF]at hNF hNG HF9 HG9;obtain⟨G,hG⟩:∃G,G=Op.negFloat .f64 F:=⟨_,rfl⟩;rw[←hG]at hNG HG9;have hneg:∀w:World,(Op.unary .neg (.float .f64 F)).run Tryz.prog w=.ok (.float .f64 G) w:=by intro w;rw[hG];rfl
  clear hG
  by_cases hp0:p=0
  ·subst hp0
   cases ng
   all_goals
    apply Exists.intro;refine⟨true,?_,fun w hE=>?_⟩
    rotate_left
    have e0:=hE.cell hf0;go_enter Tryz.func153,Tryz.ntmps153;go_wp2_with fail
    go_ret2;exact⟨rfl,rfl⟩
    first|exact HF9.out|exact HG9.out|(intro _;first|exact HF9.out|exact HG9.out)
  ·have hpb:(p==0)=false:=by simpa using hp0
   by_cases hpos:0<p
   ·obtain⟨i,rfl⟩:∃i:Nat,p=i:=⟨p.toNat,by omega⟩
    obtain⟨y,hy⟩:=f1 i (by omega);obtain⟨ys,ym,yj,hy2,hy3⟩:=hF3 fb fo i y ⟨fc,f0⟩ (by omega) hy
    cases ng
    ·obtain⟨r,hr,hrn⟩:=a9I hNF ⟨_,_,_,hy2⟩
     have hmul:∀w:World,(binOp .mul 22 (.float .f64 (F)) (.float .f64 y)).run Tryz.prog w=.ok (.float .f64 r) w:=fun w=>run_float_arith w .mul 22 .f64 _ _ r hr
     have hok9:∀a b:Bool,(((if FloatKind.f64.format.order (F) 4831355200913801216=some Ordering.gt then false else if FloatKind.f64.format.order (F) 14054727237768577024=some Ordering.lt then false else true):Bool)=true)→nnF (if FloatKind.f64.format.order (F) 4831355200913801216=some Ordering.gt then F else if FloatKind.f64.format.order (F) 14054727237768577024=some Ordering.lt then F else r):=fun _ _ h=>by
      split at h
      ·exact absurd h (by simp)
      ·rename_i g1
       split at h
       ·exact absurd h (by simp)
       ·rename_i g2
        rw[if_neg g1,if_neg g2];exact hrn
     clear hr hNF hNG hy2;refine⟨if FloatKind.f64.format.order (F) 4831355200913801216=some Ordering.gt then F else if FloatKind.f64.format.order (F) 14054727237768577024=some Ordering.lt then F else r,if FloatKind.f64.format.order (F) 4831355200913801216=some Ordering.gt then false else if FloatKind.f64.format.order (F) 14054727237768577024=some Ordering.lt then false else true,hok9 true true,fun w hE=>?_⟩;clear hok9 hrn;have e0:=hE.cell hf0;have e1:=hE.cell f0;have e2:=hE.cell hy;generalize hX:(if FloatKind.f64.format.order (F) 4831355200913801216=some Ordering.gt then F else if FloatKind.f64.format.order (F) 14054727237768577024=some Ordering.lt then F else r)=X;generalize hO:(if FloatKind.f64.format.order (F) 4831355200913801216=some Ordering.gt then false else if FloatKind.f64.format.order (F) 14054727237768577024=some Ordering.lt then false else true)=O;obtain⟨HX,HO⟩:=xh2 hX hO;clear hX hO
     go_enter Tryz.func153,Tryz.ntmps153;go_wp2_with fail
     ·go_ret2
      rename_i h9;rw[←HX.out,←HO.out,if_pos h9,if_pos h9];exact⟨rfl,rfl⟩
     ·go_ret2
      rename_i h9 h8;clear hneg hmul e0 e1 e2;rw[←HX.out,←HO.out];simp[h9]at h8;simp[h8,h9]
     ·go_ret2
      rename_i h9 h8;clear hneg hmul e0 e1 e2;rw[←HX.out,←HO.out];simp[h9]at h8;simp[h8,h9]
    ·obtain⟨r,hr,hrn⟩:=a9I hNG ⟨_,_,_,hy2⟩
     have hmul:∀w:World,(binOp .mul 22 (.float .f64 (G)) (.float .f64 y)).run Tryz.prog w=.ok (.float .f64 r) w:=fun w=>run_float_arith w .mul 22 .f64 _ _ r hr
     have hok9:∀a b:Bool,(((if FloatKind.f64.format.order (G) 4831355200913801216=some Ordering.gt then false else if FloatKind.f64.format.order (G) 14054727237768577024=some Ordering.lt then false else true):Bool)=true)→nnF (if FloatKind.f64.format.order (G) 4831355200913801216=some Ordering.gt then G else if FloatKind.f64.format.order (G) 14054727237768577024=some Ordering.lt then G else r):=fun _ _ h=>by
      split at h
      ·exact absurd h (by simp)
      ·rename_i g1
       split at h
       ·exact absurd h (by simp)
       ·rename_i g2
        rw[if_neg g1,if_neg g2];exact hrn
     clear hr hNF hNG hy2;refine⟨if FloatKind.f64.format.order (G) 4831355200913801216=some Ordering.gt then G else if FloatKind.f64.format.order (G) 14054727237768577024=some Ordering.lt then G else r,if FloatKind.f64.format.order (G) 4831355200913801216=some Ordering.gt then false else if FloatKind.f64.format.order (G) 14054727237768577024=some Ordering.lt then false else true,hok9 true true,fun w hE=>?_⟩;clear hok9 hrn;have e0:=hE.cell hf0;have e1:=hE.cell f0;have e2:=hE.cell hy;generalize hX:(if FloatKind.f64.format.order (G) 4831355200913801216=some Ordering.gt then G else if FloatKind.f64.format.order (G) 14054727237768577024=some Ordering.lt then G else r)=X;generalize hO:(if FloatKind.f64.format.order (G) 4831355200913801216=some Ordering.gt then false else if FloatKind.f64.format.order (G) 14054727237768577024=some Ordering.lt then false else true)=O;obtain⟨HX,HO⟩:=xh2 hX hO;clear hX hO
     go_enter Tryz.func153,Tryz.ntmps153;go_wp2_with fail
     ·go_ret2
      rename_i h9;rw[←HX.out,←HO.out,if_pos h9,if_pos h9];exact⟨rfl,rfl⟩
     ·go_ret2
      rename_i h9 h8;clear hneg hmul e0 e1 e2;rw[←HX.out,←HO.out];simp[h9]at h8;simp[h8,h9]
     ·go_ret2
      rename_i h9 h8;clear hneg hmul e0 e1 e2;rw[←HX.out,←HO.out];simp[h9]at h8;simp[h8,h9]
   ·by_cases h22:-22≤p
    ·obtain⟨i,hi⟩:∃i:Nat,-p=i:=⟨(-p).toNat,by omega⟩
     obtain⟨y,hy⟩:=f1 i (by omega);have hpn:p<0:=by omega
     have hy9:=hF3 fb fo i y ⟨fc,f0⟩ (by omega) hy;clear hpos
     cases ng
     ·obtain⟨r,hr,hrn⟩:=a9u hNF hy9
      have hmul:∀w:World,(binOp .quo 22 (.float .f64 (F)) (.float .f64 y)).run Tryz.prog w=.ok (.float .f64 r) w:=fun w=>run_float_arith w .quo 22 .f64 _ _ r hr;clear hr hNF hNG hy9;refine⟨r,true,fun _=>hrn,fun w hE=>?_⟩;clear hrn;have e0:=hE.cell hf0;have e1:=hE.cell f0;have e2:=hE.cell hy;go_enter Tryz.func153,Tryz.ntmps153;go_wp2_with fail
      go_ret2;exact⟨rfl,rfl⟩
     ·obtain⟨r,hr,hrn⟩:=a9u hNG hy9
      have hmul:∀w:World,(binOp .quo 22 (.float .f64 (G)) (.float .f64 y)).run Tryz.prog w=.ok (.float .f64 r) w:=fun w=>run_float_arith w .quo 22 .f64 _ _ r hr;clear hr hNF hNG hy9;refine⟨r,true,fun _=>hrn,fun w hE=>?_⟩;clear hrn;have e0:=hE.cell hf0;have e1:=hE.cell f0;have e2:=hE.cell hy;go_enter Tryz.func153,Tryz.ntmps153;go_wp2_with fail
      go_ret2;exact⟨rfl,rfl⟩
    ·have hpn:p<0:=by omega
     have h22':p < -22:=by omega
     clear h22 hpos
     cases ng
     ·refine⟨F,false,by simp,fun w hE=>?_⟩
      have e0:=hE.cell hf0;go_enter Tryz.func153,Tryz.ntmps153;go_wp2_with fail
      go_ret2;exact⟨rfl,rfl⟩
     ·refine⟨G,false,by simp,fun w hE=>?_⟩
      have e0:=hE.cell hf0;go_enter Tryz.func153,Tryz.ntmps153;go_wp2_with fail
      go_ret2;exact⟨rfl,rfl⟩
structure a4P (W0:World):Prop extends a5t W0 where
 nz:∀fb fo (i:Nat) x,(∃fc,W0.cell? ⟨20,0,Option.none⟩=some (.slice (some ⟨fb,fo,Option.none⟩) 23 fc))→i<23→W0.cell? ⟨fb,fo+i,Option.none⟩=some (.float .f64 x)→∃s m j,FloatKind.f64.format.read x=.number s m j∧m≠0
theorem b1j {o:Int}(ho:o=1)(w:World):Calls Tryz.prog 151 #[.bool true] w fun e w'=>e=.returned (.int .u64 o)∧w'=w:=by subst ho;exact b2_t w
theorem a7m {l:By}(h:a1q l):∃M nd dp tr,rfF (a0i l) 0 0 0 false=(M,nd,dp,tr)∧M<10000000000000000000∧-60≤dp∧dp≤14∧nd≤60∧(nd:Int)-dp≤60∧(M=0↔nd=0)∧(tr=true→20≤nd):=by
 obtain⟨pre,c,l1,d,a,_,_,hst,hsc,h1,h2,h3⟩:=a2c h;have hI:=b9M _ 0 0 0 false 0 0 0 d a hsc RfI.start;rw[hst];generalize rfF (c::l1) 0 0 0 false=R at hI⊢;obtain⟨M,nd,dp,tr⟩:=R;simp only at hI;have hm:=hI.m;have hm2:10^min nd 19≤10^19:=a5l (by omega);have hm3:(10:Nat)^19=10000000000000000000:=by decide
 refine⟨M,nd,dp,tr,rfl,by omega,?_,?_,?_,?_,hI.m0,hI.t⟩
 ·have h1:=hI.lo;have h2:=hI.nd_d;omega
 ·have:=hI.hi;omega
 ·have:=hI.nd_d;omega
 ·have:=hI.lo;omega
def A64 (W0:World)(l:By)(s:ByteArray)(x:Nat):Prop:=∀w:World,Env W0 w→Calls Tryz.prog 107 #[.string s] w fun e w'=>e=.returned (.tuple #[.float .f64 x,.int .i64 s.size,.nilIface])∧w.grownBy w' none
theorem b3J (W0:World)(hF:a4P W0)(l:By)(hok:a1q l)(s:ByteArray)(hs:s.data.toList=l)(hs2:s.size≤1000)(hM:(rfF (a0i l) 0 0 0 false).1=0):∃x,(nnF x∧∀b,a0p l (· == 45)=b→x=if b then 9223372036854775808 else 0)∧A64 W0 l s x:=by
 have hopt:=hF.opt;have hfb:=a2H;obtain⟨M,nd,dp,tr,hR,_⟩:=a7m hok;rw[hR]at hM;simp only at hM;subst hM;obtain⟨ng,hng⟩:∃ng,a0p l (· == 45)=ng:=⟨_,rfl⟩;have hrf:=fun w=>b2T w s l hs hok hs2;have hsp:=fun w=>a3Z w s l hs hok hs2;unfold a9d at hrf;simp only[hR,hng,if_true]at hrf;obtain⟨Hrf,Hsp,Hng,HR,Hs⟩:=xh5 hrf hsp hng hR hs;clear hrf hsp hng hR hs
 clear hok;have y30:∀(a b c:Value),([a,b,c]:List Value)[0]?=some a:=fun _ _ _=>rfl;have y31:∀(a b c:Value),([a,b,c]:List Value)[1]?=some b:=fun _ _ _=>rfl;have y32:∀(a b c:Value),([a,b,c]:List Value)[2]?=some c:=fun _ _ _=>rfl;have y70:∀(a b c d e f g:Value),([a,b,c,d,e,f,g]:List Value)[0]?=some a:=fun _ _ _ _ _ _ _=>rfl;have y71:∀(a b c d e f g:Value),([a,b,c,d,e,f,g]:List Value)[1]?=some b:=fun _ _ _ _ _ _ _=>rfl;have y72:∀(a b c d e f g:Value),([a,b,c,d,e,f,g]:List Value)[2]?=some c:=fun _ _ _ _ _ _ _=>rfl;have y73:∀(a b c d e f g:Value),([a,b,c,d,e,f,g]:List Value)[3]?=some d:=fun _ _ _ _ _ _ _=>rfl;have y74:∀(a b c d e f g:Value),([a,b,c,d,e,f,g]:List Value)[4]?=some e:=fun _ _ _ _ _ _ _=>rfl;have y75:∀(a b c d e f g:Value),([a,b,c,d,e,f,g]:List Value)[5]?=some f:=fun _ _ _ _ _ _ _=>rfl;have y76:∀(a b c d e f g:Value),([a,b,c,d,e,f,g]:List Value)[6]?=some g:=fun _ _ _ _ _ _ _=>rfl;have sh0:∀w:World,(Op.shift BinOp.shl IntKind.u64 0 IntKind.u64 63).run Tryz.prog w=.ok (.int .u64 0) w:=fun _=>by kernel_rfl
 obtain⟨S63,hS63⟩:∃S63:Int,S63=9223372036854775808:=⟨_,rfl⟩;obtain⟨o1,ho1⟩:∃o1:Int,o1=1:=⟨_,rfl⟩;have sh1:∀w:World,(Op.shift BinOp.shl IntKind.u64 o1 IntKind.u64 63).run Tryz.prog w=.ok (.int .u64 S63) w:=fun _=>by rw[hS63,ho1];kernel_rfl
 have sh2:IntKind.u64.wrap (o1*9223372036854775808)=S63:=by rw[ho1,hS63];decide
 have Ho1:=xhd ho1;clear ho1
 have hS0:0≤S63:=by omega
 have hS1:S63≤18446744073709551615:=by omega
 have HS63:=xhd hS63;clear hS63
 obtain⟨Z0,hZ0⟩:∃Z0,bits BinOp.or IntKind.u64 0 0=Z0:=⟨_,rfl⟩;obtain⟨Z1,hZ1⟩:∃Z1,bits BinOp.or IntKind.u64 S63 0=Z1:=⟨_,rfl⟩;obtain⟨x0,hx0⟩:∃x:Nat,x=Z0.toNat:=⟨_,rfl⟩;obtain⟨x1,hx1⟩:∃x:Nat,x=Z1.toNat:=⟨_,rfl⟩;have hfb0:∀w:World,(callFunc 152 #[.int .u64 Z0]).run Tryz.prog w=.ok (.value (.float .f64 x0)) w:=fun w=>by rw[hx0];exact hfb Z0 w
 have hfb1:∀w:World,(callFunc 152 #[.int .u64 Z1]).run Tryz.prog w=.ok (.value (.float .f64 x1)) w:=fun w=>by rw[hx1];exact hfb Z1 w
 have n0:=xhd (show nnF x0∧x0=0 by rw[hx0,←hZ0];exact⟨a5Q (by decide) (by decide),by decide⟩);have n1:=xhd (show nnF x1∧x1=9223372036854775808 by rw[hx1,←hZ1,HS63.out];exact⟨a5Q (by decide) (by decide),by decide⟩);clear hx0 hx1 hfb
 cases ng
 ·refine⟨x0,⟨n0.out.1,fun b hb=>by rw[Hng.out]at hb;subst hb;simpa using n0.out.2⟩,fun w hE=>?_⟩
  have e0:=hE.cell hopt;go_enter Tryz.func107,Tryz.ntmps107;go_wp2_with fail
  refine(Hsp.out _).mono ?_;rintro e w1⟨rfl,hw⟩;subst w1;go_wp2_with fail
  refine(Hrf.out _).mono ?_;rintro e w1⟨rfl,hw⟩;subst w1;go_wp2_with fail
  refine(b2_f _).mono ?_;rintro e w1⟨rfl,hw⟩;subst w1;go_wp2_with fail
  go_ret3;exact⟨rfl,xgr _ _⟩
 ·refine⟨x1,⟨n1.out.1,fun b hb=>by rw[Hng.out]at hb;subst hb;simpa using n1.out.2⟩,fun w hE=>?_⟩
  have e0:=hE.cell hopt;go_enter Tryz.func107,Tryz.ntmps107;go_wp2_with fail
  refine(Hsp.out _).mono ?_;rintro e w1⟨rfl,hw⟩;subst w1;go_wp2_with fail
  refine(Hrf.out _).mono ?_;rintro e w1⟨rfl,hw⟩;subst w1;go_wp2_with fail
  refine(b1j Ho1.out _).mono ?_;rintro e w1⟨rfl,hw⟩;subst w1;go_wp2_with fail
  go_ret3;exact⟨rfl,xgr _ _⟩
open Go.Maps
theorem Tryz.info50':(Tryz.prog.info? 50).map (fun i=>(i.zero,i.size,i.bytes))=some (some .nilIface,1,16):=by kernel_rfl
def b6d (pf:By→Nat)(nn:Nat→Prop)(n:Nat)(w w':World)(b:Nat)(l1:By)(xs:List PV)(r:By)(e:Ending):Prop :=
 ∃ps sl cells S ab,e=.returned (.tuple #[.pointer (some ⟨ab,0,none⟩),.nilIface])∧w'.heap[ab]?=some (.cells #[sl] 77 (0,0))∧SlAt S w' sl 1 ps.length cells∧a0J S w' ps cells∧(∀k,S k→w.heap.size≤k∧k<w'.heap.size)∧(Corr nn (n+1) (.arr ps) (.arr xs)∧SpA (SpF pf nn n) ps l1 (93::r))∧a0v w' b r∧w.grownBy w' (some b)∧ps.length≤1000000
theorem b8N {w w2 w4:World}{l:By}{r:Option Nat}(h:a0v w2 (w.heap.size+1) l)(hg:w2.grownBy w4 r):w.heap.size+2≤w4.heap.size:=by
 have h1:=h.lt;have h2:=hg.size;omega
theorem a0T {w:World}{b:Nat}{v:Value}{t:TypeId}(h:w.heap[b]?=some (.cells #[v] t (0,0)))(u:Value):(w.setCell ⟨b,0,none⟩ u).heap[b]?=some (.cells #[u] t (0,0)):=by
 simp[World.setCell,Array.getElem?_modify,h]
structure ArrJ (pf:By→Nat)(nn:Nat→Prop)(n N:Nat)(w wr:World)(l0:By)(xs:List PV)(r:By)(g:Nat)(la:By)(m:Nat)(acc:List PV)(ps:List PO)(sl:Value)(cells:List Value)(S:Nat→Prop):Prop where
 line:a0v wr (w.heap.size+1) la
 pass:a0j false la false=(la,false)
 rd:a1j (rdV pf n) m la false acc=some (xs,r,false)
 arr:wr.heap[N+1]?=some (.cells #[sl] 77 (0,0))
 row:wr.ownsRow (w.heap.size+2) 50 1 sl ps.length cells
 own:sl.ownBlock≠some (N+1)
 objs:a0J S wr ps cells
 bnd:∀k,S k→w.heap.size+2≤k∧k<wr.heap.size∧k≠N+1∧sl.ownBlock≠some k
 corr:Corr nn (n+1) (.arr ps) (.arr acc)
 grow:w.grownBy wr none
 len:ps.length+la.length≤150000
 meas:g=la.length
 box:wr.heap[w.heap.size]?=some (.cells #[] 99 (0,0))
 hN:w.heap.size+2≤N
 spl:SpA (SpF pf nn n) ps l0 la
def ArK (pf:By→Nat)(nn:Nat→Prop)(n N:Nat)(w wr:World)(l0:By)(xs:List PV)(r:By)(g:Nat):Prop:=∃la m acc ps so sn sc cells S,ArrJ pf nn n N w wr l0 xs r g la m acc ps (.slice so sn sc) cells S
theorem b1f (pf:By→Nat)(nn:Nat→Prop)(W0 w:World)(hE:Env W0 w)(n:Nat)(hC:ObjC pf nn W0 n)(b:Nat)(l1:By)(hL:a0v w b (91::l1))(hl:l1.length≤150000)(hW0:W0.heap.size≤b)(lv:Int)(hlv:0≤lv)(hlv2:lv+n+1≤100)
  (m:Nat)(xs:List PV)(r:By)(h:a1j (rdV pf n) m l1 false []=some (xs,r,false)) :
  Calls Tryz.prog 99 #[.agg #[],.pointer (some ⟨b,0,none⟩),.int .i64 lv,.int .i64 100,.bool false] w fun e w'=>b6d pf nn n w w' b l1 xs r e:=by
 obtain⟨c0,f0⟩:=hL.cell;have hbw:=hL.lt;obtain⟨m',la,hm,hp,hcs⟩:=a4o (a2d pf n) h
 have h3:la≠[]∧∀c∈la.head?,a0s (c.toNat:Int)=true:=by
  rcases hcs with⟨t,rfl,_⟩|⟨x4,l5,_,hv,_⟩
  ·exact⟨by simp,fun c hc=>by simp at hc;subst hc;decide⟩
  ·exact a3t (a1s hp) hv
 have h3l:=a0K false l1 false;rw[hp]at h3l;have hd:=(a6D hp).trans h;have hpre:=fun w=>a0L (91::l1) [91] true (by simp[List.isPrefixOf]) w;have hfwd:=fun w=>a2J (91::l1) 1 w;simp only[List.drop_succ_cons,List.drop_zero]at hfwd;have ecs:(⟨#[91]⟩:ByteArray)=bs [91]:=rfl;have ecs2:(⟨#[93]⟩:ByteArray)=bs [93]:=rfl;obtain⟨z,hz⟩:∃z,z=bs (91::l1):=⟨_,rfl⟩;have hl1:l1≠[]:=by rintro rfl;simp[a0j]at hp;exact h3.1 hp
 have hz1:((z.size:Int)==1)=false:=by
  have:=List.length_pos_iff.2 hl1;rw[hz,a0f];simp only[List.length_cons,beq_eq_false_iff_ne];omega
 have hz0:((z.size:Int)==0)=false:=by rw[hz,a0f];simp only[List.length_cons,beq_eq_false_iff_ne];omega
 have hck:=fun w=>a5u ⟨#[112,97,114,115,101,32,111,98,106,101,99,116]⟩ lv (by omega) w;rw[←hz]at hpre hfwd c0;obtain⟨HL,HE,HC,Hp,Hd,Hz⟩:=xh6 hL hE hC hp hd hz.symm;have H3:=xhd (And.intro h3 (show la.length≤150000 by simp at h3l;omega));clear hL hE hC hp h hd h3 h3l hcs hm hz hl1;go_enter Tryz.func99,Tryz.ntmps99;go_wp2_with fail
 refine(hck _).mono ?_;rintro e w1⟨rfl,hw1⟩;subst w1;go_wp2_with fail
 obtain⟨w2,hw2⟩:∃w2,w2=(w.alloc (Obj.cells #[] 99)).alloc (Obj.cells #[Value.string z] 9):=⟨_,rfl⟩;have hbx2:w2.heap[w.heap.size]?=some (.cells #[] 99 (0,0)):=by rw[hw2];exact(a0Z w w.heap.size rfl _ _).1
 have hLl2:a0v w2 (w.heap.size+1) (91::l1):=by unfold a0v;rw[hw2,←Hz.out];exact(a0Z w w.heap.size rfl _ _).2
 have hG2:w.grownBy w2 none:=by rw[hw2];exact a0a (a0a (xgr w none) _) _
 rw[←hw2];have HL2:=xhd (HL.out.keep hG2 (by simp));obtain⟨HLl2,HG2⟩:=xh2 hLl2 hG2;obtain⟨c2,f2⟩:=HL2.out.cell;obtain⟨d2,e2⟩:=HLl2.out.cell;rw[Hz.out]at c2 d2;have HB2:=xhd hbx2;clear hw2 hLl2 hG2 hbx2;refine(hpre _).mono ?_;rintro e w1⟨rfl,hw1⟩;subst w1;go_wp2_with fail
 refine(hfwd _).mono ?_;rintro e w1⟨rfl,hw1⟩;subst w1;go_wp2_with fail
 have hL3:=HLl2.out.set l1;have hg3:=a0e (xgr w2 (some (w.heap.size+1))) 0 (.string (bs l1));generalize w2.setCell ⟨w.heap.size+1,0,none⟩ (.string (bs l1))=w3 at hL3 hg3⊢;obtain⟨HL3,Hg3⟩:=xh2 hL3 hg3;clear hL3 hg3;refine(a1H l1 la _ Hp.out H3.out.1.2).mono ?_;rintro e w4⟨⟨q,hq,rfl⟩,hb4⟩;obtain rfl:q=la:=by rcases hq with h|⟨h,_⟩;exact h;exact absurd h H3.out.1.1
 have hg4:=a0o hb4;have HL4:=xhd (HL3.out.keep hg4 (by simp));have Hg4:=xhd (Hg3.out.trans (hg4.but (some (w.heap.size+1))));obtain⟨c4,f4⟩:=HL4.out.cell
 have hq0:((((bs q).size:Nat):Int)==0)=false:=by
  rw[a0f];have:=List.length_pos_iff.2 H3.out.1.1;simp only[beq_eq_false_iff_ne];omega
 clear hq hb4 hg4 c2 d2 f2 e2;go_wp2_with fail
 have hJ0:ArrJ pf nn n w4.heap.size w (((w4.setCell ⟨w.heap.size+1,0,none⟩ (.string (bs q))).alloc (.cells #[] 50)).alloc (.cells #[.slice (some ⟨w4.heap.size,0,none⟩) 0 0] 77)) l1 xs r q.length q m [] [] (.slice (some ⟨w4.heap.size,0,none⟩) 0 0) [] (fun _=>False):=by
  obtain⟨W,hW⟩:∃W,W=w4.setCell ⟨w.heap.size+1,0,none⟩ (.string (bs q)):=⟨_,rfl⟩;have hL5:=HL4.out.set q;have hg5:=a0e Hg4.out 0 (.string (bs q));have hsz:W.heap.size=w4.heap.size:=by rw[hW];simp
  rw[←hW]at hL5 hg5⊢;have hga:W.grownBy ((W.alloc (.cells #[] 50)).alloc (.cells #[.slice (some ⟨w4.heap.size,0,none⟩) 0 0] 77)) none:=a0a (a0a (xgr _ _) _) _;have h2:=b8N HLl2.out Hg4.out;refine⟨hL5.keep hga (by simp),a1s Hp.out,Hd.out,?_,⟨rfl,.inr ⟨w4.heap.size,0,#[],rfl,h2,?_,by simp,by unfold maxLen;omega,rfl,rfl⟩⟩,by simp[Value.ownBlock],rfl,fun k hk=>hk.elim,Corr.anil,?_,by have:=H3.out.2;simpa using this,rfl,?_,h2,(show lps l1=lps q by rw[a1K Hp.out,a4G Hp.out])⟩
  ·exact(a0Z W w4.heap.size hsz _ _).2
  ·exact(a0Z W w4.heap.size hsz _ _).1
  ·exact(a0g HG2.out hg5 (fun j hj=>by injection hj with hj;omega)).trans hga
  ·exact(hga.block _ (by have:=h2;omega) (by simp)).trans ((hg5.block _ (xgl HB2.out) (by simp)).trans HB2.out)
 have HJ0:=xhd hJ0;clear hJ0
 go_loopg [] q.length (fun g wr=>ArK pf nn n w4.heap.size w wr l1 xs r g)
 case atStart=>exact⟨_,_,_,_,_,_,_,_,_,HJ0.out⟩
 case round =>
  clear HJ0 c4 f4;obtain⟨la,m2,acc,ps,so,sn,sc,cells,S,hJ⟩:=hrel;obtain⟨c1,f1⟩:=hJ.line.cell;obtain⟨m',la',hm',hpl',hcase⟩:=a4o (a2d pf n) hJ.rd;rw[hJ.pass]at hpl';injection hpl' with hpl' _;subst hpl';have HJ:=xhd hJ;rcases hcase with⟨t,rfl,rfl,rfl⟩|⟨x,l2,h93,hv,hrest⟩
  ·have hpr:=fun w=>a0L (93::r) [93] true (by simp[List.isPrefixOf]) w
   have hfw:=fun w=>a2J (93::r) 1 w;simp only[List.drop_succ_cons,List.drop_zero]at hfw;clear hJ;go_wp2_with fail
   refine(hpr _).mono ?_;rintro e w2⟨rfl,hw2⟩;subst w2;go_wp2_with fail
   refine(hfw _).mono ?_;rintro e w2⟨rfl,hw2⟩;subst w2;have hL0:=HL.out.keep HJ.out.grow (by simp);obtain⟨c0,f0⟩:=hL0.cell;have HL0:=xhd hL0;clear hL0;go_wp2_with fail
   go_ret2;obtain⟨w7,hw7⟩:∃w7,w7=wr.setCell ⟨w.heap.size+1,0,none⟩ (.string (bs r)):=⟨_,rfl⟩;have hg7:=a0e (xgr wr (some (w.heap.size+1))) 0 (.string (bs r));rw[←hw7]at hg7⊢;have hg8:=a0e (xgr w7 (some b)) 0 (.string (bs r));have hLb:=HL0.out.keep hg7 (by simp;omega);have hkk:∀k,k<wr.heap.size→k≠b→k≠w.heap.size+1→(w7.setCell ⟨b,0,none⟩ (.string (bs r))).heap[k]?=wr.heap[k]?:=fun k h1 h2 h3=>(hg8.block k (Nat.lt_of_lt_of_le h1 hg7.size) (by simp;omega)).trans (hg7.block k h1 (by simp;omega));have hs7:=hg7.size;have hs8:=hg8.size;have hJ:=HJ.out;have hNN:=hJ.hN;have harr:w4.heap.size+1<wr.heap.size:=(Array.getElem?_eq_some_iff.1 hJ.arr).1;have hrow:=World.ownsRow.lt hJ.row;refine⟨ps,.slice so sn sc,cells,fun k=>S k∨(Value.slice so sn sc).ownBlock=some k,w4.heap.size+1,rfl,(hkk _ harr (by omega) (by omega)).trans hJ.arr,(SlAt.of_row hJ.row (fun k=>(Value.slice so sn sc).ownBlock=some k) (fun k hk=>hk)).keep (fun k hk=>⟨.inr hk,hkk k (hrow k hk).2 (by have:=hrow k hk;omega) (by have:=hrow k hk;omega)⟩),a0J.keep (fun k hk=>⟨.inl hk,hkk k (hJ.bnd k hk).2.1 (by have:=hJ.bnd k hk;omega) (by have:=hJ.bnd k hk;omega)⟩) _ _ hJ.objs,fun k hk=>?_,⟨hJ.corr,hJ.spl⟩,hLb.set r,?_,by have:=hJ.len;omega⟩
   ·rcases hk with hk|hk
    ·have:=hJ.bnd k hk;omega
    ·have:=hrow k hk;omega
   ·exact a0e ((a0g hJ.grow hg7 (fun j hj=>by injection hj with hj;omega)).but (some b)) _ _
  ·have hpr:=fun w=>a0L la [93] false (by
    cases la with
    | nil=>rfl
    | cons c la =>
     simp[a0p]at h93;simp[List.isPrefixOf]
     intro e;apply h93;rw[←e];rfl) w
   have hE1:=HE.out.grown0 hJ.grow;have hlvw:=c0a hlv (by omega);have hob:=HC.out wr (w.heap.size+1) la x l2 (lv+1) hE1 (by have:=HE.out.1;omega) hJ.line (by have:=hJ.len;omega) (by omega) (by omega) hv;have hbx:=hJ.box;have hrl:=a2z _ _ _ _ _ _ _ hv;have Hhv:=xhd (And.intro hv hrl);have Hrest:=xhd hrest;have hNN:=hJ.hN;clear hJ hE1 hv hrl hrest;go_wp2_with fail
   refine(hpr _).mono ?_;rintro e w2⟨rfl,hw2⟩;subst w2;go_wp2_with fail
   refine hob.mono ?_;rintro e w6⟨po,v,S2,rfl,hO6,hS6,hC6,hL6,hg6⟩;obtain⟨m2',la3,hm3,hp3,hcs3⟩:=a4o (a2d pf n) Hrest.out
   have h3:la3≠[]∧∀c∈la3.head?,a0s (c.toNat:Int)=true:=by
    rcases hcs3 with⟨t,rfl,_⟩|⟨x4,l5,_,hv,_⟩
    ·exact⟨by simp,fun c hc=>by simp at hc;subst hc;decide⟩
    ·exact a3t (a1s hp3) hv
   have h3l:=a0K false l2 false;rw[hp3]at h3l;have H3':=xhd (show a0j false l2 false=(la3,false)∧la3≠[]∧(∀c∈la3.head?,a0s (c.toNat:Int)=true)∧la3.length≤l2.length∧a1j (rdV pf n) m' la3 false (acc++[x])=some (xs,r,false) from⟨hp3,h3.1,h3.2,h3l,(a6D hp3).trans Hrest.out⟩);have hl2:0<l2.length:=Nat.lt_of_lt_of_le (List.length_pos_iff.2 h3.1) h3l;have hz2:((((bs l2).size:Nat):Int)==0)=false:=by rw[a0f];simp only[beq_eq_false_iff_ne];omega
   have harr6:=(hg6.block _ (Array.getElem?_eq_some_iff.1 HJ.out.arr).1 (by simp;omega)).trans HJ.out.arr;have hrow6:w6.ownsRow (w.heap.size+2) 50 1 (.slice so sn sc) ps.length cells:=a0P HJ.out.row hg6 (fun k hk=>by have:=World.ownsRow.lt HJ.out.row k hk;simp;omega);obtain⟨ti,hti,htz0,htz1,htz2⟩:=info_parts Tryz.info50';have hlt6:w.heap.size+2≤w6.heap.size:=by have:=(xgl harr6);omega
   have c6:w6.cell? ⟨w4.heap.size+1,0,none⟩=some (.slice so sn sc):=by simp[World.cell?,harr6]
   have f6:w6.frozen? ⟨w4.heap.size+1,0,none⟩=false:=by simp[World.frozen?,harr6]
   obtain⟨Hps,Hlt6⟩:=xh2 HJ.out.len hlt6;have Hbx6:=xhd ((hg6.block _ (xgl hbx) (by simp)).trans hbx);obtain⟨Harr6,Hrow6,Hg6,HL6,HO6,HS2⟩:=xh6 harr6 hrow6 hg6 hL6 hO6 hS6;have HCv:=xhd (show Corr nn n po x∧Spl pf nn n (lps la) po l2 from hC6);have hno:=hO6.nil_or;clear hm3 hp3 hcs3 h3 h3l hO6 hS6 hC6 hL6 hg6 hbx harr6 hrow6 hlt6 c1 f1 hpr hob hq0 hz0 hz1 hck hpre hfwd;rcases hno with⟨_,rfl⟩|⟨_,ty,u,rfl⟩
   ·go_wp2_with (first|(at_builtin;refine wpList_append_own_at _ rfl _ _ 77 rfl (w.heap.size+2) 50 ti .nilIface 1 16 Tryz.underlying77 hti htz0 htz1 htz2 rfl (by decide) _ _ _ rfl (World.ownsRow.alloc Hrow6.out _) ⟨w6.heap.size,0,none⟩ 1 1 [.nilIface] rfl rfl (cell_one_new _ _ _) (by intro u' hu;simp at hu;subst hu;simp[Value.oneCell']) (by unfold maxLen;have:=Hps.out;omega) (by have:=Hps.out;omega) (by have:=Hlt6.out;simp;omega) ?_))
    intro v7 w7 ho7 hg7 _ hat7
    have hshape:∃gg cap,v7=.slice (some ⟨gg,0,none⟩) (ps.length+1) cap:=by
     rcases ho7.2 with⟨_,h0⟩|⟨gg,cap,cur,h,_⟩
     ·exact absurd h0 (by omega)
     ·exact⟨gg,cap,h⟩
    obtain⟨gg,cap,rfl⟩:=hshape;have hg67:=a0x hg7;have hs67:=hg67.size;have hrowlt:=World.ownsRow.lt Hrow6.out;have hL7:=HL6.out.keep hg67 (fun e=>by have:=hrowlt _ e.symm;omega);have harr7:=(hg67.block _ (xgl Harr6.out) (fun e=>HJ.out.own e.symm)).trans Harr6.out;have c7:w7.cell? ⟨w4.heap.size+1,0,none⟩=some (.slice so sn sc):=by simp[World.cell?,harr7]
    have f7:w7.frozen? ⟨w4.heap.size+1,0,none⟩=false:=by simp[World.frozen?,harr7]
    obtain⟨d7,e7⟩:=hL7.cell
    have hgg:gg≠w4.heap.size+1:=by
     rintro rfl;rcases hat7 with h|h
     ·exact HJ.out.own h.symm
     ·have:=(xgl Harr6.out)
      simp[Value.ownBlock]at h;omega
    have hbx7:w7.heap[w.heap.size]?=some (.cells #[] 99 (0,0)):=(hg67.block _ (by have:=Hlt6.out;omega) (fun e=>by have:=hrowlt _ e.symm;omega)).trans Hbx6.out
    have HOv:=xhd (ObjO.keep (S':=fun k=>S k∨S2 k) (fun k hk=>⟨.inr hk,hg67.block k (HS2.out k hk).2 (fun e=>by
     have h1:=World.ownsRow.lt HJ.out.row _ e.symm
     have:=HS2.out k hk;omega)⟩) _ _ HO6.out)
    have HOs:=xhd (a0J.keep (S':=fun k=>S k∨S2 k) (fun k hk=>⟨.inl hk,(hg67.block k (by have:=(HJ.out.bnd k hk).2.1;have:=Hg6.out.size;omega) (fun e=>(HJ.out.bnd k hk).2.2.2 e.symm)).trans (Hg6.out.block k (HJ.out.bnd k hk).2.1 (by have:=HJ.out.bnd k hk;simp;omega))⟩) _ _ HJ.out.objs);have HL7:=xhd hL7;have HG7:=xhd (show w.grownBy w7 none from a0g (a0g HJ.out.grow Hg6.out (fun j hj=>by injection hj with hj;omega)) hg67 (fun j hj=>by have:=hrowlt _ hj;omega));have Hs:=xhd (show wr.heap.size≤w6.heap.size∧w6.heap.size≤w7.heap.size∧w4.heap.size+1<wr.heap.size from⟨Hg6.out.size,hs67,(Array.getElem?_eq_some_iff.1 HJ.out.arr).1⟩);obtain⟨Ho7,Hbx7,Harr7⟩:=xh3 ho7 hbx7 harr7
    have Hat7:=xhd (show (Value.slice so sn sc).ownBlock=some gg∨w6.heap.size≤gg from by
     rcases hat7 with h|h
     ·left;rw[←h];rfl
     ·right;simp[Value.ownBlock]at h;omega)
    have Hrl:=xhd (show ∀k,(Value.slice so sn sc).ownBlock=some k→k<wr.heap.size from fun k hk=>(World.ownsRow.lt HJ.out.row k hk).2);have Hgg:=xhd hgg;clear hL7 hg67 hs67 hrowlt hbx7 hat7 hg7 ho7 harr7 c6 f6 hgg;go_wp2_with fail
    obtain⟨w8,hw8⟩:∃w8,w8=w7.setCell ⟨w4.heap.size+1,0,none⟩ (.slice (some ⟨gg,0,none⟩) (ps.length+1) cap):=⟨_,rfl⟩;have hg8:=a0e (xgr w7 (some (w4.heap.size+1))) 0 (.slice (some ⟨gg,0,none⟩) (ps.length+1) cap);have harr8:=a0T Harr7.out (.slice (some ⟨gg,0,none⟩) (ps.length+1) cap);rw[←hw8]at hg8 harr8⊢;have HL8:=xhd (HL7.out.keep hg8 (by simp;omega));obtain⟨Hg8,Harr8⟩:=xh2 hg8 harr8;clear hw8 hg8 harr8 c7 f7 d7 e7;refine(a1H l2 la3 _ H3'.out.1 H3'.out.2.2.1).mono ?_;rintro e w9⟨⟨q9,hq9,rfl⟩,hb9⟩;obtain rfl:q9=la3:=by rcases hq9 with h|⟨h,_⟩;exact h;exact absurd h H3'.out.2.1
    have hg9:=a0o hb9;have hL9:=HL8.out.keep hg9 (by simp);obtain⟨c9,f9⟩:=hL9.cell;obtain⟨HL9,Hg9⟩:=xh2 hL9 hg9
    have hz9:((((bs q9).size:Nat):Int)==0)=false:=by
     rw[a0f];have:=List.length_pos_iff.2 H3'.out.2.1;simp only[beq_eq_false_iff_ne];omega
    clear hg9 hb9 hL9 hq9;go_wp2_with fail
    go_roundg q9.length
    case measure=>rw[HJ.out.meas];have:=H3'.out.2.2.2.1;have:=Hhv.out.2;omega
    case rel =>
     have hst:=a0e (Hg9.out.but (some (w.heap.size+1))) 0 (.string (bs q9));have hs0:=Hs.out;have hs8:=Hg8.out.size;have hst2:=hst.size;have hkk:∀k,k<w7.heap.size→k≠w4.heap.size+1→k≠w.heap.size+1→(w9.setCell ⟨w.heap.size+1,0,none⟩ (.string (bs q9))).heap[k]?=w7.heap[k]?:=fun k h1 h2 h3=>(hst.block k (by omega) (by simp;omega)).trans (Hg8.out.block k h1 (by simp;omega))
     have hrow7:(w9.setCell ⟨w.heap.size+1,0,none⟩ (.string (bs q9))).ownsRow (w.heap.size+2) 50 1 (.slice (some ⟨gg,0,none⟩) (ps.length+1) cap) (ps.length+1) (cells++[.nilIface]):=by
      have h8:=a0P Ho7.out Hg8.out (fun k hk e=>by injection e with e;simp[Value.ownBlock]at hk;exact Hgg.out (hk.trans e.symm));exact a0P h8 hst (fun k hk e=>by injection e with e;have:=World.ownsRow.lt Ho7.out k hk;omega)
     refine⟨q9,m',acc++[x],ps++[po],_,_,_,cells++[.nilIface],fun k=>S k∨S2 k,HL9.out.set q9,a1s H3'.out.1,H3'.out.2.2.2.2,(hst.block _ (xgl Harr8.out) (by simp;omega)).trans Harr8.out,by simpa using hrow7,by simp[Value.ownBlock];exact Hgg.out,?_,?_,HJ.out.corr.apush HCv.out.1,?_,?_,rfl,(hkk _ (by omega) (by omega) (by omega)).trans Hbx7.out,HJ.out.hN,HJ.out.spl.step HJ.out.pass Hhv.out.1 HCv.out H3'.out.1⟩
     ·refine a0J.append (a0J.one (ObjO.keep (fun k hk=>⟨hk,?_⟩) _ _ HOv.out)) _ _ (a0J.keep (fun k hk=>⟨hk,?_⟩) _ _ HOs.out)
      all_goals
       rcases hk with hk|hk
       ·have:=HJ.out.bnd k hk
        exact hkk k (by omega) (by omega) (by omega)
       ·have:=HS2.out k hk
        exact hkk k (by omega) (by omega) (by omega)
     ·intro k hk
      have hat:=Hat7.out;rcases hk with hk|hk
      ·have h1:=HJ.out.bnd k hk
       refine⟨h1.1,by omega,h1.2.2.1,fun e=>?_⟩;have e:gg=k:=by simpa[Value.ownBlock] using e
       rcases hat with h|h
       ·exact h1.2.2.2 (h.trans (by rw[e]))
       ·omega
      ·have h1:=HS2.out k hk
       refine⟨by omega,by omega,by omega,fun e=>?_⟩;have e:gg=k:=by simpa[Value.ownBlock] using e
       rcases hat with h|h
       ·have:=Hrl.out _ h;omega
       ·omega
     ·exact a0g (a0g HG7.out Hg8.out (fun j hj=>by injection hj with hj;omega)) hst (fun j hj=>by injection hj with hj;omega)
     ·have:=HJ.out.len;have:=H3'.out.2.2.2.1;have:=Hhv.out.2;simp;omega
   ·go_wp2_with (first|(at_builtin;refine wpList_append_own_at _ rfl _ _ 77 rfl (w.heap.size+2) 50 ti .nilIface 1 16 Tryz.underlying77 hti htz0 htz1 htz2 rfl (by decide) _ _ _ rfl (World.ownsRow.alloc Hrow6.out _) ⟨w6.heap.size,0,none⟩ 1 1 [.iface ty u] rfl rfl (cell_one_new _ _ _) (by intro u' hu;simp at hu;subst hu;simp[Value.oneCell']) (by unfold maxLen;have:=Hps.out;omega) (by have:=Hps.out;omega) (by have:=Hlt6.out;simp;omega) ?_))
    intro v7 w7 ho7 hg7 _ hat7
    have hshape:∃gg cap,v7=.slice (some ⟨gg,0,none⟩) (ps.length+1) cap:=by
     rcases ho7.2 with⟨_,h0⟩|⟨gg,cap,cur,h,_⟩
     ·exact absurd h0 (by omega)
     ·exact⟨gg,cap,h⟩
    obtain⟨gg,cap,rfl⟩:=hshape;have hg67:=a0x hg7;have hs67:=hg67.size;have hrowlt:=World.ownsRow.lt Hrow6.out;have hL7:=HL6.out.keep hg67 (fun e=>by have:=hrowlt _ e.symm;omega);have harr7:=(hg67.block _ (xgl Harr6.out) (fun e=>HJ.out.own e.symm)).trans Harr6.out;have c7:w7.cell? ⟨w4.heap.size+1,0,none⟩=some (.slice so sn sc):=by simp[World.cell?,harr7]
    have f7:w7.frozen? ⟨w4.heap.size+1,0,none⟩=false:=by simp[World.frozen?,harr7]
    obtain⟨d7,e7⟩:=hL7.cell
    have hgg:gg≠w4.heap.size+1:=by
     rintro rfl;rcases hat7 with h|h
     ·exact HJ.out.own h.symm
     ·have:=(xgl Harr6.out)
      simp[Value.ownBlock]at h;omega
    have hbx7:w7.heap[w.heap.size]?=some (.cells #[] 99 (0,0)):=(hg67.block _ (by have:=Hlt6.out;omega) (fun e=>by have:=hrowlt _ e.symm;omega)).trans Hbx6.out
    have HOv:=xhd (ObjO.keep (S':=fun k=>S k∨S2 k) (fun k hk=>⟨.inr hk,hg67.block k (HS2.out k hk).2 (fun e=>by
     have h1:=World.ownsRow.lt HJ.out.row _ e.symm
     have:=HS2.out k hk;omega)⟩) _ _ HO6.out)
    have HOs:=xhd (a0J.keep (S':=fun k=>S k∨S2 k) (fun k hk=>⟨.inl hk,(hg67.block k (by have:=(HJ.out.bnd k hk).2.1;have:=Hg6.out.size;omega) (fun e=>(HJ.out.bnd k hk).2.2.2 e.symm)).trans (Hg6.out.block k (HJ.out.bnd k hk).2.1 (by have:=HJ.out.bnd k hk;simp;omega))⟩) _ _ HJ.out.objs);have HL7:=xhd hL7;have HG7:=xhd (show w.grownBy w7 none from a0g (a0g HJ.out.grow Hg6.out (fun j hj=>by injection hj with hj;omega)) hg67 (fun j hj=>by have:=hrowlt _ hj;omega));have Hs:=xhd (show wr.heap.size≤w6.heap.size∧w6.heap.size≤w7.heap.size∧w4.heap.size+1<wr.heap.size from⟨Hg6.out.size,hs67,(Array.getElem?_eq_some_iff.1 HJ.out.arr).1⟩);obtain⟨Ho7,Hbx7,Harr7⟩:=xh3 ho7 hbx7 harr7
    have Hat7:=xhd (show (Value.slice so sn sc).ownBlock=some gg∨w6.heap.size≤gg from by
     rcases hat7 with h|h
     ·left;rw[←h];rfl
     ·right;simp[Value.ownBlock]at h;omega)
    have Hrl:=xhd (show ∀k,(Value.slice so sn sc).ownBlock=some k→k<wr.heap.size from fun k hk=>(World.ownsRow.lt HJ.out.row k hk).2);have Hgg:=xhd hgg;clear hL7 hg67 hs67 hrowlt hbx7 hat7 hg7 ho7 harr7 c6 f6 hgg;go_wp2_with fail
    obtain⟨w8,hw8⟩:∃w8,w8=w7.setCell ⟨w4.heap.size+1,0,none⟩ (.slice (some ⟨gg,0,none⟩) (ps.length+1) cap):=⟨_,rfl⟩;have hg8:=a0e (xgr w7 (some (w4.heap.size+1))) 0 (.slice (some ⟨gg,0,none⟩) (ps.length+1) cap);have harr8:=a0T Harr7.out (.slice (some ⟨gg,0,none⟩) (ps.length+1) cap);rw[←hw8]at hg8 harr8⊢;have HL8:=xhd (HL7.out.keep hg8 (by simp;omega));obtain⟨Hg8,Harr8⟩:=xh2 hg8 harr8;clear hw8 hg8 harr8 c7 f7 d7 e7;refine(a1H l2 la3 _ H3'.out.1 H3'.out.2.2.1).mono ?_;rintro e w9⟨⟨q9,hq9,rfl⟩,hb9⟩;obtain rfl:q9=la3:=by rcases hq9 with h|⟨h,_⟩;exact h;exact absurd h H3'.out.2.1
    have hg9:=a0o hb9;have hL9:=HL8.out.keep hg9 (by simp);obtain⟨c9,f9⟩:=hL9.cell;obtain⟨HL9,Hg9⟩:=xh2 hL9 hg9
    have hz9:((((bs q9).size:Nat):Int)==0)=false:=by
     rw[a0f];have:=List.length_pos_iff.2 H3'.out.2.1;simp only[beq_eq_false_iff_ne];omega
    clear hg9 hb9 hL9 hq9;go_wp2_with fail
    go_roundg q9.length
    case measure=>rw[HJ.out.meas];have:=H3'.out.2.2.2.1;have:=Hhv.out.2;omega
    case rel =>
     have hst:=a0e (Hg9.out.but (some (w.heap.size+1))) 0 (.string (bs q9));have hs0:=Hs.out;have hs8:=Hg8.out.size;have hst2:=hst.size;have hkk:∀k,k<w7.heap.size→k≠w4.heap.size+1→k≠w.heap.size+1→(w9.setCell ⟨w.heap.size+1,0,none⟩ (.string (bs q9))).heap[k]?=w7.heap[k]?:=fun k h1 h2 h3=>(hst.block k (by omega) (by simp;omega)).trans (Hg8.out.block k h1 (by simp;omega))
     have hrow7:(w9.setCell ⟨w.heap.size+1,0,none⟩ (.string (bs q9))).ownsRow (w.heap.size+2) 50 1 (.slice (some ⟨gg,0,none⟩) (ps.length+1) cap) (ps.length+1) (cells++[.iface ty u]):=by
      have h8:=a0P Ho7.out Hg8.out (fun k hk e=>by injection e with e;simp[Value.ownBlock]at hk;exact Hgg.out (hk.trans e.symm));exact a0P h8 hst (fun k hk e=>by injection e with e;have:=World.ownsRow.lt Ho7.out k hk;omega)
     refine⟨q9,m',acc++[x],ps++[po],_,_,_,cells++[.iface ty u],fun k=>S k∨S2 k,HL9.out.set q9,a1s H3'.out.1,H3'.out.2.2.2.2,(hst.block _ (xgl Harr8.out) (by simp;omega)).trans Harr8.out,by simpa using hrow7,by simp[Value.ownBlock];exact Hgg.out,?_,?_,HJ.out.corr.apush HCv.out.1,?_,?_,rfl,(hkk _ (by omega) (by omega) (by omega)).trans Hbx7.out,HJ.out.hN,HJ.out.spl.step HJ.out.pass Hhv.out.1 HCv.out H3'.out.1⟩
     ·refine a0J.append (a0J.one (ObjO.keep (fun k hk=>⟨hk,?_⟩) _ _ HOv.out)) _ _ (a0J.keep (fun k hk=>⟨hk,?_⟩) _ _ HOs.out)
      all_goals
       rcases hk with hk|hk
       ·have:=HJ.out.bnd k hk
        exact hkk k (by omega) (by omega) (by omega)
       ·have:=HS2.out k hk
        exact hkk k (by omega) (by omega) (by omega)
     ·intro k hk
      have hat:=Hat7.out;rcases hk with hk|hk
      ·have h1:=HJ.out.bnd k hk
       refine⟨h1.1,by omega,h1.2.2.1,fun e=>?_⟩;have e:gg=k:=by simpa[Value.ownBlock] using e
       rcases hat with h|h
       ·exact h1.2.2.2 (h.trans (by rw[e]))
       ·omega
      ·have h1:=HS2.out k hk
       refine⟨by omega,by omega,by omega,fun e=>?_⟩;have e:gg=k:=by simpa[Value.ownBlock] using e
       rcases hat with h|h
       ·have:=Hrl.out _ h;omega
       ·omega
     ·exact a0g (a0g HG7.out Hg8.out (fun j hj=>by injection hj with hj;omega)) hst (fun j hj=>by injection hj with hj;omega)
     ·have:=HJ.out.len;have:=H3'.out.2.2.2.1;have:=Hhv.out.2;simp;omega
theorem b4J (w:World)(nn:NQ)(n:Nat)(b:Nat)(l1 t r:By)(hL:a0v w b (40::l1))(hl:l1.length≤150000)(h:litF (40::l1) 0 []=some (t,r))(hQ:∀s,l1=s++41::r→nn.2 (.lit s))(lv:Int) :
  Calls Tryz.prog 82 #[.agg #[],.pointer (some ⟨b,0,none⟩),.int .i64 lv,.int .i64 100,.bool false] w fun e w'=>a0E nn (n+1) w w' b (.str t) r e:=by
 obtain⟨s,hs,hb,hlit⟩:=b6X h;obtain⟨c0,f0⟩:=hL.cell;have hbw:=hL.lt;obtain⟨z,hz⟩:∃z,z=bs (40::l1):=⟨_,rfl⟩;obtain⟨hk1,hget⟩:=a3k (l:=40::l1) (pre:=[]) (c:=40) (post:=l1) rfl;have hz0:0<z.size:=by rw[hz];exact hk1
 have hg0:z[0]'hz0=40:=by simp only[hz];exact hget
 rw[←hz]at c0;have hga:w.grownBy (w.alloc (Obj.cells #[] 99)) none:=a0a (xgr _ _) _;have hd:=b0B (w.alloc (Obj.cells #[] 99)) b l1 s r (hL.keep hga (by simp)) hb hs (by omega);obtain⟨HL,Hlit⟩:=xh2 hL hlit;have HQ:=xhd (hQ s hs);have Hsl:=xhd (show s.length≤319999 by rw[hs]at hl;simp at hl;omega);have Hga:=xhd hga;clear hL h hQ hs hb hlit hz hk1 hget hga;go_enter Tryz.func82,Tryz.ntmps82;go_wp2_with fail
 refine hd.mono ?_;rintro e w1⟨rfl,hL1,hg1⟩;have H:=xhd (show a0E nn (n+1) w w1 b (.str t) r (.returned (.tuple #[.iface 69 (.string (bs s)),.nilIface])) from a0E.plain (.lit s) _ rfl (fun _ _=>by simp only[ObjO];exact⟨Hsl.out,trivial⟩) (by simp only[Corr];exact Hlit.out) HQ.out hL1 ((Hga.out.but (some b)).trans hg1));clear hL1 hg1;go_wp2_with fail
 go_ret2;exact H.out
theorem a0E.box {nn:NQ}{n:Nat}{w wb w':World}{b:Nat}{x:PV}{r:By}{e:Ending}(hg:w.grownBy wb none)(h:a0E nn n wb w' b x r e):a0E nn n w w' b x r e:=by
 obtain⟨po,v,S,h1,h2,h3,h4,h5,h6⟩:=h;exact⟨po,v,S,h1,h2,fun k hk=>by have:=h3 k hk;have:=hg.size;omega,h4,h5,(hg.but (some b)).trans h6⟩
theorem b2G (pf:By→Nat)(nn:Nat→Prop)(Q:PO→Prop)(W0 w:World)(hE:Env W0 w)(hI:a3M W0)(n:Nat)(hC:ObjC pf nn W0 n)(b:Nat)(l2:By)(hL:a0v w b (60::60::l2))(hl:l2.length≤150000)(hW0:W0.heap.size≤b)(lv:Int)(hlv:0≤lv)(hlv2:lv+n+1≤100)
  (m:Nat)(res:List By×List PV)(r:By)(h:a0A (rdV pf n) m l2 false [] []=some (res,r,false))(hQ:∀pk ps,DSp (SpF pf nn n) l2 pk ps (62::62::r)→Q (.dict pk ps)) :
  Calls Tryz.prog 82 #[.agg #[],.pointer (some ⟨b,0,none⟩),.int .i64 lv,.int .i64 100,.bool false] w fun e w'=>a0E (nn,Q) (n+1) w w' b (.dict res.1 res.2) r e:=by
 obtain⟨c0,f0⟩:=hL.cell;have hbw:=hL.lt;obtain⟨z,hz⟩:∃z,z=bs (60::60::l2):=⟨_,rfl⟩;obtain⟨hk1,hget⟩:=a3k (l:=60::60::l2) (pre:=[]) (c:=60) (post:=60::l2) rfl;have hz0:0<z.size:=by rw[hz];exact hk1
 have hg0:z[0]'hz0=60:=by simp only[hz];exact hget
 have hga:w.grownBy (w.alloc (Obj.cells #[] 99)) none:=a0a (xgr _ _) _;rw[←hz]at c0;have hd:=a8y pf nn Q W0 (w.alloc (Obj.cells #[] 99)) (hE.grown0 hga) hI n hC b l2 (hL.keep hga (by simp)) hl hW0 lv hlv hlv2 m res r h hQ;have Hga:=xhd hga;clear hL h hz hk1 hget hga hE hI hC hQ;go_enter Tryz.func82,Tryz.ntmps82;go_wp2_with fail
 refine hd.mono ?_;intro e w1 h1;have H:=xhd (a0E.box Hga.out h1);obtain⟨po,v,S,rfl,-,-,-,-,-⟩:=h1;go_wp2_with fail
 go_ret2;exact H.out
theorem b4I (W0 w:World)(hE:Env W0 w)(hI:a3M W0)(nn:NQ)(n:Nat)(b:Nat)(l1 t r:By)(hL:a0v w b (60::l1))(hl:l1.length≤150000)(h60:is2 (60::l1) 60=false)(h:hexF l1 false 0 [] false=(0,t,r,false))(hQ:∀a m c,l1=a++m++c++62::r→(∀x∈a,a0h (x.toNat:Int)=true)→(∀x∈c,a0h (x.toNat:Int)=true)→nn.2 (.hexl (hexS m 0 [])))(lv:Int) :
  Calls Tryz.prog 82 #[.agg #[],.pointer (some ⟨b,0,none⟩),.int .i64 lv,.int .i64 100,.bool false] w fun e w'=>a0E nn (n+1) w w' b (.str t) r e:=by
 obtain⟨c0,f0⟩:=hL.cell;have hbw:=hL.lt;obtain⟨z,hz⟩:∃z,z=bs (60::l1):=⟨_,rfl⟩;obtain⟨hk1,hget⟩:=a3k (l:=60::l1) (pre:=[]) (c:=60) (post:=l1) rfl;have hz0:0<z.size:=by rw[hz];exact hk1
 have hg0:z[0]'hz0=60:=by simp only[hz];exact hget
 have hga:w.grownBy (w.alloc (Obj.cells #[] 99)) none:=a0a (xgr _ _) _;rw[←hz]at c0;have hd:=b0q W0 (w.alloc (Obj.cells #[] 99)) (hE.grown0 hga) hI nn n b l1 t r (hL.keep hga (by simp)) hl h60 h hQ lv;have Hga:=xhd hga;clear hL h hz hk1 hget hga hE hI h60 hQ;go_enter Tryz.func82,Tryz.ntmps82;go_wp2_with fail
 refine hd.mono ?_;intro e w1 h1;have H:=xhd (a0E.box Hga.out h1);obtain⟨po,v,S,rfl,-,-,-,-,-⟩:=h1;go_wp2_with fail
 go_ret2;exact H.out
theorem b2H (W0 w:World)(hE:Env W0 w)(hI:a3M W0)(nn:NQ)(n:Nat)(b:Nat)(l1 k:By)(hL:a0v w b (47::l1))(hl:l1.length≤150000)(hW0:W0.heap.size≤b)(ho:a0t l1 false=false)(hk:a0R (a0c l1) []=some k)(hQ:nn.2 (.name k))(lv:Int) :
  Calls Tryz.prog 82 #[.agg #[],.pointer (some ⟨b,0,none⟩),.int .i64 lv,.int .i64 100,.bool false] w fun e w'=>a0E nn (n+1) w w' b (.name k) (a0k l1) e:=by
 obtain⟨c0,f0⟩:=hL.cell;have hbw:=hL.lt;obtain⟨z,hz⟩:∃z,z=bs (47::l1):=⟨_,rfl⟩;obtain⟨hk1,hget⟩:=a3k (l:=47::l1) (pre:=[]) (c:=47) (post:=l1) rfl;have hz0:0<z.size:=by rw[hz];exact hk1
 have hg0:z[0]'hz0=47:=by simp only[hz];exact hget
 have hga:w.grownBy (w.alloc (Obj.cells #[] 99)) none:=a0a (xgr _ _) _;rw[←hz]at c0
 have hkn:∀c∈k,(c.toNat:Int)≠0:=a7R _ _ _ hk (by simp) (fun c hc=>by
  have:=(a6b ((a1g l1 ho).1 c hc).1).1
  exact this)
 have hd:=a5L W0 hI (w.alloc (Obj.cells #[] 99)) (hE.grown0 hga) b l1 k (hL.keep hga (by simp)) ho hk (by omega) hW0;obtain⟨Hga,Hkn,HQ⟩:=xh3 hga hkn hQ;have Hkl:=xhd (show k.length≤319999 by have h1:=a3z _ _ _ hk;have h2:(a0c l1).length≤l1.length:=(List.takeWhile_sublist _).length_le;simp at h1;omega);clear hL hz hk1 hget hga hE hI hk ho hkn hQ;go_enter Tryz.func82,Tryz.ntmps82;go_wp2_with fail
 refine hd.mono ?_;rintro e w1⟨⟨pb,rfl,hpb,hpbs⟩,hL1,hg1⟩;have hp0:w1.cell? ⟨pb,0,none⟩=some (.string (bs k)):=by simp[World.cell?,hpb]
 have H:=xhd (show a0E nn (n+1) w w1 b (.name k) (a0k l1) (.returned (.tuple #[.iface 71 (.string (bs k)),.nilIface])) from a0E.plain (.name k) _ rfl (fun _ _=>by simp only[ObjO];exact⟨Hkl.out,trivial⟩) (by simp only[Corr];exact⟨trivial,Hkn.out⟩) HQ.out hL1 ((Hga.out.but (some b)).trans hg1));clear hL1 hg1 hpb hpbs;go_wp2_with fail
 go_ret2;exact H.out
theorem b4H (pf:By→Nat)(nn:Nat→Prop)(Q:PO→Prop)(W0 w:World)(hE:Env W0 w)(n:Nat)(hC:ObjC pf nn W0 n)(b:Nat)(l1:By)(hL:a0v w b (91::l1))(hl:l1.length≤150000)(hW0:W0.heap.size≤b)(lv:Int)(hlv:0≤lv)(hlv2:lv+n+1≤100)
  (m:Nat)(xs:List PV)(r:By)(h:a1j (rdV pf n) m l1 false []=some (xs,r,false))(hQ:∀ps,SpA (SpF pf nn n) ps l1 (93::r)→Q (.arr ps)) :
  Calls Tryz.prog 82 #[.agg #[],.pointer (some ⟨b,0,none⟩),.int .i64 lv,.int .i64 100,.bool false] w fun e w'=>a0E (nn,Q) (n+1) w w' b (.arr xs) r e:=by
 obtain⟨c0,f0⟩:=hL.cell;have hbw:=hL.lt;obtain⟨z,hz⟩:∃z,z=bs (91::l1):=⟨_,rfl⟩;obtain⟨hk1,hget⟩:=a3k (l:=91::l1) (pre:=[]) (c:=91) (post:=l1) rfl;have hz0:0<z.size:=by rw[hz];exact hk1
 have hg0:z[0]'hz0=91:=by simp only[hz];exact hget
 have hga:w.grownBy (w.alloc (Obj.cells #[] 99)) none:=a0a (xgr _ _) _;rw[←hz]at c0;have hd:=b1f pf nn W0 (w.alloc (Obj.cells #[] 99)) (hE.grown0 hga) n hC b l1 (hL.keep hga (by simp)) hl hW0 lv hlv hlv2 m xs r h;obtain⟨Hga,HQ⟩:=xh2 hga hQ;clear hL h hz hk1 hget hga hE hC hQ;go_enter Tryz.func82,Tryz.ntmps82;go_wp2_with fail
 refine hd.mono ?_;rintro e w1⟨ps,sl,cells,S,ab,rfl,hab,hsl,hO,hS,hCo,hL1,hg1,hpl⟩;have hp0:w1.cell? ⟨ab,0,none⟩=some sl:=by simp[World.cell?,hab]
 have H:=xhd (show a0E (nn,Q) (n+1) w w1 b (.arr xs) r (.returned (.tuple #[.iface 77 sl,.nilIface])) from a0E.box Hga.out ⟨.arr ps,_,S,rfl,by simp only[ObjO];exact⟨hpl,sl,cells,rfl,hsl,hO⟩,hS,⟨hCo.1,HQ.out _ hCo.2⟩,hL1,hg1⟩)
 obtain⟨o',cap,rfl⟩:∃o' cap,sl=.slice o' ps.length cap:=by
  obtain⟨_,o',cap,h,_⟩:=hsl;exact⟨o',cap,h⟩
 clear hL1 hg1 hab hsl hO hS hCo hpl;go_wp2_with fail
 go_ret2;exact H.out
theorem b7a {c:UInt8}(h:(c.toNat:Int)=43∨(c.toNat:Int)=45∨(c.toNat:Int)=46∨48≤(c.toNat:Int)∧(c.toNat:Int)≤57):loB c≠110∧loB c≠116∧loB c≠102:=by
 rw[b1W (by omega)];refine⟨?_,?_,?_⟩<;>(rintro rfl;simp at h)
theorem a6A {c:UInt8}(hd:a0U (c.toNat:Int)=false):((c.toNat:Int)==91)=false∧((c.toNat:Int)==47)=false∧((c.toNat:Int)==60)=false∧((c.toNat:Int)==40)=false:=by
 unfold a0U at hd;simp at hd⊢;omega
theorem a7v (nn:NQ)(n:Nat)(w:World)(b:Nat)(c:UInt8)(l1 wd R:By)(hL:a0v w b (c::l1))(hsp:c::l1=wd++R)(hd:a0U (c.toNat:Int)=false)(v:Value)(po:PO)(x:PV)(hwl:wd.length≤5)(hO:∀S w,ObjO S w po v)(hCo:Corr nn.1 (n+1) po x)(hQ:nn.2 po)
  (hb:∀w,Calls Tryz.prog 103 #[.string (bs (c::l1))] w fun e w'=>e=.returned (.tuple #[v,.string (bs wd),.bool true])∧Below w.heap.size w w')(hv:v=.nilIface∨∃y,v=.iface 66 (.bool y))(lv:Int) :
  Calls Tryz.prog 82 #[.agg #[],.pointer (some ⟨b,0,none⟩),.int .i64 lv,.int .i64 100,.bool false] w fun e w'=>a0E nn (n+1) w w' b x R e:=by
 obtain⟨c0,f0⟩:=hL.cell;have hbw:=hL.lt;obtain⟨z,hz⟩:∃z,z=bs (c::l1):=⟨_,rfl⟩;obtain⟨hk1,hget⟩:=a3k (l:=c::l1) (pre:=[]) (c:=c) (post:=l1) rfl;have hz0:0<z.size:=by rw[hz];exact hk1
 have hg0:z[0]'hz0=c:=by simp only[hz];exact hget
 have hga:w.grownBy (w.alloc (Obj.cells #[] 99)) none:=a0a (xgr _ _) _;have hfw:=fun w=>a2J (c::l1) wd.length w;rw[show (c::l1).drop wd.length=R by rw[hsp];simp]at hfw;rw[←hz]at c0 hb;obtain⟨h91,h47,h60,h40⟩:=a6A hd;obtain⟨HL,Hga⟩:=xh2 hL hga;have Hoc:=xhd (And.intro hO (And.intro hCo hQ));obtain⟨y,hy⟩:∃y,y=bs wd:=⟨_,rfl⟩;have hys:(y.size:Int)=wd.length:=by rw[hy,a0f]
 rw[←hy]at hb;rw[←hys]at hfw;clear hL hz hk1 hget hga hd hO hCo hQ hy hsp;rcases hv with rfl|⟨yy,rfl⟩
 all_goals
  clear hys;go_enter Tryz.func82,Tryz.ntmps82;go_wp2_with fail
  refine(hb _).mono ?_;rintro e w1⟨rfl,hb1⟩;have hg1:=Hga.out.trans (a0o hb1);have hL1:=HL.out.keep hg1 (by simp);obtain⟨c1,f1⟩:=hL1.cell;obtain⟨HL1,Hg1⟩:=xh2 hL1 hg1;clear hg1 hL1 hb1;go_wp2_with fail
  refine(hfw _).mono ?_;rintro e w2⟨rfl,hw2⟩;subst w2;go_wp2_with fail
  go_ret2;exact a0E.plain po _ rfl Hoc.out.1 Hoc.out.2.1 Hoc.out.2.2 (HL1.out.set R) (a0e (Hg1.out.but (some b)) _ _)
theorem b4G {c:UInt8}{l1:By}(hd:a0U (c.toNat:Int)=false)(hw:a0h (c.toNat:Int)=false):a0Y (c.toNat:Int)=true:=by
 unfold a0Y;rw[hw,hd];rfl
theorem b4K (pf:By→Nat)(nn:NQ)(hnn:∀t,a1q t→nn.1 (pf t))(hQ:∀po:PO,po.atom=true→nn.2 po)(W0 w:World)(ea eb:Addr)(ca cb:Array Value)(hI:b0k W0 ea eb ca cb)(hpf:PFC pf W0)(hE:Env W0 w)(n:Nat)(b:Nat)(c:UInt8)(l1:By)(hL:a0v w b (c::l1))(hl:l1.length≤150000)(hW0:W0.heap.size≤b)(hd:a0U (c.toNat:Int)=false)(hw:a0h (c.toNat:Int)=false)(x:PV)(r:By)(h:a1p pf (c::l1) false=some (x,r,false))(lv:Int) :
  Calls Tryz.prog 82 #[.agg #[],.pointer (some ⟨b,0,none⟩),.int .i64 lv,.int .i64 100,.bool false] w fun e w'=>a0E nn (n+1) w w' b x r e:=by
 have hr:=b4G (l1:=l1) hd hw;have hsp:=a0D (c::l1)
 by_cases h1:a0c (c::l1)=a3j
 ·have h':=h
  simp only[a1p,if_pos h1]at h';simp at h';obtain⟨rfl,rfl,_⟩:=h';rw[h1]at hsp;exact a7v nn n w b c l1 a3j (a0k (c::l1)) hL hsp.symm hd (.iface 66 (.bool true)) (.bool true) _ (by decide) (fun _ _=>by simp only[ObjO]) (by simp[Corr]) (hQ _ rfl) (fun w=>b3S (c::l1) (a0k (c::l1)) hsp.symm (by simp;omega) w) (.inr ⟨_,rfl⟩) lv
 ·by_cases h2:a0c (c::l1)=a1Z
  ·have h':=h
   simp only[a1p,if_neg h1,if_pos h2]at h';simp at h';obtain⟨rfl,rfl,_⟩:=h';rw[h2]at hsp;exact a7v nn n w b c l1 a1Z (a0k (c::l1)) hL hsp.symm hd (.iface 66 (.bool false)) (.bool false) _ (by decide) (fun _ _=>by simp only[ObjO]) (by simp[Corr]) (hQ _ rfl) (fun w=>b1k (c::l1) (a0k (c::l1)) hsp.symm (by simp;omega) w) (.inr ⟨_,rfl⟩) lv
  ·by_cases h3:a0c (c::l1)=a3x
   ·have h':=h
    simp only[a1p,if_neg h1,if_neg h2,if_pos h3]at h';simp at h';obtain⟨rfl,rfl,_⟩:=h';rw[h3]at hsp;exact a7v nn n w b c l1 a3x (a0k (c::l1)) hL hsp.symm hd .nilIface .null _ (by decide) (fun _ _=>by simp only[ObjO]) (by simp[Corr]) (hQ _ rfl) (fun w=>b3R (c::l1) (a0k (c::l1)) hsp.symm (by simp;omega) w) (.inl rfl) lv
   ·have h0:(numF pf (a0c (c::l1))).2.2.2=0:=by
     have h':=h;simp only[a1p,if_neg h1,if_neg h2,if_neg h3]at h'
     split at h'
     ·simp at h'
     ·rename_i h0;simpa using h0
    have hwt:a0c (c::l1)=c::a0c l1:=by simp[a0c,hr]
    have hhd:=b4s (pf:=pf) (c:=c) (l:=a0c l1) (by rw[←hwt,h0];decide);obtain⟨q1,q2,q3⟩:=b7a hhd;obtain⟨c0,f0⟩:=hL.cell;have hbw:=hL.lt;obtain⟨z,hz⟩:∃z,z=bs (c::l1):=⟨_,rfl⟩;obtain⟨hk1,hget⟩:=a3k (l:=c::l1) (pre:=[]) (c:=c) (post:=l1) rfl;have hz0:0<z.size:=by rw[hz];exact hk1
    have hg0:z[0]'hz0=c:=by simp only[hz];exact hget
    have hga:w.grownBy (w.alloc (Obj.cells #[] 99)) none:=a0a (xgr _ _) _;have hbn:=fun w=>b3Q c l1 q1 q2 q3 (by omega) w;rw[←hz]at c0 hbn;have hfin:=fun (w2:World) (hE2:Env W0 w2) (hL2:a0v w2 b (c::l1))=>b0G pf nn hnn hQ W0 w2 ea eb ca cb hI hpf hE2 b (c::l1) hL2 (by simp;omega) hW0 x r h1 h2 h3 h n;obtain⟨h91,h47,h60,h40⟩:=a6A hd;obtain⟨HL,Hga,HE,Hfin⟩:=xh4 hL hga hE hfin;clear hL hz hk1 hget hga hd hE hfin h1 h2 h3 h h0 hwt hhd q1 q2 q3 hsp hw hr hI hpf hQ;go_enter Tryz.func82,Tryz.ntmps82;go_wp2_with fail
    refine(hbn _).mono ?_;rintro e w1⟨⟨v1,s1,rfl⟩,hb1⟩;have hg1:=Hga.out.trans (a0o hb1);have hL1:=HL.out.keep hg1 (by simp);have hd:=Hfin.out w1 (HE.out.grown0 hg1) hL1;have Hg1:=xhd hg1;clear hg1 hL1 hb1;go_wp2_with fail
    refine hd.mono ?_;intro e w2 hp;have H:=xhd (a0E.box Hg1.out hp);obtain⟨po,v,S,rfl,-,-,-,-,-⟩:=hp;go_wp2_with fail
    go_ret2;exact H.out
end Go.Proofs.YtfkecmlmnhbmoaaGreatDoor
namespace Go.Proofs.YtfkecmlmnhbmoaaGreatDoor
open Go Go.RowKit
theorem a9y (w:World)(B:Nat)(v0:Value)(neg:Bool)(hown:OwnB B w v0 [])(hB:B≤w.heap.size)(sh:Bool) :
  Calls Tryz.prog 115 #[v0,.bool neg,.slice none 0 0,.int .i64 0,.int .i64 0,.int .i64 12,.int .u8 102,.bool sh] w fun e w'=>∃v',e=.returned v'∧a1i w w' v0 v' B (ftxt neg [] 0):=by
 obtain⟨L,hL⟩:∃L:By,L=[]:=⟨_,rfl⟩;obtain⟨z1,hz1⟩:∃z:Nat,z=0:=⟨_,rfl⟩;obtain⟨offn,hoffn⟩:∃z:Nat,z=0:=⟨_,rfl⟩;obtain⟨md,hmd⟩:∃z:Nat,z=0:=⟨_,rfl⟩;obtain⟨tz,htz⟩:∃z:Nat,z=12:=⟨_,rfl⟩;have hz12:z1≤12:=by omega
 have hmd0:md≤0:=by omega
 have hmd12:z1+md+tz=12:=by omega
 have Hfin:=xhd (show ftxt neg [] 0=((if neg then [45] else [])++[48])++46::(List.replicate z1 48++((L.drop offn).take md++List.replicate tz 48)) from by
  rw[hL,hz1,hoffn,hmd,htz];cases neg<;>rfl)
 have HD:=xhd (a1i.start hown hB);have HZ:=xhd (And.intro hz1 (And.intro hoffn (And.intro hmd htz)));clear hown hB hz1 hoffn hmd htz hL
 cases neg
 ·replace Hfin:=xhd (show _=([48]:By)++46::(List.replicate z1 48++((L.drop offn).take md++List.replicate tz 48)) from Hfin.out)
  have HLn:=xhd (show ([]:By).length≤20 by simp);have HPl:=xhd (show ([48]:By).length≤20 by simp);go_enter Tryz.func115,Tryz.ntmps115
  go_upto_region 67 with ((at_builtin;(refine a0m rfl (.tmp 209) (.tmp 210) rfl B _ ([]:By) 48 _ rfl (OwnB.alloc HD.out.own _) _ rfl (by rw[World.cell?_alloc_at _ _ _ _ (by simp)];rfl) rfl (by have:=HLn.out;omega) (by have:=HD.out.base;have:=HD.out.gr.size;simp;omega) ?_));intro v1 w1 hown1 hgr1 hat1;have HD1:=xhd (HD.out.push hown1 hgr1 hat1);clear hown1 hgr1 hat1)
  replace HD:=xhd (show a1i w w1 v0 v1 B [48] from HD1.out);clear HD1;replace HLn:=HPl;obtain⟨P,hP⟩:∃P:By,P=[48]:=⟨_,rfl⟩;rw[←hP]at Hfin HPl HLn HD;clear hP
  go_upto_region 69 with ((at_builtin;(refine a0m rfl (.tmp 214) (.tmp 215) rfl B _ P 46 _ rfl (OwnB.alloc HD.out.own _) _ rfl (by rw[World.cell?_alloc_at _ _ _ _ (by simp)];rfl) rfl (by have:=HLn.out;omega) (by have:=HD.out.base;have:=HD.out.gr.size;simp;omega) ?_));intro v1 w1 hown1 hgr1 hat1;have HD1:=xhd (HD.out.push hown1 hgr1 hat1);clear hown1 hgr1 hat1)
  clear HD
  go_cut [26] from 217 to 221 (fun tt wr=>tt=.int .i64 (z1:Nat)∧w1=wr)
  case first =>
   go_wp2_with fail
   all_goals
    go_meet
    case rel =>
     obtain⟨q1,q2,q3,q4⟩:=HZ.out;exact⟨congrArg (Value.int .i64) (by omega),rfl⟩
  obtain⟨rfl,rfl⟩:=hcut
  go_upto_region 71 with (fail)
  go_cut [28] from 225 to 232 (fun tt wr=>tt=.int .i64 (md:Nat)∧w1=wr)
  case first =>
   go_wp2_with fail
   all_goals
    go_meet
    case rel =>
     obtain⟨q1,q2,q3,q4⟩:=HZ.out;exact⟨congrArg (Value.int .i64) (by omega),rfl⟩
  obtain⟨rfl,rfl⟩:=hcut
  go_upto_region 72 with (fail)
  go_cut [29] from 233 to 238 (fun tt wr=>tt=.int .i64 (tz:Nat)∧w1=wr)
  case first =>
   go_wp2_with fail
   all_goals
    go_meet
    case rel =>
     obtain⟨q1,q2,q3,q4⟩:=HZ.out;exact⟨congrArg (Value.int .i64) (by omega),rfl⟩
  obtain⟨rfl,rfl⟩:=hcut;go_wp2_with fail
  go_loopg [0,240] z1 (fun g t0 t240 wr=>∃i v l,t240=.int .i64 (i:Nat)∧t0=v∧i≤z1∧g=z1-i∧l=P++46::List.replicate i 48∧l.length≤100∧a1i w wr v0 v B l)
  case atStart=>exact⟨0,_,_,rfl,rfl,Nat.zero_le _,rfl,rfl,by have:=HPl.out;simp;omega,HD1.out⟩
  case round =>
   clear HD1;obtain⟨i,v,l,rfl,rfl,hi,hg,hl,hln,hD⟩:=hrel;obtain⟨Hg,Hl,HLn,HD⟩:=xh4 hg hl hln hD;clear hg hl hln hD
   by_cases hiz:i<z1
   ·have hnm:(i:Int)<z1:=by omega
    go_wp2_with ((at_builtin;(refine a0m rfl (.tmp 242) (.tmp 243) rfl B _ l 48 _ rfl (OwnB.alloc HD.out.own _) _ rfl (by rw[World.cell?_alloc_at _ _ _ _ (by simp)];rfl) rfl (by have:=HLn.out;omega) (by have:=HD.out.base;have:=HD.out.gr.size;simp;omega) ?_));intro v1 w1 hown1 hgr1 hat1;have HD1:=xhd (HD.out.push hown1 hgr1 hat1);clear hown1 hgr1 hat1)
    go_wp2_with fail
    go_roundg (z1-(i+1))
    case measure=>rw[Hg.out];omega
    case rel=>exact⟨i+1,_,_,by simp,rfl,by omega,rfl,by rw[Hl.out,List.replicate_succ'];simp,by have:=HPl.out;have:=hz12;rw[Hl.out];simp;omega,HD1.out⟩
   ·obtain rfl:i=z1:=by omega
    have hnm:¬(i:Int)<i:=by omega
    go_wp2_with fail
    go_loopg [0,247] md (fun g t0 t247 wr=>∃j v l,t247=.int .i64 (j:Nat)∧t0=v∧j≤md∧g=md-j∧l=P++46::(List.replicate i 48++(L.drop offn).take j)∧l.length≤100∧a1i w wr v0 v B l)
    case atStart=>exact⟨0,_,_,rfl,rfl,Nat.zero_le _,rfl,by rw[Hl.out];simp,HLn.out,HD.out⟩
    case round =>
     clear HD HLn Hl Hg;obtain⟨j,v,l,rfl,rfl,hj,hg,hl,hln,hD⟩:=hrel;obtain⟨Hg,Hl,HLn,HD⟩:=xh4 hg hl hln hD;clear hg hl hln hD
     by_cases hjm:j<md
     ·exfalso;omega
     ·obtain rfl:j=md:=by omega
      have hnm2:¬(j:Int)<j:=by omega
      go_wp2_with fail
      go_loopg [0,261] tz (fun g t0 t261 wr=>∃k v l,t261=.int .i64 (k:Nat)∧t0=v∧k≤tz∧g=tz-k∧l=P++46::(List.replicate i 48++((L.drop offn).take j++List.replicate k 48))∧l.length≤100∧a1i w wr v0 v B l)
      case atStart=>exact⟨0,_,_,rfl,rfl,Nat.zero_le _,rfl,by rw[Hl.out];simp,HLn.out,HD.out⟩
      case round =>
       clear HD HLn Hl Hg;obtain⟨k,v,l,rfl,rfl,hk,hg,hl,hln,hD⟩:=hrel;obtain⟨Hg,Hl,HLn,HD⟩:=xh4 hg hl hln hD;clear hg hl hln hD
       by_cases hkt:k<tz
       ·have hnm3:(k:Int)<tz:=by omega
        go_wp2_with ((at_builtin;(refine a0m rfl (.tmp 263) (.tmp 264) rfl B _ l 48 _ rfl (OwnB.alloc HD.out.own _) _ rfl (by rw[World.cell?_alloc_at _ _ _ _ (by simp)];rfl) rfl (by have:=HLn.out;omega) (by have:=HD.out.base;have:=HD.out.gr.size;simp;omega) ?_));intro v1 w1 hown1 hgr1 hat1;have HD1:=xhd (HD.out.push hown1 hgr1 hat1);clear hown1 hgr1 hat1)
        go_wp2_with fail
        go_roundg (tz-(k+1))
        case measure=>rw[Hg.out];omega
        case rel=>exact⟨k+1,_,_,by simp,rfl,by omega,rfl,by rw[Hl.out,List.replicate_succ'];simp,by have:=HPl.out;have:=hmd12;rw[Hl.out];simp;omega,HD1.out⟩
       ·obtain rfl:k=tz:=by omega
        have hnm3:¬(k:Int)<k:=by omega
        go_wp2_with fail
        go_ret;refine⟨_,rfl,?_⟩;rw[Hfin.out,←Hl.out];exact HD.out
 ·replace Hfin:=xhd (show _=([45,48]:By)++46::(List.replicate z1 48++((L.drop offn).take md++List.replicate tz 48)) from Hfin.out)
  have HLn:=xhd (show ([]:By).length≤20 by simp);have HPl:=xhd (show ([45,48]:By).length≤20 by simp);go_enter Tryz.func115,Tryz.ntmps115
  go_upto_region 55 with ((at_builtin;(refine a0m rfl (.tmp 179) (.tmp 180) rfl B _ ([]:By) 45 _ rfl (OwnB.alloc HD.out.own _) _ rfl (by rw[World.cell?_alloc_at _ _ _ _ (by simp)];rfl) rfl (by have:=HLn.out;omega) (by have:=HD.out.base;have:=HD.out.gr.size;simp;omega) ?_));intro v1 w1 hown1 hgr1 hat1;have HD1:=xhd (HD.out.push hown1 hgr1 hat1);clear hown1 hgr1 hat1)
  replace HD:=xhd (show a1i w w1 v0 v1 B [45] from HD1.out);clear HD1;replace HLn:=xhd (show ([45]:By).length≤20 by simp)
  go_upto_region 67 with ((at_builtin;(refine a0m rfl (.tmp 209) (.tmp 210) rfl B _ ([45]:By) 48 _ rfl (OwnB.alloc HD.out.own _) _ rfl (by rw[World.cell?_alloc_at _ _ _ _ (by simp)];rfl) rfl (by have:=HLn.out;omega) (by have:=HD.out.base;have:=HD.out.gr.size;simp;omega) ?_));intro v1 w1 hown1 hgr1 hat1;have HD1:=xhd (HD.out.push hown1 hgr1 hat1);clear hown1 hgr1 hat1)
  replace HD:=xhd (show a1i w _ v0 _ B [45,48] from HD1.out);clear HD1;replace HLn:=HPl;obtain⟨P,hP⟩:∃P:By,P=[45,48]:=⟨_,rfl⟩;rw[←hP]at Hfin HPl HLn HD;clear hP
  go_upto_region 69 with ((at_builtin;(refine a0m rfl (.tmp 214) (.tmp 215) rfl B _ P 46 _ rfl (OwnB.alloc HD.out.own _) _ rfl (by rw[World.cell?_alloc_at _ _ _ _ (by simp)];rfl) rfl (by have:=HLn.out;omega) (by have:=HD.out.base;have:=HD.out.gr.size;simp;omega) ?_));intro v1 w1 hown1 hgr1 hat1;have HD1:=xhd (HD.out.push hown1 hgr1 hat1);clear hown1 hgr1 hat1)
  clear HD
  go_cut [26] from 217 to 221 (fun tt wr=>tt=.int .i64 (z1:Nat)∧w1=wr)
  case first =>
   go_wp2_with fail
   all_goals
    go_meet
    case rel =>
     obtain⟨q1,q2,q3,q4⟩:=HZ.out;exact⟨congrArg (Value.int .i64) (by omega),rfl⟩
  obtain⟨rfl,rfl⟩:=hcut
  go_upto_region 71 with (fail)
  go_cut [28] from 225 to 232 (fun tt wr=>tt=.int .i64 (md:Nat)∧w1=wr)
  case first =>
   go_wp2_with fail
   all_goals
    go_meet
    case rel =>
     obtain⟨q1,q2,q3,q4⟩:=HZ.out;exact⟨congrArg (Value.int .i64) (by omega),rfl⟩
  obtain⟨rfl,rfl⟩:=hcut
  go_upto_region 72 with (fail)
  go_cut [29] from 233 to 238 (fun tt wr=>tt=.int .i64 (tz:Nat)∧w1=wr)
  case first =>
   go_wp2_with fail
   all_goals
    go_meet
    case rel =>
     obtain⟨q1,q2,q3,q4⟩:=HZ.out;exact⟨congrArg (Value.int .i64) (by omega),rfl⟩
  obtain⟨rfl,rfl⟩:=hcut;go_wp2_with fail
  go_loopg [0,240] z1 (fun g t0 t240 wr=>∃i v l,t240=.int .i64 (i:Nat)∧t0=v∧i≤z1∧g=z1-i∧l=P++46::List.replicate i 48∧l.length≤100∧a1i w wr v0 v B l)
  case atStart=>exact⟨0,_,_,rfl,rfl,Nat.zero_le _,rfl,rfl,by have:=HPl.out;simp;omega,HD1.out⟩
  case round =>
   clear HD1;obtain⟨i,v,l,rfl,rfl,hi,hg,hl,hln,hD⟩:=hrel;obtain⟨Hg,Hl,HLn,HD⟩:=xh4 hg hl hln hD;clear hg hl hln hD
   by_cases hiz:i<z1
   ·have hnm:(i:Int)<z1:=by omega
    go_wp2_with ((at_builtin;(refine a0m rfl (.tmp 242) (.tmp 243) rfl B _ l 48 _ rfl (OwnB.alloc HD.out.own _) _ rfl (by rw[World.cell?_alloc_at _ _ _ _ (by simp)];rfl) rfl (by have:=HLn.out;omega) (by have:=HD.out.base;have:=HD.out.gr.size;simp;omega) ?_));intro v1 w1 hown1 hgr1 hat1;have HD1:=xhd (HD.out.push hown1 hgr1 hat1);clear hown1 hgr1 hat1)
    go_wp2_with fail
    go_roundg (z1-(i+1))
    case measure=>rw[Hg.out];omega
    case rel=>exact⟨i+1,_,_,by simp,rfl,by omega,rfl,by rw[Hl.out,List.replicate_succ'];simp,by have:=HPl.out;have:=hz12;rw[Hl.out];simp;omega,HD1.out⟩
   ·obtain rfl:i=z1:=by omega
    have hnm:¬(i:Int)<i:=by omega
    go_wp2_with fail
    go_loopg [0,247] md (fun g t0 t247 wr=>∃j v l,t247=.int .i64 (j:Nat)∧t0=v∧j≤md∧g=md-j∧l=P++46::(List.replicate i 48++(L.drop offn).take j)∧l.length≤100∧a1i w wr v0 v B l)
    case atStart=>exact⟨0,_,_,rfl,rfl,Nat.zero_le _,rfl,by rw[Hl.out];simp,HLn.out,HD.out⟩
    case round =>
     clear HD HLn Hl Hg;obtain⟨j,v,l,rfl,rfl,hj,hg,hl,hln,hD⟩:=hrel;obtain⟨Hg,Hl,HLn,HD⟩:=xh4 hg hl hln hD;clear hg hl hln hD
     by_cases hjm:j<md
     ·exfalso;omega
     ·obtain rfl:j=md:=by omega
      have hnm2:¬(j:Int)<j:=by omega
      go_wp2_with fail
      go_loopg [0,261] tz (fun g t0 t261 wr=>∃k v l,t261=.int .i64 (k:Nat)∧t0=v∧k≤tz∧g=tz-k∧l=P++46::(List.replicate i 48++((L.drop offn).take j++List.replicate k 48))∧l.length≤100∧a1i w wr v0 v B l)
      case atStart=>exact⟨0,_,_,rfl,rfl,Nat.zero_le _,rfl,by rw[Hl.out];simp,HLn.out,HD.out⟩
      case round =>
       clear HD HLn Hl Hg;obtain⟨k,v,l,rfl,rfl,hk,hg,hl,hln,hD⟩:=hrel;obtain⟨Hg,Hl,HLn,HD⟩:=xh4 hg hl hln hD;clear hg hl hln hD
       by_cases hkt:k<tz
       ·have hnm3:(k:Int)<tz:=by omega
        go_wp2_with ((at_builtin;(refine a0m rfl (.tmp 263) (.tmp 264) rfl B _ l 48 _ rfl (OwnB.alloc HD.out.own _) _ rfl (by rw[World.cell?_alloc_at _ _ _ _ (by simp)];rfl) rfl (by have:=HLn.out;omega) (by have:=HD.out.base;have:=HD.out.gr.size;simp;omega) ?_));intro v1 w1 hown1 hgr1 hat1;have HD1:=xhd (HD.out.push hown1 hgr1 hat1);clear hown1 hgr1 hat1)
        go_wp2_with fail
        go_roundg (tz-(k+1))
        case measure=>rw[Hg.out];omega
        case rel=>exact⟨k+1,_,_,by simp,rfl,by omega,rfl,by rw[Hl.out,List.replicate_succ'];simp,by have:=HPl.out;have:=hmd12;rw[Hl.out];simp;omega,HD1.out⟩
       ·obtain rfl:k=tz:=by omega
        have hnm3:¬(k:Int)<k:=by omega
        go_wp2_with fail
        go_ret;refine⟨_,rfl,?_⟩;rw[Hfin.out,←Hl.out];exact HD.out
end Go.Proofs.YtfkecmlmnhbmoaaGreatDoor
